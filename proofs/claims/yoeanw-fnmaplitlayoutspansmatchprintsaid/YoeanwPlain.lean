/-
  THE PLAIN SIDE OF THE SECOND LAW: sums of lengths, positions, the text that is gathered. No Go in sight.
-/
import Derived.Test.YoeanwMapString
namespace Go.Proofs.Yoeanw

/-- The sizes of the first k strings, added up. -/
def sumSz (S : Nat → ByteArray) : Nat → Nat
  | 0 => 0
  | k + 1 => sumSz S k + (S k).size

theorem sumSz_mono (S : Nat → ByteArray) {a b : Nat} (h : a ≤ b) : sumSz S a ≤ sumSz S b := by
  induction b with
  | zero => obtain rfl : a = 0 := by omega
            exact Nat.le_refl _
  | succ b ih =>
    rcases Nat.lt_or_ge a (b + 1) with h1 | h1
    · have := ih (by omega)
      show _ ≤ sumSz S b + (S b).size
      omega
    · obtain rfl : a = b + 1 := by omega
      exact Nat.le_refl _

theorem sumSz_one (S : Nat → ByteArray) {j n : Nat} (h : j < n) : (S j).size ≤ sumSz S n := by
  have h1 := sumSz_mono S (show j + 1 ≤ n by omega)
  have h2 : sumSz S (j + 1) = sumSz S j + (S j).size := rfl
  omega

/-- The position right behind the first k elements. -/
def curAt (base : Int) (K N : Nat → ByteArray) : Nat → Int
  | 0 => base + 1
  | k + 1 => (if k = 0 then base + 1 else curAt base K N k + 2) + ((K k).size + 2 + (N k).size)

/-- Where element k begins. -/
def posAt (base : Int) (K N : Nat → ByteArray) (k : Nat) : Int := if k = 0 then base + 1 else curAt base K N k + 2

theorem curAt_succ (base : Int) (K N : Nat → ByteArray) (k : Nat) : curAt base K N (k + 1) = posAt base K N k + ((K k).size + 2 + (N k).size) := rfl

theorem posAt_zero (base : Int) (K N : Nat → ByteArray) : posAt base K N 0 = base + 1 := rfl
theorem posAt_pos (base : Int) (K N : Nat → ByteArray) {k : Nat} (h : 0 < k) : posAt base K N k = curAt base K N k + 2 := by
  unfold posAt; rw [if_neg (by omega)]

theorem curAt_le (base : Int) (K N : Nat → ByteArray) (k : Nat) : base + 1 ≤ curAt base K N k ∧ curAt base K N k ≤ base + 1 + 4 * k + sumSz K k + sumSz N k := by
  induction k with
  | zero => simp [curAt, sumSz]
  | succ k ih =>
    rw [curAt_succ]
    have e1 : sumSz K (k + 1) = sumSz K k + (K k).size := rfl
    have e2 : sumSz N (k + 1) = sumSz N k + (N k).size := rfl
    rw [e1, e2]
    unfold posAt
    split <;> omega

theorem posAt_le (base : Int) (K N : Nat → ByteArray) (k : Nat) : base + 1 ≤ posAt base K N k ∧ posAt base K N k ≤ base + 3 + 4 * k + sumSz K k + sumSz N k := by
  have h := curAt_le base K N k
  unfold posAt
  split <;> omega

/-- The text that is gathered before the closing bracket. -/
def wantAt (K N : Nat → ByteArray) : Nat → List UInt8
  | 0 => [123]
  | k + 1 => (if k = 0 then wantAt K N k else wantAt K N k ++ [44, 32]) ++ (K k).data.toList ++ [58, 32] ++ (N k).data.toList

/-- Bytes as cells. -/
def cellsOf8 (l : List UInt8) : List Value := l.map fun b => Value.int .u8 b.toNat

theorem cellsOf8_append (a b : List UInt8) : cellsOf8 (a ++ b) = cellsOf8 a ++ cellsOf8 b := by simp [cellsOf8]
theorem cellsOf8_length (a : List UInt8) : (cellsOf8 a).length = a.length := by simp [cellsOf8]
theorem cellsOf8_str (s : ByteArray) : cellsOf8 s.data.toList = Lib.strCells s := rfl

theorem elemText_list (k s : ByteArray) : (elemText k s).data.toList = k.data.toList ++ [58, 32] ++ s.data.toList := by
  simp [elemText]

theorem elemText_size (k s : ByteArray) : (elemText k s).size = k.size + 2 + s.size := by
  unfold elemText
  rw [ByteArray.size_append, ByteArray.size_append]
  rfl

theorem len_list (s : ByteArray) : s.data.toList.length = s.size := by rw [Array.length_toList]; rfl

theorem wantAt_length (base : Int) (K N : Nat → ByteArray) (k : Nat) : ((wantAt K N k).length : Int) = curAt base K N k - base := by
  induction k with
  | zero => simp [wantAt, curAt]; omega
  | succ k ih =>
    rw [curAt_succ]
    unfold posAt wantAt
    split
    · rename_i h
      subst h
      simp only [curAt] at ih
      simp only [List.length_append, len_list, List.length_cons, List.length_nil]
      omega
    · simp only [List.length_append, len_list, List.length_cons, List.length_nil]
      omega

theorem join_snoc (xs : List (List UInt8)) (x sep : List UInt8) (h : xs ≠ []) : Lib.join (xs ++ [x]) sep = Lib.join xs sep ++ sep ++ x := by
  cases xs with
  | nil => exact absurd rfl h
  | cons y r =>
    rw [List.cons_append, Lib.join_cons, Lib.join_cons]
    simp [Lib.joinTail]

theorem wantAt_join (K N : Nat → ByteArray) (n : Nat) : wantAt K N n = 123 :: Lib.join ((List.range n).map fun j => (elemText (K j) (N j)).data.toList) [44, 32] := by
  induction n with
  | zero => rfl
  | succ n ih =>
    rw [List.range_succ, List.map_append]
    unfold wantAt
    split
    · rename_i h
      subst h
      simp [wantAt, Lib.join_one, elemText_list]
    · rename_i h
      rw [List.map_cons, List.map_nil, join_snoc _ _ _ (by simp [h]), ih, elemText_list]
      simp

theorem mapInner_size (K N : Nat → ByteArray) (n : Nat) : (mapInner n K N).size + 1 = (wantAt K N n).length := by
  rw [wantAt_join]
  simp [mapInner, ByteArray.size]

/-- What the law compares in the end: the gathered text is what the literal prints. -/
theorem text_eq (K N : Nat → ByteArray) (n : Nat) : (⟨#[123]⟩ ++ mapInner n K N ++ ⟨#[125]⟩ : ByteArray) = ⟨(wantAt K N n ++ [125]).toArray⟩ := by
  rw [wantAt_join]
  apply ByteArray.ext
  simp [mapInner]

/-- The text right before element k's key. -/
def preAt (K N : Nat → ByteArray) (k : Nat) : List UInt8 := if k = 0 then wantAt K N k else wantAt K N k ++ [44, 32]

theorem wantAt_succ (K N : Nat → ByteArray) (k : Nat) : wantAt K N (k + 1) = preAt K N k ++ (K k).data.toList ++ [58, 32] ++ (N k).data.toList := rfl

theorem wantAt_len_le (K N : Nat → ByteArray) (k : Nat) : (wantAt K N k).length ≤ 1 + 4 * k + sumSz K k + sumSz N k := by
  have h1 := wantAt_length 0 K N k
  have h2 := curAt_le 0 K N k
  omega

theorem preAt_zero (K N : Nat → ByteArray) : preAt K N 0 = wantAt K N 0 := rfl
theorem preAt_pos (K N : Nat → ByteArray) {k : Nat} (h : 0 < k) : preAt K N k = wantAt K N k ++ [44, 32] := by
  unfold preAt; rw [if_neg (by omega)]

theorem posAt_next (base : Int) (K N : Nat → ByteArray) {k : Nat} (h : 0 < k) : posAt base K N (k - 1) + (K (k - 1)).size + 2 + (N (k - 1)).size + 2 = posAt base K N k := by
  obtain ⟨j, rfl⟩ : ∃ j, k = j + 1 := ⟨k - 1, by omega⟩
  rw [posAt_pos base K N h, curAt_succ]
  simp only [Nat.add_sub_cancel]
  omega

theorem preAt_len_le (K N : Nat → ByteArray) (k : Nat) : (preAt K N k).length ≤ 3 + 4 * k + sumSz K k + sumSz N k := by
  have h := wantAt_len_le K N k
  unfold preAt
  split
  · omega
  · simp only [List.length_append, List.length_cons, List.length_nil]
    omega

end Go.Proofs.Yoeanw
