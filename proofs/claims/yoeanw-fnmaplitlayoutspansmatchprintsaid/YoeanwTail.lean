/-
  THE SECOND LAW's BODY FROM ITS n-TH STATEMENT ON; what the elements look like in memory.
-/
import Derived.Test.YoeanwGuard
import Derived.Test.YoeanwOwn
import Derived.Lib.AppendStr
namespace Go.Proofs.Yoeanw
open Go.RowKit

/-- What is left of a sequence behind its first n statements. -/
def tailAt : Nat → Code → Code
  | 0, c => c
  | n + 1, .seq _ b => tailAt n b
  | _, c => c

theorem info5 : (Eang.prog.info? 5).map (fun i => (i.zero, i.size, i.bytes)) = some (some (.int .u8 0), 1, 1) := by kernel_rfl
theorem info24 : (Eang.prog.info? 24).map (fun i => (i.zero, i.size, i.bytes)) = some (some (.pointer none), 1, 8) := by kernel_rfl

/-- ELEMENT j LIES IN w: cell j of block eb leads to a map element at x, its key, its position, its value (an Ident at y: its name, its position). -/
def ElemAt (w : World) (eb : Nat) (base : Int) (K N : Nat → ByteArray) (j : Nat) : Prop :=
  ∃ x y, w.cell? ⟨eb, j, none⟩ = some (.pointer (some ⟨x, 0, none⟩)) ∧ w.cell? ⟨x, 0, none⟩ = some (.string (K j)) ∧ w.cell? ⟨x, 1, none⟩ = some (.int .i64 (posAt base K N j)) ∧
    w.cell? ⟨x, 3, none⟩ = some (.iface 29 (.pointer (some ⟨y, 0, none⟩))) ∧ w.cell? ⟨y, 0, none⟩ = some (.string (N j)) ∧ w.cell? ⟨y, 1, none⟩ = some (.int .i64 (posAt base K N j + (K j).size + 2))

theorem ElemAt.later {w wx : World} {eb : Nat} {base : Int} {K N : Nat → ByteArray} {j : Nat} (h : ElemAt w eb base K N j) (hb : Below w.heap.size w wx) : ElemAt wx eb base K N j := by
  obtain ⟨x, y, h0, h1, h2, h3, h4, h5⟩ := h
  exact ⟨x, y, cell_later hb h0, cell_later hb h1, cell_later hb h2, cell_later hb h3, cell_later hb h4, cell_later hb h5⟩

theorem elemsIn_of {w : World} {eb n : Nat} {base : Int} {K N : Nat → ByteArray} (h : ∀ j, j < n → ElemAt w eb base K N j) (hK : ∀ j, j < n → (K j).size ≤ 1048576) (hN : ∀ j, j < n → (N j).size ≤ 1048576) : ElemsIn w eb n K N := by
  intro j hj
  obtain ⟨x, y, h0, h1, h2, h3, h4, h5⟩ := h j hj
  exact ⟨x, y, h0, h1, h3, h4, lt_of_cell h0, lt_of_cell h1, lt_of_cell h4, hK j hj, hN j hj⟩

theorem cell_one_at (W : World) (v : Value) (t : TypeId) (C : Nat) (h : C = W.heap.size) : ∀ j u, [v][j]? = some u → (W.alloc (.cells #[v] t)).cell? ((⟨C, 0, none⟩ : Addr).add j) = some u := by
  subst h; exact cell_one_new _ _ _

theorem cell_two_at (W : World) (a b : Value) (t : TypeId) (C : Nat) (h : C = W.heap.size) : ∀ j u, [a, b][j]? = some u → (W.alloc (.cells #[a, b] t)).cell? ((⟨C, 0, none⟩ : Addr).add j) = some u := by
  subst h; exact cell_two_new _ _ _ _

theorem oneCells8 (l : List UInt8) : ∀ u ∈ cellsOf8 l, u.oneCell' = true := by
  intro u hu
  simp only [cellsOf8, List.mem_map] at hu
  obtain ⟨b, _, rfl⟩ := hu
  rfl

/-- THE WORLD BEHIND THE MAP LITERAL's BLOCK: up to that block it is as it was when the literal was laid. -/
def After (w wr : World) (base : Int) (eb n : Nat) (cur : Int) : Prop :=
  Below (w.heap.size + 1) (w.alloc (.cells #[.int .i64 base, .slice (some ⟨eb, 0, none⟩) n n, .int .i64 cur] 48)) wr

section
variable {w wr wj : World} {base cur : Int} {eb n : Nat} {v : Value} {m : Nat} {xs : List Value}

theorem After.size (h : After w wr base eb n cur) : w.heap.size + 1 ≤ wr.heap.size := by
  have := Below.size h
  simpa using this

theorem After.grown (h : After w wr base eb n cur) (ho : wr.ownsRow (w.heap.size + 1) 5 1 v m xs) (hg : wr.grownBy wj v.ownBlock) : After w wj base eb n cur :=
  Below.grown h hg h.size (fun k hk => (ho.lt k hk).1)

theorem After.alloc (h : After w wr base eb n cur) (o : Obj) : After w (wr.alloc o) base eb n cur := Below.alloc h h.size o

theorem After.drewN (h : After w wr base eb n cur) (q : Nat) : After w (wr.drewN q) base eb n cur := below_drewN h q

theorem After.old (h : After w wr base eb n cur) : Below w.heap.size w wr := ((Below.refl _ _).alloc (Nat.le_refl _) _).trans (Below.mono h (by omega))

theorem After.behind {wx : World} (h : After w wr base eb n cur) (hb : Below wr.heap.size wr wx) : After w wx base eb n cur := Below.trans h (hb.mono h.size)

theorem After.map0 (h : After w wr base eb n cur) : wr.cell? ⟨w.heap.size, 0, none⟩ = some (.int .i64 base) := by
  rw [Below.cell h (p := ⟨w.heap.size, 0, none⟩) (Nat.lt_succ_self _)]
  simp
theorem After.map1 (h : After w wr base eb n cur) : wr.cell? ⟨w.heap.size, 1, none⟩ = some (.slice (some ⟨eb, 0, none⟩) n n) := by
  rw [Below.cell h (p := ⟨w.heap.size, 1, none⟩) (Nat.lt_succ_self _)]
  simp
theorem After.map2 (h : After w wr base eb n cur) : wr.cell? ⟨w.heap.size, 2, none⟩ = some (.int .i64 cur) := by
  rw [Below.cell h (p := ⟨w.heap.size, 2, none⟩) (Nat.lt_succ_self _)]
  simp
end

theorem retBool {a b : Bool} (h : a = b) : Ending.returned (.bool a) = .returned (.bool b) := by rw [h]

/-- THE BLOCKS OF ELEMENT j, while the elements are being made. -/
def ElemBlk (w : World) (B : Nat) (base : Int) (K N : Nat → ByteArray) (j : Nat) : Prop :=
  w.heap[B + 3 + 2 * j]? = some (.cells #[.string (N j), .int .i64 (posAt base K N j + (K j).size + 2)] 31 (0, 0)) ∧
  w.heap[B + 3 + 2 * j + 1]? = some (.cells #[.string (K j), .int .i64 (posAt base K N j), .int .i64 (posAt base K N j + (K j).size), .iface 29 (.pointer (some ⟨B + 3 + 2 * j, 0, none⟩))] 28 (0, 0))

/-- WHAT HOLDS WHEN k ELEMENTS HAVE BEEN MADE. -/
def Made (w0 wr : World) (kn nn n : Nat) (base : Int) (K N : Nat → ByteArray) (k : Nat) : Prop :=
  wr.heap.size = w0.heap.size + 3 + 2 * k ∧ wr.rowIs w0.heap.size 9 kn (fun j => .string (K j)) ∧ wr.rowIs (w0.heap.size + 1) 9 nn (fun j => .string (N j)) ∧
  wr.rowIs (w0.heap.size + 2) 24 n (fun j => .pointer (if j < k then some ⟨w0.heap.size + 3 + 2 * j + 1, 0, none⟩ else none)) ∧ (∀ j, j < k → ElemBlk wr w0.heap.size base K N j) ∧ Below w0.heap.size w0 wr

theorem made_start {w0 w : World} {kn nn n : Nat} {base : Int} {K N : Nat → ByteArray} (hsz : w.heap.size = w0.heap.size + 2) (hK : w.rowIs w0.heap.size 9 kn (fun j => .string (K j))) (hN : w.rowIs (w0.heap.size + 1) 9 nn (fun j => .string (N j)))
    (hB : Below w0.heap.size w0 w) : Made w0 (w.alloc (.cells (madeCells #[.pointer none] n) 24)) kn nn n base K N 0 := by
  refine ⟨by simp [hsz], hK.alloc _, hN.alloc _, ?_, fun j hj => by omega, hB.alloc (by omega) _⟩
  rw [← hsz]
  exact (World.rowIs_made w (.pointer none) n 24).congr (fun i _ => by rw [if_neg (by omega)])

theorem Made.elems {w0 wr : World} {kn nn n : Nat} {base : Int} {K N : Nat → ByteArray} (h : Made w0 wr kn nn n base K N n) : ∀ j, j < n → ElemAt wr (w0.heap.size + 2) base K N j := by
  intro j hj
  obtain ⟨_, _, _, h3, h4, _⟩ := h
  obtain ⟨e1, e2⟩ := h4 j hj
  have c := h3.cell hj
  rw [if_pos hj] at c
  exact ⟨w0.heap.size + 3 + 2 * j + 1, w0.heap.size + 3 + 2 * j, c, by simp [World.cell?, e2], by simp [World.cell?, e2], by simp [World.cell?, e2], by simp [World.cell?, e1], by simp [World.cell?, e1]⟩

theorem Made.step {w0 wr : World} {kn nn n : Nat} {base : Int} {K N : Nat → ByteArray} {k : Nat} (h : Made w0 wr kn nn n base K N k) :
    Made w0 (((wr.alloc (.cells #[.string (N k), .int .i64 (posAt base K N k + (K k).size + 2)] 31)).alloc
      (.cells #[.string (K k), .int .i64 (posAt base K N k), .int .i64 (posAt base K N k + (K k).size), .iface 29 (.pointer (some ⟨w0.heap.size + 3 + 2 * k, 0, none⟩))] 28)).setCell
      ⟨w0.heap.size + 2, k, none⟩ (.pointer (some ⟨w0.heap.size + 3 + 2 * k + 1, 0, none⟩))) kn nn n base K N (k + 1) := by
  obtain ⟨hs, h1, h2, h3, h4, h5⟩ := h
  refine ⟨?_, ((h1.alloc _).alloc _).setOther (by simp) _, ((h2.alloc _).alloc _).setOther (by simp) _, ?_, ?_, ?_⟩
  · simp [hs]; omega
  · refine (((h3.alloc _).alloc _).set k _).congr (fun i _ => ?_)
    by_cases e : i = k
    · subst e; simp
    · rw [if_neg e]
      by_cases h1 : i < k
      · rw [if_pos h1, if_pos (by omega)]
      · rw [if_neg h1, if_neg (by omega)]
  · intro j hj
    by_cases e : j = k
    · subst e
      refine ⟨?_, ?_⟩
      · rw [Below.heap_setCell _ _ _ _ (by simp; omega), Below.heap_alloc _ _ _ (by simp [hs])]
        exact (congrArg _ hs.symm).trans (heap_alloc_new _ _)
      · rw [Below.heap_setCell _ _ _ _ (by simp; omega)]
        have e2 : w0.heap.size + 3 + 2 * j + 1 = (wr.alloc (.cells #[.string (N j), .int .i64 (posAt base K N j + (K j).size + 2)] 31)).heap.size := by
          simp [hs]
        exact (congrArg _ e2).trans (heap_alloc_new _ _)
    · obtain ⟨b1, b2⟩ := h4 j (by omega)
      refine ⟨?_, ?_⟩
      · rw [Below.heap_setCell _ _ _ _ (by simp; omega), Below.heap_alloc _ _ _ (by simp [hs]; omega), Below.heap_alloc _ _ _ (by rw [hs]; omega)]
        exact b1
      · rw [Below.heap_setCell _ _ _ _ (by simp; omega), Below.heap_alloc _ _ _ (by simp [hs]; omega), Below.heap_alloc _ _ _ (by rw [hs]; omega)]
        exact b2
  · exact ((h5.alloc (by rw [hs]; omega) _).alloc (by simp [hs]; omega) _).setCell (by simp) _

/-- 'string(want)': the bytes of a row that the call owns, read in a later world. -/
theorem convBack {w1 wx : World} {B g cap : Nat} {T : List UInt8} (h : w1.ownsRow B 5 1 (.slice (some ⟨g, 0, none⟩) T.length cap) T.length (cellsOf8 T)) (hb : Below w1.heap.size w1 wx) :
    (convert 49 9 (.slice (some ⟨g, 0, none⟩) T.length cap)).run Eang.prog wx = .ok (.string ⟨T.toArray⟩) wx :=
  run_convert_bytes_back wx 49 9 5 ⟨g, 0, none⟩ cap T Eang.underlying49 Eang.underlying5 Eang.underlying9 (fun j hj => by
    have hc := h.cellAt j (by omega)
    have e : (cellsOf8 T)[j]? = some (.int .u8 (T[j].toNat : Int)) := by simp [cellsOf8, List.getElem?_eq_getElem hj]
    rw [e] at hc
    have hl := cell_later hb hc
    have hadd : (⟨g, 0, none⟩ : Addr).add j = ⟨g, j, none⟩ := by unfold Addr.add; split <;> simp_all
    rw [hadd]
    exact hl)

theorem own_shape {w1 : World} {B n : Nat} {v : Value} {xs : List Value} (h : w1.ownsRow B 5 1 v n xs) (hn : 0 < n) : ∃ g cap, v = .slice (some ⟨g, 0, none⟩) n cap := by
  rcases h.2 with ⟨_, h0⟩ | ⟨g, cap, cur, hv, _⟩
  · omega
  · exact ⟨g, cap, hv⟩

end Go.Proofs.Yoeanw
