/-
  (*MapLit).String (function 10): the elements' texts, joined by a comma and a blank, in curly brackets.
-/
import Derived.Test.YoeanwElem
import Derived.Test.YoeanwShelf
namespace Go.Proofs.Yoeanw
open Go.RowKit

theorem info9 : (Eang.prog.info? 9).map (fun i => (i.zero, i.size, i.bytes)) = some (some (.string ByteArray.empty), 1, 16) := by kernel_rfl

/-- An element's printed text. -/
def elemText (k s : ByteArray) : ByteArray := k ++ ⟨#[58, 32]⟩ ++ s

/-- What stands between the brackets. -/
def mapInner (n : Nat) (K N : Nat → ByteArray) : ByteArray := ⟨(Lib.join ((List.range n).map fun j => (elemText (K j) (N j)).data.toList) [44, 32]).toArray⟩

/-- THE ELEMENTS LIE IN w: cell j of block eb leads to a map element with key 'K j' whose value is an Ident named 'N j'. -/
def ElemsIn (w : World) (eb n : Nat) (K N : Nat → ByteArray) : Prop :=
  ∀ j, j < n → ∃ x y, w.cell? ⟨eb, j, none⟩ = some (.pointer (some ⟨x, 0, none⟩)) ∧ w.cell? ⟨x, 0, none⟩ = some (.string (K j)) ∧ w.cell? ⟨x, 3, none⟩ = some (.iface 29 (.pointer (some ⟨y, 0, none⟩))) ∧
    w.cell? ⟨y, 0, none⟩ = some (.string (N j)) ∧ eb < w.heap.size ∧ x < w.heap.size ∧ y < w.heap.size ∧ (K j).size ≤ 1048576 ∧ (N j).size ≤ 1048576

theorem ret_string {a b : ByteArray} (h : a = b) : Ending.returned (.string a) = .returned (.string b) := by rw [h]

theorem joinAt (w : World) (B n g cap : Nat) (K N : Nat → ByteArray) (hn : n ≤ 4096) (hown : w.ownsRow B 9 1 (.slice (some ⟨g, 0, none⟩) n cap) n ((List.range n).map fun j => .string (elemText (K j) (N j))))
    (hJ : (mapInner n K N).size ≤ 1099511627776) :
    Calls Eang.prog 13 #[.slice (some ⟨g, 0, none⟩) n cap, .string ⟨#[44, 32]⟩] w fun e w' => e = .returned (.string (mapInner n K N)) ∧ Below w.heap.size w w' := by
  have hg := (hown.lt g rfl).2
  have hcap : n ≤ cap := by
    rcases hown.2 with ⟨h, _⟩ | ⟨g', c', cur, h, _, _, h2, _⟩
    · cases h
    · cases h; exact h2
  have em : ((List.range n).map fun j => elemText (K j) (N j)).map (·.data.toList) = (List.range n).map fun j => (elemText (K j) (N j)).data.toList := by
    rw [List.map_map]; rfl
  have hl : (Lib.join ((List.range n).map fun j => (elemText (K j) (N j)).data.toList) [44, 32]).length ≤ 1099511627776 := by
    simpa [mapInner, ByteArray.size] using hJ
  have c := Eang.strings_Join g 0 cap ((List.range n).map fun j => elemText (K j) (N j)) ⟨#[44, 32]⟩ w (fun j x hx => by
      have hj : j < n := by
        have := (List.getElem?_eq_some_iff.1 hx).1
        simpa using this
      rw [Nat.zero_add, hown.cellAt j (by omega)]
      simp [hj] at hx ⊢
      rw [hx]) hg (by simp; omega) (by simpa using hcap) (by rw [em]; exact Nat.le_trans hl (by omega))
  rw [em] at c
  simp only [List.length_map, List.length_range] at c
  exact c

set_option maxHeartbeats 1000000 in
theorem mapString (mb eb n : Nat) (K N : Nat → ByteArray) (w : World) (hm : w.cell? ⟨mb, 1, none⟩ = some (.slice (some ⟨eb, 0, none⟩) n n)) (hn : n ≤ 4096) (hE : ElemsIn w eb n K N)
    (hJ : (mapInner n K N).size ≤ 1099511627776) :
    Calls Eang.prog 10 #[.pointer (some ⟨mb, 0, none⟩)] w fun e w' => e = .returned (.string (⟨#[123]⟩ ++ mapInner n K N ++ ⟨#[125]⟩)) ∧ Below w.heap.size w w' := by
  have HE : Hid (ElemsIn w eb n K N) := hE
  clear hE
  obtain ⟨i0, hi, hz0, hz1, hz2⟩ := info_parts info9
  have had : ∀ (w : World) (n : Nat) (o : Obj), (w.drewN n).alloc o = (w.alloc o).drewN n := fun _ _ _ => rfl
  go_enter Eang.func10, Eang.ntmps10
  go_wp2
  go_loopw [3, 11] (fun v i wr => ∃ k : Nat, k ≤ n ∧ i = .int .i64 k ∧ wr.ownsRow w.heap.size 9 1 v k ((List.range k).map fun j => .string (elemText (K j) (N j))) ∧ Below w.heap.size w wr ∧ (k = 0 → v = .slice none 0 0))
    (fun _ i _ => n - (intOf i).toNat)
  case atStart => exact ⟨0, Nat.zero_le _, rfl, World.ownsRow_nil _ _ _ _, Below.refl _ _, fun _ => rfl⟩
  case round =>
    obtain ⟨k, hk, rfl, hown, hnx, hnil⟩ := hrel
    by_cases hlt : k < n
    · obtain ⟨x, y, c0, c1, c2, c3, l0, l1, l2, s1, s2⟩ := HE.out k hlt
      rw [← hnx.cell (p := ⟨eb, k, none⟩) l0] at c0
      rw [← hnx.cell (p := ⟨x, 0, none⟩) l1] at c1
      rw [← hnx.cell (p := ⟨x, 3, none⟩) l1] at c2
      rw [← hnx.cell (p := ⟨y, 0, none⟩) l2] at c3
      have HO : Hid (wr.ownsRow w.heap.size 9 1 u3 k ((List.range k).map fun j => .string (elemText (K j) (N j)))) := hown
      have HB : Hid (Below w.heap.size w wr) := hnx
      clear hown hnx hnil hm
      go_wp2_with (first
        | (go_at_call 6; refine (elemString_ident x 0 y 0 (K k) (N k) _ ?_ ?_ ?_ ?_ ?_).mono ?_; (· exact c1); (· exact c2); (· exact c3); (· omega); (· omega); rintro e w' ⟨rfl, m, rfl⟩)
        | (at_builtin; refine wpList_append_own _ rfl _ _ 43 rfl w.heap.size 9 i0 (.string ByteArray.empty) 1 16 Eang.underlying43 hi hz0 hz1 hz2 rfl (by decide) u3 k ((List.range k).map fun j => .string (elemText (K j) (N j))) rfl (HO.out.alloc _) ⟨wr.heap.size, 0, none⟩ 1 1 [.string (elemText (K k) (N k))] rfl rfl ?c1 ?c2 ?c3 ?c4 ?c5 ?_))
      case c1 => exact cell_one_new _ _ _
      case c2 => intro u hu; simp at hu; subst hu; rfl
      case c3 => unfold maxLen; omega
      case c4 => omega
      case c5 => have := HB.out.size; simp; omega
      · intro v' w1 hown' hgrow hne
        have R : Below w.heap.size w w1 := (below_drewN (HB.out.alloc HB.out.size _) m).grown hgrow (by have := HB.out.size; simp; omega) (fun q hq => (HO.out.lt q hq).1)
        have HO1 : Hid (w1.ownsRow w.heap.size 9 1 v' (k + 1) ((List.range (k + 1)).map fun j => .string (elemText (K j) (N j)))) := by
          rw [List.range_succ, List.map_append]; exact hown'
        clear hown' hgrow hne HO HB
        go_wp2
        go_roundw
        case rel => exact ⟨k + 1, by omega, by go_num, HO1.out, R, fun h => by omega⟩
        case measure => simp [intOf]; omega
    · obtain rfl : k = n := by omega
      rcases hown.2 with ⟨h0, h1⟩ | ⟨g, cap, cur, hv, _⟩
      · have HB : Hid (Below w.heap.size w wr) := hnx
        have hin : Hid (mapInner k K N = ⟨#[]⟩) := by rw [h1]; rfl
        subst h0
        clear hown hnx hnil hm
        go_wp2_with (go_at_call 13; refine (Eang.strings_Join_none none 0 ⟨#[44, 32]⟩ wr).mono ?_; rintro e w' ⟨rfl, rfl⟩)
        go_ret
        exact ⟨ret_string (by rw [hin.out]), HB.out⟩
      · subst hv
        have HB : Hid (Below w.heap.size w wr) := hnx
        have HO : Hid (wr.ownsRow w.heap.size 9 1 (.slice (some ⟨g, 0, none⟩) k cap) k ((List.range k).map fun j => .string (elemText (K j) (N j)))) := hown
        clear hown hnx hnil hm
        go_wp2_with (go_at_call 13; refine (joinAt wr w.heap.size k g cap K N hn HO.out hJ).mono ?_; rintro e w' ⟨rfl, hb⟩)
        go_ret
        exact ⟨rfl, HB.out.trans (hb.mono HB.out.size)⟩

end Go.Proofs.Yoeanw
