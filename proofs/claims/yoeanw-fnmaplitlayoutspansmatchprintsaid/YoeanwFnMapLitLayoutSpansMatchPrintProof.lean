/-
  'Rows.FnMapLitLayoutSpansMatchPrintSaid': the row's frame (after the kit's shell for a law over slices, turned to slices of strings); the walk out of YoeanwWalk2.
-/
import Derived.Test.YoeanwRows
import Derived.Test.YoeanwWalk2
import Derived.WalkKit
import Derived.ProofKit
import Derived.OpenShut
import Derived.ShutString
import Derived.ChangeOld
import Derived.Below
import Derived.Deep.Strs
namespace Go.Proofs.Yoeanw.fnMapLitLayoutSpansMatchPrint
open Go.ChangeShapes Go.WideShapes Go.ChangeAt Go.RowKit
open Go.ChangeMaps (open_string shut_string)
set_option linter.unusedVariables false

theorem own : ownKnob Eang.prog.godebug = none := by kernel_rfl
theorem laidOut : laidOutB Eang.prog = true := by kernel_rfl

/-- A slice of strings that can be read is as the walk wants it. -/
theorem strs_of {H : Type} {enc : TypeId × Value → H} {W : World} {fuel : Nat} {a : Option Addr} {len cap : Nat} {x : DataW H × List MemPlace}
    (h : DataW.trod enc Eang.prog W 0 (fun _ => true) true fuel 43 [.slice a len cap] = some x) : ∃ S, IsStrs W a len S := by
  rcases Deep.open_strs Eang.underlying43 Eang.underlying9 (by kernel_rfl) h with ⟨hcs, _⟩ | ⟨ad, l, c, m, Sx, hcs, _, hl, hm, hmm, _, hcell⟩
  · simp at hcs
    obtain ⟨rfl, rfl, rfl⟩ := hcs
    exact ⟨fun _ => ByteArray.empty, by omega, fun h => by omega⟩
  · simp at hcs
    obtain ⟨rfl, rfl, rfl⟩ := hcs
    simp only [if_true] at hmm
    subst hmm
    unfold maxLen at hm hcell
    refine ⟨Sx, by omega, fun h0 => ?_⟩
    obtain ⟨b, off, spot⟩ := ad
    have hspot : spot = none := by simpa [Addr.add] using World.cell?_spot (hcell 0 (by omega)).1
    subst hspot
    refine ⟨b, off, rfl, fun i hi => ⟨?_, ?_⟩⟩
    · rw [← add_plain]; exact (hcell i (by omega)).1
    · have := (hcell i (by omega)).2
      omega

/-! ### THE ROW's STEP -/
set_option maxRecDepth 100000 in
theorem lifted (os : Os) (started : os.Started) (H : Type) (enc : TypeId × Value → H) :
    ReturnsInHanded {} Eang.checked os 4 .any (Rows.fnMapLitLayoutSpansMatchPrintSpec.pre6 enc Eang.prog Eang.f4 Rows.fnMapLitLayoutSpansMatchPrintRow.domain false) (Rows.fnMapLitLayoutSpansMatchPrintSpec.post enc Eang.prog Eang.f4 false true false false) := by
  refine returnsInHanded_of_change (C := Eang.checked) own started (by kernel_rfl) Eang.func4
    (ChangeSpec.witness6 (enc := enc) (C := Eang.checked) false ⟨#[], #[.slice none 0 0, .slice none 0 0, .int .i64 0], []⟩ 8 (by kernel_rfl) (by kernel_rfl) (by kernel_rfl) (by kernel_rfl)) ?_
  intro W base args ds gs before hval0 hW hcnd _
  have hval : ∀ (j : Nat) t v, Eang.f4.params[j]? = some t → args[j]? = some v → Value.okWide Eang.prog W .any base t v := hval0
  have hW' := hW
  obtain ⟨p, q, hA0, hV, rfl, hfz, hnd⟩ := hW
  have hA : DataW.TrodAll enc Eang.prog W 0 (fun _ => true) true Eang.f4.params.toList args.toList ds p := hA0
  rw [Eang.params4] at hA hval
  obtain ⟨v0, vs0, d0, ds0, p0, q0, hargs, rfl, rfl, h0, r0⟩ := trodAll_cons hA
  obtain ⟨v1, vs1, d1, ds1, p1, q1, rfl, rfl, rfl, h1, r1⟩ := trodAll_cons r0
  obtain ⟨v2, vs2, d2, ds2, p2, q2, rfl, rfl, rfl, h2, r2⟩ := trodAll_cons r1
  obtain ⟨rfl, rfl, rfl⟩ := trodAll_nil r2
  obtain rfl : args = #[v0, v1, v2] := by cases args; simp_all
  obtain ⟨rfl, rfl⟩ := trodVars_none hV
  obtain ⟨a0, len0, cap0, rfl⟩ := okWide_slice Eang.underlying43 (hval 0 43 v0 rfl rfl)
  obtain ⟨a1, len1, cap1, rfl⟩ := okWide_slice Eang.underlying43 (hval 1 43 v1 rfl rfl)
  have k0 := h0
  have k1 := h1
  have lt0 : ∀ x ∈ p0, x.block < W.heap.size := by obtain ⟨m, hm⟩ := k0; exact DataW.trod_lt m _ _ _ hm
  have lt1 : ∀ x ∈ p1, x.block < W.heap.size := by obtain ⟨m, hm⟩ := k1; exact DataW.trod_lt m _ _ _ hm
  obtain ⟨K, w0⟩ : ∃ S, IsStrs W a0 len0 S := by
    obtain ⟨fuel, hf⟩ := h0
    exact strs_of (by simpa [Value.cells] using hf)
  obtain ⟨N, w1⟩ : ∃ S, IsStrs W a1 len1 S := by
    obtain ⟨fuel, hf⟩ := h1
    exact strs_of (by simpa [Value.cells] using hf)
  obtain ⟨a2, rfl, rfl, rfl, w2⟩ := open_int Eang.underlying3 (hval 2 3 v2 rfl rfl) h2
  clear hA0 hval0
  refine (walk4 a0 a1 len0 cap0 len1 cap1 a2 K N W w0 w1).mono fun e W' ⟨he, bel⟩ => ?_
  subst he
  exact ⟨_, rfl, _, _, _, [], _, [], hW', trodAll_mk1 (shut_bool Eang.underlying4 _), (trodAll_cons_mk (Below.trod laidOut (by kernel_rfl) (of_decide_eq_true (by kernel_rfl)) k0 bel lt0) (trodAll_cons_mk (Below.trod laidOut (by kernel_rfl) (of_decide_eq_true (by kernel_rfl)) k1 bel lt1) (trodAll_cons_mk (shut_int Eang.underlying3 w2) trodAll_mk0))), rfl, bel.frame _, fun h => by cases h⟩

theorem over : Rows.fnMapLitLayoutSpansMatchPrintRow.holds Eang.pinned (OpenSpec.ofChange Rows.fnMapLitLayoutSpansMatchPrintSpec) :=
  OpenClaim.holds_of_wide 4 Eang.f4 rfl rfl rfl rfl rfl rfl rfl ⟨rfl, rfl, rfl, rfl, rfl⟩ rfl rfl rfl rfl rfl (by kernel_rfl) Eang.func4 (by kernel_rfl)
    (of_decide_eq_true (by kernel_rfl)) (by unfold Func.isWrapper; first | (rw [if_pos (by decide +kernel)]; kernel_rfl) | (rw [if_neg (by decide +kernel)]; exact ⟨rfl, rfl⟩))
    (fun os started H enc _ => lifted os started H enc)

/-- THE STATEMENT -/
theorem proved : Rows.FnMapLitLayoutSpansMatchPrintSaid := over
#print axioms proved
end Go.Proofs.Yoeanw.fnMapLitLayoutSpansMatchPrint
