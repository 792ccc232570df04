/-
  'Rows.FnMapElementSpanEqualsPrintedLengthSaid': the frame by the kit's program for this function; the walk out of YoeanwWalk1.
-/
import Derived.Test.YoeanwRows
import Derived.Test.YoeanwWalk1
import Derived.WalkKit
import Derived.ProofKit
import Derived.OpenShut
import Derived.ShutString
namespace Go.Proofs.Yoeanw.fnMapElementSpanEqualsPrintedLength
open Go.ChangeShapes Go.WideShapes Go.ChangeAt Go.RowKit
open Go.ChangeMaps (open_string shut_string)
set_option linter.unusedVariables false      -- a walk need not use every 'w<i>' (that an integer argument fits its kind)

theorem own : ownKnob Eang.prog.godebug = none := by kernel_rfl

/-! ### STEP 1: THE WALK: the Go text returns true. 'Grown w w'': the world has at most new blocks (Derived/RowKit3.lean). -/
theorem walk (a0 : ByteArray) (a1 : Int) (a2 : Int) (a3 : ByteArray) (w0 : a0.size ≤ maxLen) (w1 : (Lit.int .i64 a1).wf = true) (w2 : (Lit.int .i64 a2).wf = true) (w3 : a3.size ≤ maxLen) (w : World) :
    Calls Eang.prog 3 #[.string a0, .int .i64 a1, .int .i64 a2, .string a3] w fun e w' => e = .returned (.bool true) ∧ Grown w w' := by
  by_cases hb : 1048576 < a0.size + a3.size
  · exact walk_big a0 a1 a2 a3 w0 w3 hb w
  have h : a0.size + a3.size ≤ 1048576 := by omega
  by_cases h2 : 65536 < a0.size ∨ (a0.size ≤ 65536 ∧ 65536 < a3.size) ∨ (a0.size ≤ 65536 ∧ a3.size ≤ 65536 ∧ a1 < 0) ∨ (a0.size ≤ 65536 ∧ a3.size ≤ 65536 ∧ 0 ≤ a1 ∧ 1073741824 < a1)
  · exact walk_out a0 a1 a2 a3 h h2 w
  have h0 : a0.size ≤ 65536 := by omega
  have h3 : a3.size ≤ 65536 := by omega
  have h1 : 0 ≤ a1 := by omega
  have h1' : a1 ≤ 1073741824 := by omega
  cases k0 : (bits BinOp.and IntKind.i64 a2 3 == 0) with
  | true => exact walk_ident a0 a1 a2 a3 h h0 h3 h1 h1' w k0
  | false =>
    cases k1 : (bits BinOp.and IntKind.i64 a2 3 == 1) with
    | true => exact walk_int a0 a1 a2 a3 h h0 h3 h1 h1' w k0 k1
    | false =>
      cases k2 : (bits BinOp.and IntKind.i64 a2 3 == 2) with
      | true => exact walk_str a0 a1 a2 a3 h h0 h3 h1 h1' w k0 k1 k2
      | false => exact walk_undef a0 a1 a2 a3 h h0 h3 h1 h1' w k0 k1 k2

/-! ### THE ROW's STEP: WRITTEN OUT: LEAVE IT -/
set_option maxRecDepth 100000 in
theorem lifted (os : Os) (started : os.Started) (H : Type) (enc : TypeId × Value → H) :
    ReturnsInHanded {} Eang.checked os 3 .any (Rows.fnMapElementSpanEqualsPrintedLengthSpec.pre6 enc Eang.prog Eang.f3 Rows.fnMapElementSpanEqualsPrintedLengthRow.domain false) (Rows.fnMapElementSpanEqualsPrintedLengthSpec.post enc Eang.prog Eang.f3 false true false false) := by
  refine returnsInHanded_of_change (C := Eang.checked) own started (by kernel_rfl) Eang.func3
    (ChangeSpec.witness6 (enc := enc) (C := Eang.checked) false ⟨#[], #[.string ByteArray.empty, .int .i64 0, .int .i64 0, .string ByteArray.empty], []⟩ 8 (by kernel_rfl) (by kernel_rfl) (by kernel_rfl) (by kernel_rfl)) ?_
  intro W base args ds gs before hval0 hW hcnd _
  have hval : ∀ (j : Nat) t v, Eang.f3.params[j]? = some t → args[j]? = some v → Value.okWide Eang.prog W .any base t v := hval0
  have hW' := hW
  obtain ⟨p, q, hA0, hV, rfl, hfz, hnd⟩ := hW
  have hA : DataW.TrodAll enc Eang.prog W 0 (fun _ => true) true Eang.f3.params.toList args.toList ds p := hA0
  rw [Eang.params3] at hA hval
  obtain ⟨v0, vs0, d0, ds0, p0, q0, hargs, rfl, rfl, h0, r0⟩ := trodAll_cons hA
  obtain ⟨v1, vs1, d1, ds1, p1, q1, rfl, rfl, rfl, h1, r1⟩ := trodAll_cons r0
  obtain ⟨v2, vs2, d2, ds2, p2, q2, rfl, rfl, rfl, h2, r2⟩ := trodAll_cons r1
  obtain ⟨v3, vs3, d3, ds3, p3, q3, rfl, rfl, rfl, h3, r3⟩ := trodAll_cons r2
  obtain ⟨rfl, rfl, rfl⟩ := trodAll_nil r3
  obtain rfl : args = #[v0, v1, v2, v3] := by cases args; simp_all
  obtain ⟨rfl, rfl⟩ := trodVars_none hV
  obtain ⟨a0, rfl, rfl, rfl, w0⟩ := open_string Eang.underlying9 (hval 0 9 v0 rfl rfl) h0
  obtain ⟨a1, rfl, rfl, rfl, w1⟩ := open_int Eang.underlying3 (hval 1 3 v1 rfl rfl) h1
  obtain ⟨a2, rfl, rfl, rfl, w2⟩ := open_int Eang.underlying3 (hval 2 3 v2 rfl rfl) h2
  obtain ⟨a3, rfl, rfl, rfl, w3⟩ := open_string Eang.underlying9 (hval 3 9 v3 rfl rfl) h3
  clear hA0 hval0
  simp only [List.append_nil] at hW'
  refine (walk a0 a1 a2 a3 w0 w1 w2 w3 W).mono fun e W' ⟨he, hg⟩ => ?_
  subst he
  exact ⟨_, rfl, post_of_same (pa := []) (pv := []) hW' (fun _ _ _ => (trodAll_cons_mk (shut_bool Eang.underlying4 _) trodAll_mk0)) (fun sp _ => (trodAll_cons_mk (shut_string Eang.underlying9 w0) (trodAll_cons_mk (shut_int Eang.underlying3 w1) (trodAll_cons_mk (shut_int Eang.underlying3 w2) (trodAll_cons_mk (shut_string Eang.underlying9 w3) trodAll_mk0))))) (fun _ _ => rfl) rfl
    (hg.frame _) hg.2.1 (ok_one (by kernel_rfl) rfl (okWide_bool_mk Eang.underlying4 _))⟩

theorem over : Rows.fnMapElementSpanEqualsPrintedLengthRow.holds Eang.pinned (OpenSpec.ofChange Rows.fnMapElementSpanEqualsPrintedLengthSpec) :=
  OpenClaim.holds_of_wide 3 Eang.f3 rfl rfl rfl rfl rfl rfl rfl ⟨rfl, rfl, rfl, rfl, rfl⟩ rfl rfl rfl rfl rfl (by kernel_rfl) Eang.func3 (by kernel_rfl)
    (of_decide_eq_true (by kernel_rfl)) (by unfold Func.isWrapper; first | (rw [if_pos (by decide +kernel)]; kernel_rfl) | (rw [if_neg (by decide +kernel)]; exact ⟨rfl, rfl⟩))
    (fun os started H enc _ => lifted os started H enc)

/-- THE STATEMENT -/
theorem proved : Rows.FnMapElementSpanEqualsPrintedLengthSaid :=
  over
#print axioms proved
end Go.Proofs.Yoeanw.fnMapElementSpanEqualsPrintedLength
