/-
  THE FIRST LAW's WALK: FnMapElementSpanEqualsPrintedLength (function 3) returns true on every way.
-/
import Derived.Test.YoeanwElem
namespace Go.Proofs.Yoeanw
open Go.RowKit

set_option maxHeartbeats 400000 in
theorem sizeGuard_yes (a0 : ByteArray) (a1 : Int) (a2 : Int) (a3 : ByteArray) (h : a0.size + a3.size ≤ 1048576) (w : World) :
    Calls Eang.prog 5 #[.string a0, .int .i64 a1, .int .i64 a2, .string a3] w fun e w' => e = .returned (.bool true) ∧ w = w' := by
  go_enter Eang.func5, Eang.ntmps5
  go_wp2
  go_ret
  exact ⟨rfl, rfl⟩

set_option maxHeartbeats 400000 in
theorem sizeGuard_no (a0 : ByteArray) (a1 : Int) (a2 : Int) (a3 : ByteArray) (w0 : a0.size ≤ maxLen) (w3 : a3.size ≤ maxLen) (h : 1048576 < a0.size + a3.size) (w : World) :
    Calls Eang.prog 5 #[.string a0, .int .i64 a1, .int .i64 a2, .string a3] w fun e w' => e = .returned (.bool false) ∧ w = w' := by
  unfold maxLen at w0 w3
  go_enter Eang.func5, Eang.ntmps5
  go_wp2
  all_goals go_ret
  all_goals exact ⟨rfl, rfl⟩

set_option maxHeartbeats 400000 in
theorem walk_big (a0 : ByteArray) (a1 : Int) (a2 : Int) (a3 : ByteArray) (w0 : a0.size ≤ maxLen) (w3 : a3.size ≤ maxLen) (h : 1048576 < a0.size + a3.size) (w : World) :
    Calls Eang.prog 3 #[.string a0, .int .i64 a1, .int .i64 a2, .string a3] w fun e w' => e = .returned (.bool true) ∧ Grown w w' := by
  go_enter Eang.func3, Eang.ntmps3
  go_wp2_with (go_at_call 5; refine (sizeGuard_no _ _ _ _ w0 w3 h _).mono ?_; rintro e w' ⟨rfl, rfl⟩)
  go_ret
  exact ⟨rfl, Grown.refl _⟩

set_option maxHeartbeats 800000 in
theorem walk_out (a0 : ByteArray) (a1 : Int) (a2 : Int) (a3 : ByteArray) (h : a0.size + a3.size ≤ 1048576) (h2 : 65536 < a0.size ∨ (a0.size ≤ 65536 ∧ 65536 < a3.size) ∨ (a0.size ≤ 65536 ∧ a3.size ≤ 65536 ∧ a1 < 0) ∨ (a0.size ≤ 65536 ∧ a3.size ≤ 65536 ∧ 0 ≤ a1 ∧ 1073741824 < a1)) (w : World) :
    Calls Eang.prog 3 #[.string a0, .int .i64 a1, .int .i64 a2, .string a3] w fun e w' => e = .returned (.bool true) ∧ Grown w w' := by
  rcases h2 with h2 | h2 | h2 | h2
  all_goals
    go_enter Eang.func3, Eang.ntmps3
    go_wp2_with (go_at_call 5; refine (sizeGuard_yes _ _ _ _ h _).mono ?_; rintro e w' ⟨rfl, rfl⟩)
    go_ret
    exact ⟨rfl, Grown.refl _⟩

theorem ret_bool {a b : Bool} (h : a = b) : Ending.returned (.bool a) = .returned (.bool b) := by rw [h]

theorem Grown.drewN {W w' : World} (h : Grown W w') (n : Nat) : Grown W (w'.drewN n) := h

set_option maxHeartbeats 1000000 in
theorem walk_ident (a0 : ByteArray) (a1 : Int) (a2 : Int) (a3 : ByteArray) (h : a0.size + a3.size ≤ 1048576) (h0 : a0.size ≤ 65536) (h3 : a3.size ≤ 65536) (h1 : 0 ≤ a1) (h1' : a1 ≤ 1073741824) (w : World)
    (hk : (bits BinOp.and IntKind.i64 a2 3 == 0) = true) :
    Calls Eang.prog 3 #[.string a0, .int .i64 a1, .int .i64 a2, .string a3] w fun e w' => e = .returned (.bool true) ∧ Grown w w' := by
  go_enter Eang.func3, Eang.ntmps3
  go_wp2_with (go_at_call 5; refine (sizeGuard_yes _ _ _ _ h _).mono ?_; rintro e w' ⟨rfl, rfl⟩)
  refine (elemString_ident w.heap.size 0 (w.heap.size + 1) 0 a0 a3 _ (by go_simp) (by go_simp) (by go_simp) (by omega) (by omega)).mono ?_
  rintro e w' ⟨rfl, n, rfl⟩
  go_wp2_with fail
  refine (elemPos w.heap.size 0 a1 _ (by go_simp)).mono ?_
  rintro e w' ⟨rfl, rfl⟩
  go_wp2_with fail
  refine (elemEnd_ident w.heap.size 0 (w.heap.size + 1) 0 a3 (a1 + ↑a0.size + 2) _ (by go_simp) (by go_simp) (by go_simp) (by omega) (by omega) (by omega)).mono ?_
  rintro e w' ⟨rfl, n2, rfl⟩
  go_wp2_with fail
  refine (elemEnd_ident w.heap.size 0 (w.heap.size + 1) 0 a3 (a1 + ↑a0.size + 2) _ (by go_simp) (by go_simp) (by go_simp) (by omega) (by omega) (by omega)).mono ?_
  rintro e w' ⟨rfl, n3, rfl⟩
  go_wp2_with fail
  refine (elemPos w.heap.size 0 a1 _ (by go_simp)).mono ?_
  rintro e w' ⟨rfl, rfl⟩
  go_wp2_with fail
  refine (elemPos w.heap.size 0 a1 _ (by go_simp)).mono ?_
  rintro e w' ⟨rfl, rfl⟩
  go_wp2_with fail
  refine (elemEnd_ident w.heap.size 0 (w.heap.size + 1) 0 a3 (a1 + ↑a0.size + 2) _ (by go_simp) (by go_simp) (by go_simp) (by omega) (by omega) (by omega)).mono ?_
  rintro e w' ⟨rfl, n4, rfl⟩
  go_wp2_with fail
  go_ret
  exact ⟨ret_bool (decide_eq_true (by omega)), by repeat (first | exact Grown.refl _ | apply Grown.drewN | apply Grown.alloc)⟩

set_option maxHeartbeats 1000000 in
theorem walk_int (a0 : ByteArray) (a1 : Int) (a2 : Int) (a3 : ByteArray) (h : a0.size + a3.size ≤ 1048576) (h0 : a0.size ≤ 65536) (h3 : a3.size ≤ 65536) (h1 : 0 ≤ a1) (h1' : a1 ≤ 1073741824) (w : World)
    (hk0 : (bits BinOp.and IntKind.i64 a2 3 == 0) = false) (hk : (bits BinOp.and IntKind.i64 a2 3 == 1) = true) :
    Calls Eang.prog 3 #[.string a0, .int .i64 a1, .int .i64 a2, .string a3] w fun e w' => e = .returned (.bool true) ∧ Grown w w' := by
  go_enter Eang.func3, Eang.ntmps3
  go_wp2_with (go_at_call 5; refine (sizeGuard_yes _ _ _ _ h _).mono ?_; rintro e w' ⟨rfl, rfl⟩)
  refine (elemString_int w.heap.size 0 (w.heap.size + 1) 0 a0 a3 _ (by go_simp) (by go_simp) (by go_simp) (by omega) (by omega)).mono ?_
  rintro e w' ⟨rfl, n, rfl⟩
  go_wp2_with fail
  refine (elemPos w.heap.size 0 a1 _ (by go_simp)).mono ?_
  rintro e w' ⟨rfl, rfl⟩
  go_wp2_with fail
  refine (elemEnd_int w.heap.size 0 (w.heap.size + 1) 0 a3 (a1 + ↑a0.size + 2) _ (by go_simp) (by go_simp) (by go_simp) (by omega) (by omega) (by omega)).mono ?_
  rintro e w' ⟨rfl, n2, rfl⟩
  go_wp2_with fail
  refine (elemEnd_int w.heap.size 0 (w.heap.size + 1) 0 a3 (a1 + ↑a0.size + 2) _ (by go_simp) (by go_simp) (by go_simp) (by omega) (by omega) (by omega)).mono ?_
  rintro e w' ⟨rfl, n3, rfl⟩
  go_wp2_with fail
  refine (elemPos w.heap.size 0 a1 _ (by go_simp)).mono ?_
  rintro e w' ⟨rfl, rfl⟩
  go_wp2_with fail
  refine (elemPos w.heap.size 0 a1 _ (by go_simp)).mono ?_
  rintro e w' ⟨rfl, rfl⟩
  go_wp2_with fail
  refine (elemEnd_int w.heap.size 0 (w.heap.size + 1) 0 a3 (a1 + ↑a0.size + 2) _ (by go_simp) (by go_simp) (by go_simp) (by omega) (by omega) (by omega)).mono ?_
  rintro e w' ⟨rfl, n4, rfl⟩
  go_wp2_with fail
  go_ret
  exact ⟨ret_bool (decide_eq_true (by omega)), by repeat (first | exact Grown.refl _ | apply Grown.drewN | apply Grown.alloc)⟩

set_option maxHeartbeats 1000000 in
theorem walk_str (a0 : ByteArray) (a1 : Int) (a2 : Int) (a3 : ByteArray) (h : a0.size + a3.size ≤ 1048576) (h0 : a0.size ≤ 65536) (h3 : a3.size ≤ 65536) (h1 : 0 ≤ a1) (h1' : a1 ≤ 1073741824) (w : World)
    (hk0 : (bits BinOp.and IntKind.i64 a2 3 == 0) = false) (hk1 : (bits BinOp.and IntKind.i64 a2 3 == 1) = false) (hk : (bits BinOp.and IntKind.i64 a2 3 == 2) = true) :
    Calls Eang.prog 3 #[.string a0, .int .i64 a1, .int .i64 a2, .string a3] w fun e w' => e = .returned (.bool true) ∧ Grown w w' := by
  go_enter Eang.func3, Eang.ntmps3
  go_wp2_with (go_at_call 5; refine (sizeGuard_yes _ _ _ _ h _).mono ?_; rintro e w' ⟨rfl, rfl⟩)
  refine (elemString_str w.heap.size 0 (w.heap.size + 1) 0 a0 a3 _ (by go_simp) (by go_simp) (by go_simp) (by omega) (by omega)).mono ?_
  rintro e w' ⟨rfl, n, rfl⟩
  go_wp2_with fail
  refine (elemPos w.heap.size 0 a1 _ (by go_simp)).mono ?_
  rintro e w' ⟨rfl, rfl⟩
  go_wp2_with fail
  refine (elemEnd_str w.heap.size 0 (w.heap.size + 1) 0 a3 (a1 + ↑a0.size + 2) _ (by go_simp) (by go_simp) (by go_simp) (by omega) (by omega) (by omega)).mono ?_
  rintro e w' ⟨rfl, n2, rfl⟩
  go_wp2_with fail
  refine (elemEnd_str w.heap.size 0 (w.heap.size + 1) 0 a3 (a1 + ↑a0.size + 2) _ (by go_simp) (by go_simp) (by go_simp) (by omega) (by omega) (by omega)).mono ?_
  rintro e w' ⟨rfl, n3, rfl⟩
  go_wp2_with fail
  refine (elemPos w.heap.size 0 a1 _ (by go_simp)).mono ?_
  rintro e w' ⟨rfl, rfl⟩
  go_wp2_with fail
  refine (elemPos w.heap.size 0 a1 _ (by go_simp)).mono ?_
  rintro e w' ⟨rfl, rfl⟩
  go_wp2_with fail
  refine (elemEnd_str w.heap.size 0 (w.heap.size + 1) 0 a3 (a1 + ↑a0.size + 2) _ (by go_simp) (by go_simp) (by go_simp) (by omega) (by omega) (by omega)).mono ?_
  rintro e w' ⟨rfl, n4, rfl⟩
  go_wp2_with fail
  go_ret
  exact ⟨ret_bool (decide_eq_true (by omega)), by repeat (first | exact Grown.refl _ | apply Grown.drewN | apply Grown.alloc)⟩

set_option maxHeartbeats 1000000 in
theorem walk_undef (a0 : ByteArray) (a1 : Int) (a2 : Int) (a3 : ByteArray) (h : a0.size + a3.size ≤ 1048576) (h0 : a0.size ≤ 65536) (h3 : a3.size ≤ 65536) (h1 : 0 ≤ a1) (h1' : a1 ≤ 1073741824) (w : World)
    (hk0 : (bits BinOp.and IntKind.i64 a2 3 == 0) = false) (hk1 : (bits BinOp.and IntKind.i64 a2 3 == 1) = false) (hk : (bits BinOp.and IntKind.i64 a2 3 == 2) = false) :
    Calls Eang.prog 3 #[.string a0, .int .i64 a1, .int .i64 a2, .string a3] w fun e w' => e = .returned (.bool true) ∧ Grown w w' := by
  go_enter Eang.func3, Eang.ntmps3
  go_wp2_with (go_at_call 5; refine (sizeGuard_yes _ _ _ _ h _).mono ?_; rintro e w' ⟨rfl, rfl⟩)
  refine (elemString_undef w.heap.size 0 (w.heap.size + 1) 0 a0 _ (by go_simp) (by go_simp) (by omega)).mono ?_
  rintro e w' ⟨rfl, n, rfl⟩
  go_wp2_with fail
  refine (elemPos w.heap.size 0 a1 _ (by go_simp)).mono ?_
  rintro e w' ⟨rfl, rfl⟩
  go_wp2_with fail
  refine (elemEnd_undef w.heap.size 0 (w.heap.size + 1) 0 (a1 + ↑a0.size + 2) _ (by go_simp) (by go_simp) (by omega) (by omega)).mono ?_
  rintro e w' ⟨rfl, rfl⟩
  go_wp2_with fail
  refine (elemEnd_undef w.heap.size 0 (w.heap.size + 1) 0 (a1 + ↑a0.size + 2) _ (by go_simp) (by go_simp) (by omega) (by omega)).mono ?_
  rintro e w' ⟨rfl, rfl⟩
  go_wp2_with fail
  refine (elemPos w.heap.size 0 a1 _ (by go_simp)).mono ?_
  rintro e w' ⟨rfl, rfl⟩
  go_wp2_with fail
  refine (elemPos w.heap.size 0 a1 _ (by go_simp)).mono ?_
  rintro e w' ⟨rfl, rfl⟩
  go_wp2_with fail
  refine (elemEnd_undef w.heap.size 0 (w.heap.size + 1) 0 (a1 + ↑a0.size + 2) _ (by go_simp) (by go_simp) (by omega) (by omega)).mono ?_
  rintro e w' ⟨rfl, rfl⟩
  go_wp2_with fail
  go_ret
  exact ⟨ret_bool (decide_eq_true (by omega)), by repeat (first | exact Grown.refl _ | apply Grown.drewN | apply Grown.alloc)⟩

end Go.Proofs.Yoeanw
