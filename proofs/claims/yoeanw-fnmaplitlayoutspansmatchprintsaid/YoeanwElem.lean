/-
  THE METHODS OF A MAP ELEMENT: String, End, through the interface value that it holds.
-/
import Derived.Test.YoeanwLeaf
namespace Go.Proofs.Yoeanw
open Go.RowKit

theorem identMethodEnd (a : Addr) (w : World) : (method 178 29 (.pointer (some a)) "End").run Eang.prog w = .ok (38, .pointer (some a)) w := by kernel_rfl
theorem identMethodString (a : Addr) (w : World) : (method 178 29 (.pointer (some a)) "String").run Eang.prog w = .ok (40, .pointer (some a)) w := by kernel_rfl
theorem intMethodEnd (a : Addr) (w : World) : (method 178 32 (.pointer (some a)) "End").run Eang.prog w = .ok (42, .pointer (some a)) w := by kernel_rfl
theorem intMethodString (a : Addr) (w : World) : (method 178 32 (.pointer (some a)) "String").run Eang.prog w = .ok (44, .pointer (some a)) w := by kernel_rfl
theorem strMethodEnd (a : Addr) (w : World) : (method 178 35 (.pointer (some a)) "End").run Eang.prog w = .ok (46, .pointer (some a)) w := by kernel_rfl
theorem strMethodString (a : Addr) (w : World) : (method 178 35 (.pointer (some a)) "String").run Eang.prog w = .ok (48, .pointer (some a)) w := by kernel_rfl
theorem undefMethodEnd (a : Addr) (w : World) : (method 178 38 (.pointer (some a)) "End").run Eang.prog w = .ok (50, .pointer (some a)) w := by kernel_rfl
theorem undefMethodString (a : Addr) (w : World) : (method 178 38 (.pointer (some a)) "String").run Eang.prog w = .ok (52, .pointer (some a)) w := by kernel_rfl

set_option maxHeartbeats 400000 in
theorem elemEnd_ident (b o bv ov : Nat) (s : ByteArray) (p : Int) (w : World) (h3 : w.cell? ⟨b, o + 3, none⟩ = some (.iface 29 (.pointer (some ⟨bv, ov, none⟩)))) (h0 : w.cell? ⟨bv, ov, none⟩ = some (.string s)) (h1 : w.cell? ⟨bv, ov + 1, none⟩ = some (.int .i64 p))
    (hs : s.size ≤ 4294967296) (hp : 0 ≤ p) (hp2 : p ≤ 4294967296) :
    Calls Eang.prog 8 #[.pointer (some ⟨b, o, none⟩)] w fun e w' => e = .returned (.int .i64 (p + s.size)) ∧ ∃ n, w' = w.drewN n := by
  have hm := identMethodEnd
  go_enter Eang.func8, Eang.ntmps8
  go_wp2_with (go_at_call 38; refine (identEnd bv ov s p _ h0 h1 hs hp hp2).mono ?_; rintro e w' ⟨rfl, n, rfl⟩)
  go_ret
  exact ⟨rfl, _, rfl⟩

set_option maxHeartbeats 400000 in
theorem elemString_ident (b o bv ov : Nat) (k s : ByteArray) (w : World) (hk : w.cell? ⟨b, o, none⟩ = some (.string k)) (h3 : w.cell? ⟨b, o + 3, none⟩ = some (.iface 29 (.pointer (some ⟨bv, ov, none⟩)))) (h0 : w.cell? ⟨bv, ov, none⟩ = some (.string s))
    (hks : k.size ≤ 4294967296) (hs : s.size ≤ 4294967296) :
    Calls Eang.prog 6 #[.pointer (some ⟨b, o, none⟩)] w fun e w' => e = .returned (.string (k ++ ⟨#[58, 32]⟩ ++ s)) ∧ ∃ n, w' = w.drewN n := by
  have hm := identMethodString
  go_enter Eang.func6, Eang.ntmps6
  go_wp2
  go_quiet ((go_at_call 40; exact Calls.quiet_of_same (identString bv ov s _ h0)))
  go_wp2
  go_ret
  exact ⟨rfl, _, rfl⟩

set_option maxHeartbeats 400000 in
theorem elemEnd_int (b o bv ov : Nat) (s : ByteArray) (p : Int) (w : World) (h3 : w.cell? ⟨b, o + 3, none⟩ = some (.iface 32 (.pointer (some ⟨bv, ov, none⟩)))) (h0 : w.cell? ⟨bv, ov + 2, none⟩ = some (.string s)) (h1 : w.cell? ⟨bv, ov + 1, none⟩ = some (.int .i64 p))
    (hs : s.size ≤ 4294967296) (hp : 0 ≤ p) (hp2 : p ≤ 4294967296) :
    Calls Eang.prog 8 #[.pointer (some ⟨b, o, none⟩)] w fun e w' => e = .returned (.int .i64 (p + s.size)) ∧ ∃ n, w' = w.drewN n := by
  have hm := intMethodEnd
  go_enter Eang.func8, Eang.ntmps8
  go_wp2_with (go_at_call 42; refine (intEnd bv ov s p _ h0 h1 hs hp hp2).mono ?_; rintro e w' ⟨rfl, n, rfl⟩)
  go_ret
  exact ⟨rfl, _, rfl⟩

set_option maxHeartbeats 400000 in
theorem elemString_int (b o bv ov : Nat) (k s : ByteArray) (w : World) (hk : w.cell? ⟨b, o, none⟩ = some (.string k)) (h3 : w.cell? ⟨b, o + 3, none⟩ = some (.iface 32 (.pointer (some ⟨bv, ov, none⟩)))) (h0 : w.cell? ⟨bv, ov + 2, none⟩ = some (.string s))
    (hks : k.size ≤ 4294967296) (hs : s.size ≤ 4294967296) :
    Calls Eang.prog 6 #[.pointer (some ⟨b, o, none⟩)] w fun e w' => e = .returned (.string (k ++ ⟨#[58, 32]⟩ ++ s)) ∧ ∃ n, w' = w.drewN n := by
  have hm := intMethodString
  go_enter Eang.func6, Eang.ntmps6
  go_wp2
  go_quiet ((go_at_call 44; exact Calls.quiet_of_same (intString bv ov s _ h0)))
  go_wp2
  go_ret
  exact ⟨rfl, _, rfl⟩

set_option maxHeartbeats 400000 in
theorem elemEnd_str (b o bv ov : Nat) (s : ByteArray) (p : Int) (w : World) (h3 : w.cell? ⟨b, o + 3, none⟩ = some (.iface 35 (.pointer (some ⟨bv, ov, none⟩)))) (h0 : w.cell? ⟨bv, ov + 2, none⟩ = some (.string s)) (h1 : w.cell? ⟨bv, ov + 1, none⟩ = some (.int .i64 p))
    (hs : s.size ≤ 4294967296) (hp : 0 ≤ p) (hp2 : p ≤ 4294967296) :
    Calls Eang.prog 8 #[.pointer (some ⟨b, o, none⟩)] w fun e w' => e = .returned (.int .i64 (p + s.size)) ∧ ∃ n, w' = w.drewN n := by
  have hm := strMethodEnd
  go_enter Eang.func8, Eang.ntmps8
  go_wp2_with (go_at_call 46; refine (strEnd bv ov s p _ h0 h1 hs hp hp2).mono ?_; rintro e w' ⟨rfl, n, rfl⟩)
  go_ret
  exact ⟨rfl, _, rfl⟩

set_option maxHeartbeats 400000 in
theorem elemString_str (b o bv ov : Nat) (k s : ByteArray) (w : World) (hk : w.cell? ⟨b, o, none⟩ = some (.string k)) (h3 : w.cell? ⟨b, o + 3, none⟩ = some (.iface 35 (.pointer (some ⟨bv, ov, none⟩)))) (h0 : w.cell? ⟨bv, ov + 2, none⟩ = some (.string s))
    (hks : k.size ≤ 4294967296) (hs : s.size ≤ 4294967296) :
    Calls Eang.prog 6 #[.pointer (some ⟨b, o, none⟩)] w fun e w' => e = .returned (.string (k ++ ⟨#[58, 32]⟩ ++ s)) ∧ ∃ n, w' = w.drewN n := by
  have hm := strMethodString
  go_enter Eang.func6, Eang.ntmps6
  go_wp2
  go_quiet ((go_at_call 48; exact Calls.quiet_of_same (strString bv ov s _ h0)))
  go_wp2
  go_ret
  exact ⟨rfl, _, rfl⟩

set_option maxHeartbeats 400000 in
theorem elemEnd_undef (b o bv ov : Nat) (p : Int) (w : World) (h3 : w.cell? ⟨b, o + 3, none⟩ = some (.iface 38 (.pointer (some ⟨bv, ov, none⟩)))) (h1 : w.cell? ⟨bv, ov, none⟩ = some (.int .i64 p))
    (hp : 0 ≤ p) (hp2 : p ≤ 4294967296) :
    Calls Eang.prog 8 #[.pointer (some ⟨b, o, none⟩)] w fun e w' => e = .returned (.int .i64 (p + 9)) ∧ w' = w := by
  have hm := undefMethodEnd
  go_enter Eang.func8, Eang.ntmps8
  go_wp2_with (go_at_call 50; refine (undefEnd bv ov p _ h1 hp hp2).mono ?_; rintro e w' ⟨rfl, rfl⟩)
  go_ret
  exact ⟨rfl, rfl⟩

set_option maxHeartbeats 400000 in
theorem elemString_undef (b o bv ov : Nat) (k : ByteArray) (w : World) (hk : w.cell? ⟨b, o, none⟩ = some (.string k)) (h3 : w.cell? ⟨b, o + 3, none⟩ = some (.iface 38 (.pointer (some ⟨bv, ov, none⟩))))
    (hks : k.size ≤ 4294967296) :
    Calls Eang.prog 6 #[.pointer (some ⟨b, o, none⟩)] w fun e w' => e = .returned (.string (k ++ ⟨#[58, 32]⟩ ++ ⟨#[117, 110, 100, 101, 102, 105, 110, 101, 100]⟩)) ∧ ∃ n, w' = w.drewN n := by
  have hm := undefMethodString
  go_enter Eang.func6, Eang.ntmps6
  go_wp2
  go_quiet ((go_at_call 52; exact Calls.quiet_of_same (undefString _ _)))
  go_wp2
  go_ret
  exact ⟨rfl, _, rfl⟩

end Go.Proofs.Yoeanw
