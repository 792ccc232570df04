/-
  THE LEAVES: the String and End methods of the four literals that the laws build.
-/
import Derived.Test.YoeanwRows
import Derived.WalkKit
import Derived.WalkSpells
import Derived.WalkLawsBesides
import Derived.Deep.QuietTactic
import Derived.BigQuiet
namespace Go.Proofs.Yoeanw
open Go.RowKit

set_option maxHeartbeats 400000 in
theorem identString (b o : Nat) (s : ByteArray) (w : World) (h0 : w.cell? ⟨b, o, none⟩ = some (.string s)) :
    Calls Eang.prog 40 #[.pointer (some ⟨b, o, none⟩)] w fun e w' => e = .returned (.string s) ∧ w' = w := by
  go_enter Eang.func40, Eang.ntmps40
  go_wp2
  go_ret
  exact ⟨rfl, rfl⟩

set_option maxHeartbeats 400000 in
theorem identEnd (b o : Nat) (s : ByteArray) (p : Int) (w : World) (h0 : w.cell? ⟨b, o, none⟩ = some (.string s)) (h1 : w.cell? ⟨b, o + 1, none⟩ = some (.int .i64 p))
    (hs : s.size ≤ 4294967296) (hp : 0 ≤ p) (hp2 : p ≤ 4294967296) :
    Calls Eang.prog 38 #[.pointer (some ⟨b, o, none⟩)] w fun e w' => e = .returned (.int .i64 (p + s.size)) ∧ ∃ n, w' = w.drewN n := by
  go_enter Eang.func38, Eang.ntmps38
  go_wp2
  go_quiet (fail)
  go_wp2
  go_ret
  exact ⟨rfl, _, rfl⟩

set_option maxHeartbeats 400000 in
theorem intString (b o : Nat) (s : ByteArray) (w : World) (h0 : w.cell? ⟨b, o + 2, none⟩ = some (.string s)) :
    Calls Eang.prog 44 #[.pointer (some ⟨b, o, none⟩)] w fun e w' => e = .returned (.string s) ∧ w' = w := by
  go_enter Eang.func44, Eang.ntmps44
  go_wp2
  go_ret
  exact ⟨rfl, rfl⟩

set_option maxHeartbeats 400000 in
theorem intEnd (b o : Nat) (s : ByteArray) (p : Int) (w : World) (h0 : w.cell? ⟨b, o + 2, none⟩ = some (.string s)) (h1 : w.cell? ⟨b, o + 1, none⟩ = some (.int .i64 p))
    (hs : s.size ≤ 4294967296) (hp : 0 ≤ p) (hp2 : p ≤ 4294967296) :
    Calls Eang.prog 42 #[.pointer (some ⟨b, o, none⟩)] w fun e w' => e = .returned (.int .i64 (p + s.size)) ∧ ∃ n, w' = w.drewN n := by
  go_enter Eang.func42, Eang.ntmps42
  go_wp2
  go_quiet (fail)
  go_wp2
  go_ret
  exact ⟨rfl, _, rfl⟩

set_option maxHeartbeats 400000 in
theorem strString (b o : Nat) (s : ByteArray) (w : World) (h0 : w.cell? ⟨b, o + 2, none⟩ = some (.string s)) :
    Calls Eang.prog 48 #[.pointer (some ⟨b, o, none⟩)] w fun e w' => e = .returned (.string s) ∧ w' = w := by
  go_enter Eang.func48, Eang.ntmps48
  go_wp2
  go_ret
  exact ⟨rfl, rfl⟩

set_option maxHeartbeats 400000 in
theorem strEnd (b o : Nat) (s : ByteArray) (p : Int) (w : World) (h0 : w.cell? ⟨b, o + 2, none⟩ = some (.string s)) (h1 : w.cell? ⟨b, o + 1, none⟩ = some (.int .i64 p))
    (hs : s.size ≤ 4294967296) (hp : 0 ≤ p) (hp2 : p ≤ 4294967296) :
    Calls Eang.prog 46 #[.pointer (some ⟨b, o, none⟩)] w fun e w' => e = .returned (.int .i64 (p + s.size)) ∧ ∃ n, w' = w.drewN n := by
  go_enter Eang.func46, Eang.ntmps46
  go_wp2
  go_quiet (fail)
  go_wp2
  go_ret
  exact ⟨rfl, _, rfl⟩



set_option maxHeartbeats 400000 in
theorem undefString (v : Value) (w : World) :
    Calls Eang.prog 52 #[v] w fun e w' => e = .returned (.string ⟨#[117, 110, 100, 101, 102, 105, 110, 101, 100]⟩) ∧ w' = w := by
  go_enter Eang.func52, Eang.ntmps52
  go_wp2
  go_ret
  exact ⟨rfl, rfl⟩

set_option maxHeartbeats 400000 in
theorem undefEnd (b o : Nat) (p : Int) (w : World) (h1 : w.cell? ⟨b, o, none⟩ = some (.int .i64 p))
    (hp : 0 ≤ p) (hp2 : p ≤ 4294967296) :
    Calls Eang.prog 50 #[.pointer (some ⟨b, o, none⟩)] w fun e w' => e = .returned (.int .i64 (p + 9)) ∧ w' = w := by
  go_enter Eang.func50, Eang.ntmps50
  go_wp2
  go_ret
  exact ⟨rfl, rfl⟩

set_option maxHeartbeats 400000 in
theorem elemPos (b o : Nat) (p : Int) (w : World) (h1 : w.cell? ⟨b, o + 1, none⟩ = some (.int .i64 p)) :
    Calls Eang.prog 7 #[.pointer (some ⟨b, o, none⟩)] w fun e w' => e = .returned (.int .i64 p) ∧ w' = w := by
  go_enter Eang.func7, Eang.ntmps7
  go_wp2
  go_ret
  exact ⟨rfl, rfl⟩

set_option maxHeartbeats 400000 in
theorem mapPos (b o : Nat) (p : Int) (w : World) (h1 : w.cell? ⟨b, o, none⟩ = some (.int .i64 p)) :
    Calls Eang.prog 12 #[.pointer (some ⟨b, o, none⟩)] w fun e w' => e = .returned (.int .i64 p) ∧ w' = w := by
  go_enter Eang.func12, Eang.ntmps12
  go_wp2
  go_ret
  exact ⟨rfl, rfl⟩

set_option maxHeartbeats 400000 in
theorem mapEnd (b o : Nat) (p : Int) (w : World) (h1 : w.cell? ⟨b, o + 2, none⟩ = some (.int .i64 p)) (hp : 0 ≤ p) (hp2 : p ≤ 4294967296) :
    Calls Eang.prog 11 #[.pointer (some ⟨b, o, none⟩)] w fun e w' => e = .returned (.int .i64 (p + 1)) ∧ w' = w := by
  go_enter Eang.func11, Eang.ntmps11
  go_wp2
  go_ret
  exact ⟨rfl, rfl⟩

end Go.Proofs.Yoeanw
