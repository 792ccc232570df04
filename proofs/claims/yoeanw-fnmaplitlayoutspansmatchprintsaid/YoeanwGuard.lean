/-
  THE SIZE GUARD OF THE SECOND LAW (function 9): it answers a bool, whatever it is, and writes nothing.
-/
import Derived.Test.YoeanwRows
import Derived.WalkKit
import Derived.WalkSpells
import Derived.WalkLawsBesides
namespace Go.Proofs.Yoeanw
open Go.RowKit

/-- WHAT THE WALKS ARE TOLD OF A SLICE OF STRINGS THAT CAME IN: if it has an element at all it leads to cells, the strings 'S 0', 'S 1' .. -/
def IsStrs (w : World) (a : Option Addr) (len : Nat) (S : Nat → ByteArray) : Prop :=
  len ≤ 9223372036854775807 ∧ (0 < len → ∃ b o, a = some ⟨b, o, none⟩ ∧ ∀ i, i < len → w.cell? ⟨b, o + i, none⟩ = some (.string (S i)) ∧ (S i).size ≤ 9223372036854775807)

def Answers (e : Ending) : Prop := ∃ b : Bool, e = .returned (.bool b)
theorem Answers.mk (b : Bool) : Answers (.returned (.bool b)) := Exists.intro b rfl
theorem Answers.out {e : Ending} (h : Answers e) : ∃ b : Bool, e = .returned (.bool b) := h

set_option maxHeartbeats 1000000 in
theorem guard9 (ka na : Option Addr) (kn kc nn nc : Nat) (base : Int) (K N : Nat → ByteArray) (w : World) (hk : IsStrs w ka kn K) (hn : IsStrs w na nn N) :
    Calls Eang.prog 9 #[.slice ka kn kc, .slice na nn nc, .int .i64 base] w fun e w' => Answers e ∧ w = w' := by
  obtain ⟨hkl, hk⟩ := hk
  obtain ⟨hnl, hn⟩ := hn
  have HK : Hid (0 < kn → ∃ b o, ka = some ⟨b, o, none⟩ ∧ ∀ i, i < kn → w.cell? ⟨b, o + i, none⟩ = some (.string (K i)) ∧ (K i).size ≤ 9223372036854775807) := hk
  have HN : Hid (0 < nn → ∃ b o, na = some ⟨b, o, none⟩ ∧ ∀ i, i < nn → w.cell? ⟨b, o + i, none⟩ = some (.string (N i)) ∧ (N i).size ≤ 9223372036854775807) := hn
  clear hk hn
  go_enter Eang.func9, Eang.ntmps9
  go_wp2
  · go_ret
    exact ⟨Answers.mk _, rfl⟩
  go_loop [7, 8] (fun z i => ∃ k : Nat, ∃ t : Int, k ≤ kn ∧ 0 ≤ t ∧ t ≤ 1048576 ∧ i = .int .i64 k ∧ z = .int .i64 t) (fun _ i => kn - (intOf i).toNat)
  case atStart => exact ⟨0, _, Nat.zero_le _, by omega, by omega, rfl, rfl⟩
  case round =>
    obtain ⟨k, t, hkk, ht0, ht1, rfl, rfl⟩ := hrel
    by_cases hlt : k < kn
    · obtain ⟨b, o, hka, hc⟩ := HK.out (by omega)
      subst hka
      obtain ⟨c0, c1⟩ := hc k hlt
      clear hc HK
      go_wp2
      · go_ret
        exact ⟨Answers.mk _, rfl⟩
      · go_ret
        exact ⟨Answers.mk _, rfl⟩
      · go_round
        case rel => exact ⟨k + 1, _, by omega, by omega, by omega, by go_num, rfl⟩
        case measure => simp [intOf]; omega
    · go_wp2
      · go_ret
        exact ⟨Answers.mk _, rfl⟩
      · go_ret
        exact ⟨Answers.mk _, rfl⟩
      go_loop [7, 9] (fun z i => ∃ k : Nat, ∃ t : Int, k ≤ nn ∧ 0 ≤ t ∧ t ≤ 1048576 ∧ i = .int .i64 k ∧ z = .int .i64 t) (fun _ i => nn - (intOf i).toNat)
      case atStart => exact ⟨0, _, Nat.zero_le _, by omega, by omega, rfl, rfl⟩
      case round =>
        obtain ⟨k2, t2, hkk2, ht02, ht12, rfl, rfl⟩ := hrel
        by_cases hlt2 : k2 < nn
        · obtain ⟨b, o, hna, hc⟩ := HN.out (by omega)
          subst hna
          obtain ⟨c0, c1⟩ := hc k2 hlt2
          clear hc HN HK
          go_wp2
          · go_ret
            exact ⟨Answers.mk _, rfl⟩
          · go_ret
            exact ⟨Answers.mk _, rfl⟩
          · go_round
            case rel => exact ⟨k2 + 1, _, by omega, by omega, by omega, by go_num, rfl⟩
            case measure => simp [intOf]; omega
        · go_wp2
          go_ret
          exact ⟨Answers.mk _, rfl⟩

end Go.Proofs.Yoeanw
