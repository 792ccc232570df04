/-
  THE SECOND LAW's WALK: FnMapLitLayoutSpansMatchPrint (function 4) returns true on every way and writes nothing that was there.
-/
import Derived.Test.YoeanwStageB
namespace Go.Proofs.Yoeanw
open Go.RowKit

def StrAt (w : World) (a : Option Addr) (len : Nat) (S : Nat → ByteArray) : Prop :=
  0 < len → ∃ b o, a = some ⟨b, o, none⟩ ∧ ∀ i, i < len → w.cell? ⟨b, o + i, none⟩ = some (.string (S i)) ∧ (S i).size ≤ 9223372036854775807

set_option maxRecDepth 100000 in
set_option maxHeartbeats 4000000 in
theorem walk4 (ka na : Option Addr) (kn kc nn nc : Nat) (base : Int) (K N : Nat → ByteArray) (w : World) (hk : IsStrs w ka kn K) (hn : IsStrs w na nn N) :
    Calls Eang.prog 4 #[.slice ka kn kc, .slice na nn nc, .int .i64 base] w fun e w' => e = .returned (.bool true) ∧ Below w.heap.size w w' := by
  have G : Hid (∀ (base : Int), Calls Eang.prog 9 #[.slice ka kn kc, .slice na nn nc, .int .i64 base] w fun e w' => Answers e ∧ w = w') := fun base => guard9 ka na kn kc nn nc base K N w hk hn
  obtain ⟨hkl, hk⟩ := hk
  obtain ⟨hnl, hn⟩ := hn
  have HK : Hid (StrAt w ka kn K) := hk
  have HN : Hid (StrAt w na nn N) := hn
  clear hk hn
  go_enter Eang.func4, Eang.ntmps4
  go_wp2_with (go_at_call 9; refine (G.out _).mono ?_; rintro e w' ⟨hA, rfl⟩; obtain ⟨bb, rfl⟩ := hA.out; clear hA; cases bb)
  · go_ret
    exact ⟨rfl, Below.refl _ _⟩
  · go_ret
    exact ⟨rfl, Below.refl _ _⟩
  · go_ret
    exact ⟨rfl, Below.refl _ _⟩
  clear G
  have hk4 : kn ≤ 4096 := by omega
  have hn4 : nn ≤ 4096 := by omega
  go_loop [7, 8] (fun z i => ∃ k : Nat, k ≤ kn ∧ 16 * kn + 16 * nn + sumSz K k ≤ 1048576 ∧ i = .int .i64 k ∧ z = .int .i64 (16 * kn + 16 * nn + sumSz K k : Nat)) (fun _ i => kn - (intOf i).toNat)
  case atStart => exact ⟨0, Nat.zero_le _, by simp [sumSz]; omega, rfl, by simp [sumSz]⟩
  case round =>
    obtain ⟨k, hkk, ht, rfl, rfl⟩ := hrel
    by_cases hlt : k < kn
    · obtain ⟨b, o, hka, hc⟩ := HK.out (by omega)
      subst hka
      obtain ⟨c0, c1⟩ := hc k hlt
      clear hc HK HN
      go_wp2
      · go_ret
        exact ⟨rfl, Below.refl _ _⟩
      · go_ret
        exact ⟨rfl, Below.refl _ _⟩
      · have hs : sumSz K (k + 1) = sumSz K k + (K k).size := rfl
        go_round
        case rel => exact ⟨k + 1, by omega, by omega, by go_num, by rw [hs]; go_num⟩
        case measure => simp [intOf]; omega
    · obtain rfl : kn = k := by omega
      go_wp2
      go_loop [7, 9] (fun z i => ∃ k : Nat, k ≤ nn ∧ 16 * kn + 16 * nn + sumSz K kn + sumSz N k ≤ 1048576 ∧ i = .int .i64 k ∧ z = .int .i64 (16 * kn + 16 * nn + sumSz K kn + sumSz N k : Nat)) (fun _ i => nn - (intOf i).toNat)
      case atStart => exact ⟨0, Nat.zero_le _, by simp [sumSz]; omega, rfl, by simp [sumSz]⟩
      case round =>
        obtain ⟨k, hkk2, ht2, rfl, rfl⟩ := hrel
        by_cases hlt2 : k < nn
        · obtain ⟨b, o, hna, hc⟩ := HN.out (by omega)
          subst hna
          obtain ⟨c0, c1⟩ := hc k hlt2
          clear hc HK HN
          go_wp2
          · go_ret
            exact ⟨rfl, Below.refl _ _⟩
          · go_ret
            exact ⟨rfl, Below.refl _ _⟩
          · have hs : sumSz N (k + 1) = sumSz N k + (N k).size := rfl
            go_round
            case rel => exact ⟨k + 1, by omega, by omega, by go_num, by rw [hs]; go_num⟩
            case measure => simp [intOf]; omega
        · obtain rfl : nn = k := by omega
          by_cases hb : base < 0 ∨ 1073741824 < base
          · rcases hb with hb | hb
            · go_wp2
              go_ret
              exact ⟨rfl, Below.refl _ _⟩
            · have hb0 : 0 ≤ base := by omega
              go_wp2
              go_ret
              exact ⟨rfl, Below.refl _ _⟩
          have hb0 : 0 ≤ base := by omega
          have hb1 : base ≤ 1073741824 := by omega
          clear hb hlt hlt2 hkk hkk2 ht
          have hmk := run_make_row' (P := Eang.prog) 43 9 (.string ByteArray.empty) 16 Eang.underlying43 info9 rfl .i64 .i64 kn (by omega) (by omega)
          have hmn := run_make_row' (P := Eang.prog) 43 9 (.string ByteArray.empty) 16 Eang.underlying43 info9 rfl .i64 .i64 nn (by omega) (by omega)
          go_wp2
          go_loopw [11] (fun i wr => ∃ k : Nat, k ≤ kn ∧ i = .int .i64 k ∧ wr.heap.size = w.heap.size + 1 ∧ wr.rowIs w.heap.size 9 kn (fun j => .string (if j < k then K j else ByteArray.empty)) ∧ Below w.heap.size w wr)
            (fun i _ => kn - (intOf i).toNat)
          case atStart => exact ⟨0, Nat.zero_le _, rfl, by simp, row_start w kn K, (Below.refl _ _).alloc (Nat.le_refl _) _⟩
          case round =>
            obtain ⟨k, hkk, rfl, hsz, hrow, hnx⟩ := hrel
            by_cases hlt : k < kn
            · obtain ⟨b, o, hka, hc⟩ := HK.out (by omega)
              subst hka
              obtain ⟨c0, c1⟩ := hc k hlt
              have hbl := lt_of_cell c0
              rw [← hnx.cell (p := ⟨b, o + k, none⟩) hbl] at c0
              have d0 := row_old hrow hlt
              have d1 := hrow.frozen k
              have HR : Hid (wr.rowIs w.heap.size 9 kn (fun j => .string (if j < k then K j else ByteArray.empty))) := hrow
              have HB : Hid (Below w.heap.size w wr) := hnx
              clear hc HK HN hrow hnx hmk hmn
              go_wp2
              go_roundw
              case rel => exact ⟨k + 1, by omega, by go_num, by rw [size_setCell]; exact hsz, row_step HR.out, HB.out.setCell (Nat.le_refl _) _⟩
              case measure => simp [intOf]; omega
            · obtain rfl : kn = k := by omega
              have hrowK := row_done hrow
              have HR : Hid (wr.rowIs w.heap.size 9 kn (fun j => .string (K j))) := hrowK
              have HB : Hid (Below w.heap.size w wr) := hnx
              clear hrow hnx hrowK HK hlt hkk
              obtain ⟨wo, rfl⟩ : ∃ wo : World, wo = wr := ⟨_, rfl⟩
              go_wp2
              go_loopw [13] (fun i wr => ∃ k : Nat, k ≤ nn ∧ i = .int .i64 k ∧ wr.heap.size = w.heap.size + 2 ∧ wr.rowIs w.heap.size 9 kn (fun j => .string (K j)) ∧ wr.rowIs (w.heap.size + 1) 9 nn (fun j => .string (if j < k then N j else ByteArray.empty)) ∧ Below w.heap.size w wr)
                (fun i _ => nn - (intOf i).toNat)
              case atStart => exact ⟨0, Nat.zero_le _, rfl, by simp [hsz], HR.out.alloc _, hsz ▸ row_start wo nn N, HB.out.alloc (by omega) _⟩
              case round =>
                clear HR HB hsz
                obtain ⟨k, hkk, rfl, hsz, hrowK, hrow, hnx⟩ := hrel
                by_cases hlt : k < nn
                · obtain ⟨b, o, hna, hc⟩ := HN.out (by omega)
                  subst hna
                  obtain ⟨c0, c1⟩ := hc k hlt
                  have hbl := lt_of_cell c0
                  rw [← hnx.cell (p := ⟨b, o + k, none⟩) hbl] at c0
                  have d0 := row_old hrow hlt
                  have d1 := hrow.frozen k
                  have HRK : Hid (wr.rowIs w.heap.size 9 kn (fun j => .string (K j))) := hrowK
                  have HR : Hid (wr.rowIs (w.heap.size + 1) 9 nn (fun j => .string (if j < k then N j else ByteArray.empty))) := hrow
                  have HB : Hid (Below w.heap.size w wr) := hnx
                  clear hc HN hrowK hrow hnx hmk hmn
                  go_wp2
                  go_roundw
                  case rel => exact ⟨k + 1, by omega, by go_num, by rw [size_setCell]; exact hsz, HRK.out.setOther (by simp) _, row_step HR.out, HB.out.setCell (by simp) _⟩
                  case measure => simp [intOf]; omega
                · obtain rfl : nn = k := by omega
                  have hrowN := row_done hrow
                  have HRK : Hid (wr.rowIs w.heap.size 9 kn (fun j => .string (K j))) := hrowK
                  have HRN : Hid (wr.rowIs (w.heap.size + 1) 9 nn (fun j => .string (N j))) := hrowN
                  have HB : Hid (Below w.heap.size w wr) := hnx
                  clear hrow hnx hrowK hrowN HN hlt hkk hmk hmn
                  go_upto_if 134 with (fail)
                  go_cut [14] from 131 (fun s w' => s = .int .i64 (min kn nn : Nat) ∧ w' = wr)
                  case first =>
                    by_cases hmin : nn < kn
                    · go_wp2
                      go_meet
                      exact ⟨by rw [Nat.min_eq_right (by omega)], rfl⟩
                    · go_wp2
                      go_meet
                      exact ⟨by rw [Nat.min_eq_left (by omega)], rfl⟩
                  case rest =>
                    obtain ⟨rfl, hw⟩ := hcut
                    obtain rfl := hw.symm
                    clear hw
                    go_step
                    have hm1 : min kn nn ≤ kn := Nat.min_le_left _ _
                    have hm2 : min kn nn ≤ nn := Nat.min_le_right _ _
                    have hs1 := sumSz_mono K hm1
                    have hs2 := sumSz_mono N hm2
                    exact stageB w wr kn nn (min kn nn) base K N hm1 hm2 hk4 (by omega) (by omega) hb0 hb1 hsz HRK.out HRN.out HB.out _ _ _ _ _ _ _ _ _ _ _ _ _ _ _ _ _ _ _ _ _ _ _ _ _ _ _ _ _ _ _ _ _ _ _ _ _ _ _ _ _ _ _ _ _ _ _ _ _ _ _ _ _ _ _ _ _ _ _ _ _ _ _ _ _ _ _ _ _ _ _ _ _ _ _ _ _ _ _ _ _ _ _ _ _ _ _ _ _ _ _ _ _ _ _ _ _ _ _ _ _ _ _ _ _ _ _ _ _ _ _ _ _ _ _ _ _ _ _ _ _ _ _ _ _ _ _ _ _ _ _ _ _ _ _ _ _ _ _ _ _ _ _ _ _ _ _ _ _ _ _ _ _ _ _ _ _ _ _ _ _ _ _ _ _ _ _ _ _ _ _ _ _ _ _ _ _ _ _ _ _ _ _ _ _ _ _ _ _ _ _ _ _ _ _ _ _ _ _ _ _ _ _ _ _ _ _ _ _ _ _ _ _ _ _ _ _ _ _ _ _ _ _ _ _ _ _ _ _ _ _ _ _ _ _ _ _ _ _ _ _ _ _ _ _ _ _ _ _ _ _ _ _ _ _ _ _ _ _ _ _ _ _ _ _ _ _ _ _ _ _ _ _

end Go.Proofs.Yoeanw
