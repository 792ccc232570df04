/-
  THE SECOND LAW's MIDDLE PART: the elements are made, one Ident and one map element a round.
-/
import Derived.Test.YoeanwStageC
import Derived.Deep.CutBlock
namespace Go.Proofs.Yoeanw
open Go.RowKit
set_option maxRecDepth 100000 in
set_option maxHeartbeats 4000000 in
theorem stageB (w0 w : World) (kn nn n : Nat) (base : Int) (K N : Nat → ByteArray) (hnk : n ≤ kn) (hnn : n ≤ nn) (hk4 : kn ≤ 4096) (hsK : sumSz K n ≤ 1048576) (hsN : sumSz N n ≤ 1048576) (hb0 : 0 ≤ base) (hb1 : base ≤ 1073741824)
    (hsz : w.heap.size = w0.heap.size + 2) (hrK : w.rowIs w0.heap.size 9 kn (fun j => .string (K j))) (hrN : w.rowIs (w0.heap.size + 1) 9 nn (fun j => .string (N j))) (hBel : Below w0.heap.size w0 w)
    (u3 u4 u5 u6 u7 u8 u9 u10 u11 u12 u13 u15 u16 u17 u18 u19 u20 u21 u22 u23 u24 u25 u26 u27 u28 u29 u30 u31 u32 u33 u34 u35 u36 u37 u38 u39 u40 u41 u42 u43 u44 u45 u46 u47 u48 u49 u50 u51 u52 u53 u54 u55 u56 u57 u58 u59 u60 u61 u62 u63 u64 u65 u66 u67 u68 u69 u70 u71 u72 u73 u74 u75 u76 u77 u78 u79 u80 u81 u82 u83 u84 u85 u86 u87 u88 u89 u90 u91 u92 u93 u94 u95 u96 u97 u98 u99 u100 u101 u102 u103 u104 u105 u106 u107 u108 u109 u110 u111 u112 u113 u114 u115 u116 u117 u118 u119 u120 u121 u122 u123 u124 u125 u126 u127 u128 u129 u130 u131 u132 u133 u134 u135 u136 u137 u138 u139 u140 u141 u142 u143 u144 u145 u146 u147 u148 u149 u150 u151 u152 u153 u154 u155 u156 u157 u158 u159 u160 u161 u162 u163 u164 u165 u166 u167 u168 u169 u170 u171 u172 u173 u174 u175 u176 u177 u178 u179 u180 u181 u182 u183 u184 u185 u186 u187 u188 u189 u190 u191 u192 u193 u194 u195 u196 u197 u198 u199 u200 u201 u202 u203 u204 u205 u206 u207 u208 u209 u210 u211 u212 u213 u214 u215 u216 u217 u218 u219 u220 u221 u222 u223 u224 u225 u226 u227 u228 u229 u230 u231 u232 u233 u234 u235 u236 u237 u238 u239 u240 u241 u242 u243 u244 u245 u246 u247 u248 u249 u250 u251 u252 u253 u254 u255 u256 u257 u258 u259 u260 u261 u262 u263 u264 u265 u266 u267 u268 u269 u270 u271 u272 u273 u274 u275 u276 : Value) :
    Code.wp Eang.prog (tailAt 16 (Eang.f4.body.getD .skip)) (bodyPost Eang.prog Eang.f4 fun e w' => e = .returned (.bool true) ∧ Below w0.heap.size w0 w') ⟨#[.slice (some ⟨w0.heap.size, 0, none⟩) kn kn, .slice (some ⟨w0.heap.size + 1, 0, none⟩) nn nn, .int .i64 base, u3, u4, u5, u6, u7, u8, u9, u10, u11, u12, u13, .int .i64 (n : Int), u15, u16, u17, u18, u19, u20, u21, u22, u23, u24, u25, u26, u27, u28, u29, u30, u31, u32, u33, u34, u35, u36, u37, u38, u39, u40, u41, u42, u43, u44, u45, u46, u47, u48, u49, u50, u51, u52, u53, u54, u55, u56, u57, u58, u59, u60, u61, u62, u63, u64, u65, u66, u67, u68, u69, u70, u71, u72, u73, u74, u75, u76, u77, u78, u79, u80, u81, u82, u83, u84, u85, u86, u87, u88, u89, u90, u91, u92, u93, u94, u95, u96, u97, u98, u99, u100, u101, u102, u103, u104, u105, u106, u107, u108, u109, u110, u111, u112, u113, u114, u115, u116, u117, u118, u119, u120, u121, u122, u123, u124, u125, u126, u127, u128, u129, u130, u131, u132, u133, u134, u135, u136, u137, u138, u139, u140, u141, u142, u143, u144, u145, u146, u147, u148, u149, u150, u151, u152, u153, u154, u155, u156, u157, u158, u159, u160, u161, u162, u163, u164, u165, u166, u167, u168, u169, u170, u171, u172, u173, u174, u175, u176, u177, u178, u179, u180, u181, u182, u183, u184, u185, u186, u187, u188, u189, u190, u191, u192, u193, u194, u195, u196, u197, u198, u199, u200, u201, u202, u203, u204, u205, u206, u207, u208, u209, u210, u211, u212, u213, u214, u215, u216, u217, u218, u219, u220, u221, u222, u223, u224, u225, u226, u227, u228, u229, u230, u231, u232, u233, u234, u235, u236, u237, u238, u239, u240, u241, u242, u243, u244, u245, u246, u247, u248, u249, u250, u251, u252, u253, u254, u255, u256, u257, u258, u259, u260, u261, u262, u263, u264, u265, u266, u267, u268, u269, u270, u271, u272, u273, u274, u275, u276], []⟩ w := by
  conv => arg 2; whnf
  have HK : Hid (w.rowIs w0.heap.size 9 kn (fun j => .string (K j))) := hrK
  have HN : Hid (w.rowIs (w0.heap.size + 1) 9 nn (fun j => .string (N j))) := hrN
  have HB : Hid (Below w0.heap.size w0 w) := hBel
  clear hrK hrN hBel
  have hmk := run_make_row' (P := Eang.prog) 45 24 (.pointer none) 8 Eang.underlying45 info24 rfl .i64 .i64 n (by omega) (by omega)
  go_upto_block 8 with (fail)
  go_cut [16] from 141 (fun c wc => c = .int .i64 (curAt base K N n) ∧ Made w0 wc kn nn n base K N n)
  case rest =>
    obtain ⟨rfl, hM⟩ := hcut
    go_step
    exact stageC w0 wc kn nn n base K N hnk hnn hk4 hsK hsN hb0 hb1 hM.2.1 hM.2.2.1 hM.elems hM.2.2.2.2.2 _ _ _ _ _ _ _ _ _ _ _ _ _ _ _ _ _ _ _ _ _ _ _ _ _ _ _ _ _ _ _ _ _ _ _ _ _ _ _ _ _ _ _ _ _ _ _ _ _ _ _ _ _ _ _ _ _ _ _ _ _ _ _ _ _ _ _ _ _ _ _ _ _ _ _ _ _ _ _ _ _ _ _ _ _ _ _ _ _ _ _ _ _ _ _ _ _ _ _ _ _ _ _ _ _ _ _ _ _ _ _ _ _ _ _ _ _ _ _ _ _ _ _ _ _ _ _ _ _ _ _ _ _ _ _ _ _ _ _ _ _ _ _ _ _ _ _ _ _ _ _ _ _ _ _ _ _ _ _ _ _ _ _ _ _ _ _ _ _ _ _ _ _ _ _ _ _ _ _ _ _ _ _ _ _ _ _ _ _ _ _ _ _ _ _ _ _ _ _ _ _ _ _ _ _ _ _ _ _ _ _ _ _ _ _ _ _ _ _ _ _ _ _ _ _ _ _ _ _ _ _ _ _ _ _ _ _ _ _ _ _ _ _ _ _ _ _ _ _ _ _ _ _ _ _ _ _ _ _ _ _ _ _ _ _ _ _ _ _ _ _
  case first =>
    go_wp2_with fail
    clear hmk
    go_loopg [16, 17] n (fun g c i wr => ∃ k : Nat, k + g = n ∧ i = .int .i64 k ∧ c = .int .i64 (curAt base K N k) ∧ Made w0 wr kn nn n base K N k)
    case atStart => exact ⟨0, by omega, rfl, rfl, made_start hsz HK.out HN.out HB.out⟩
    case round =>
      clear HK HN HB hsz
      obtain ⟨k, hkg, rfl, rfl, hM⟩ := hrel
      by_cases hlt : k < n
      · have hcb := curAt_le base K N k
        have hpb := posAt_le base K N k
        have hsk := sumSz_mono K (show k ≤ n by omega)
        have hsn := sumSz_mono N (show k ≤ n by omega)
        have hKk := sumSz_one K hlt
        have hNk := sumSz_one N hlt
        have hki : (k : Int) < (n : Int) := by omega
        have HM : Hid (Made w0 wr kn nn n base K N k) := hM
        clear hM
        go_upto_if 147 with (fail)
        go_cut [16] from 141 to 187 (fun c wc => c = .int .i64 (posAt base K N k) ∧ wc = wr)
        case first =>
          by_cases hk0 : (k : Int) ≤ 0
          · go_wp2
            go_meet
            obtain rfl : k = 0 := by omega
            exact ⟨rfl, rfl⟩
          · have hk1 : (0 : Int) < (k : Int) := by omega
            go_wp2
            go_meet
            exact ⟨by rw [posAt_pos base K N (show 0 < k by omega)], rfl⟩
        case rest =>
          obtain ⟨rfl, hw⟩ := hcut
          obtain rfl := hw.symm
          clear hw
          have hsz := HM.out.1
          have cK := HM.out.2.1.cell (show k < kn by omega)
          have cN := HM.out.2.2.1.cell (show k < nn by omega)
          have cE := HM.out.2.2.2.1.cell hlt
          rw [if_neg (Nat.lt_irrefl k)] at cE
          have fE := HM.out.2.2.2.1.frozen k
          have hkk : (k : Int) < (kn : Int) := by omega
          have hkn : (k : Int) < (nn : Int) := by omega
          have hE : w0.heap.size + 2 < wr.heap.size := by omega
          have cE2 : ∀ o1 o2, ((wr.alloc o1).alloc o2).cell? ⟨w0.heap.size + 2, k, none⟩ = some (.pointer none) := fun o1 o2 => by
            rw [Below.cell (((Below.refl wr.heap.size wr).alloc (Nat.le_refl _) o1).alloc (by simp) o2) (p := ⟨w0.heap.size + 2, k, none⟩) hE]; exact cE
          have fE2 : ∀ o1 o2, ((wr.alloc o1).alloc o2).frozen? ⟨w0.heap.size + 2, k, none⟩ = false := fun o1 o2 => by
            rw [Below.frozen (((Below.refl wr.heap.size wr).alloc (Nat.le_refl _) o1).alloc (by simp) o2) (p := ⟨w0.heap.size + 2, k, none⟩) hE]; exact fE
          clear cE fE
          go_wp2
          go_roundg (gk - 1)
          case measure => omega
          case rel => exact ⟨k + 1, by omega, by go_num, by rw [curAt_succ], HM.out.step⟩
      · obtain rfl : n = k := by omega
        go_wp2
        go_meet
        exact ⟨rfl, hM⟩

end Go.Proofs.Yoeanw
