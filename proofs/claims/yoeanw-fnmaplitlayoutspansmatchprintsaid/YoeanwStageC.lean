/-
  THE SECOND LAW's LAST PART: the literal is laid, the wanted text is gathered element by element and held against what the literal prints.
-/
import Derived.Test.YoeanwTail
import Derived.Deep.CutRange
import Derived.Deep.LoopGhost
import Derived.Deep.QuietTactic
import Derived.BigQuiet
namespace Go.Proofs.Yoeanw
open Go.RowKit
set_option maxRecDepth 100000 in
set_option maxHeartbeats 4000000 in
theorem stageC (w0 w : World) (kn nn n : Nat) (base : Int) (K N : Nat → ByteArray) (hnk : n ≤ kn) (hnn : n ≤ nn) (hk4 : kn ≤ 4096) (hsK : sumSz K n ≤ 1048576) (hsN : sumSz N n ≤ 1048576) (hb0 : 0 ≤ base) (hb1 : base ≤ 1073741824)
    (hrK : w.rowIs w0.heap.size 9 kn (fun j => .string (K j))) (hrN : w.rowIs (w0.heap.size + 1) 9 nn (fun j => .string (N j))) (hEl : ∀ j, j < n → ElemAt w (w0.heap.size + 2) base K N j) (hBel : Below w0.heap.size w0 w)
    (u3 u4 u5 u6 u7 u8 u9 u10 u11 u12 u13 u17 u18 u19 u20 u21 u22 u23 u24 u25 u26 u27 u28 u29 u30 u31 u32 u33 u34 u35 u36 u37 u38 u39 u40 u41 u42 u43 u44 u45 u46 u47 u48 u49 u50 u51 u52 u53 u54 u55 u56 u57 u58 u59 u60 u61 u62 u63 u64 u65 u66 u67 u68 u69 u70 u71 u72 u73 u74 u75 u76 u77 u78 u79 u80 u81 u82 u83 u84 u85 u86 u87 u88 u89 u90 u91 u92 u93 u94 u95 u96 u97 u98 u99 u100 u101 u102 u103 u104 u105 u106 u107 u108 u109 u110 u111 u112 u113 u114 u115 u116 u117 u118 u119 u120 u121 u122 u123 u124 u125 u126 u127 u128 u129 u130 u131 u132 u133 u134 u135 u136 u137 u138 u139 u140 u141 u142 u143 u144 u145 u146 u147 u148 u149 u150 u151 u152 u153 u154 u155 u156 u157 u158 u159 u160 u161 u162 u163 u164 u165 u166 u167 u168 u169 u170 u171 u172 u173 u174 u175 u176 u177 u178 u179 u180 u181 u182 u183 u184 u185 u186 u187 u188 u189 u190 u191 u192 u193 u194 u195 u196 u197 u198 u199 u200 u201 u202 u203 u204 u205 u206 u207 u208 u209 u210 u211 u212 u213 u214 u215 u216 u217 u218 u219 u220 u221 u222 u223 u224 u225 u226 u227 u228 u229 u230 u231 u232 u233 u234 u235 u236 u237 u238 u239 u240 u241 u242 u243 u244 u245 u246 u247 u248 u249 u250 u251 u252 u253 u254 u255 u256 u257 u258 u259 u260 u261 u262 u263 u264 u265 u266 u267 u268 u269 u270 u271 u272 u273 u274 u275 u276 : Value) :
    Code.wp Eang.prog (tailAt 19 (Eang.f4.body.getD .skip)) (bodyPost Eang.prog Eang.f4 fun e w' => e = .returned (.bool true) ∧ Below w0.heap.size w0 w') ⟨#[.slice (some ⟨w0.heap.size, 0, none⟩) kn kn, .slice (some ⟨w0.heap.size + 1, 0, none⟩) nn nn, .int .i64 base, u3, u4, u5, u6, u7, u8, u9, u10, u11, u12, u13, .int .i64 (n : Int), .slice (some ⟨w0.heap.size + 2, 0, none⟩) n n, .int .i64 (curAt base K N n), u17, u18, u19, u20, u21, u22, u23, u24, u25, u26, u27, u28, u29, u30, u31, u32, u33, u34, u35, u36, u37, u38, u39, u40, u41, u42, u43, u44, u45, u46, u47, u48, u49, u50, u51, u52, u53, u54, u55, u56, u57, u58, u59, u60, u61, u62, u63, u64, u65, u66, u67, u68, u69, u70, u71, u72, u73, u74, u75, u76, u77, u78, u79, u80, u81, u82, u83, u84, u85, u86, u87, u88, u89, u90, u91, u92, u93, u94, u95, u96, u97, u98, u99, u100, u101, u102, u103, u104, u105, u106, u107, u108, u109, u110, u111, u112, u113, u114, u115, u116, u117, u118, u119, u120, u121, u122, u123, u124, u125, u126, u127, u128, u129, u130, u131, u132, u133, u134, u135, u136, u137, u138, u139, u140, u141, u142, u143, u144, u145, u146, u147, u148, u149, u150, u151, u152, u153, u154, u155, u156, u157, u158, u159, u160, u161, u162, u163, u164, u165, u166, u167, u168, u169, u170, u171, u172, u173, u174, u175, u176, u177, u178, u179, u180, u181, u182, u183, u184, u185, u186, u187, u188, u189, u190, u191, u192, u193, u194, u195, u196, u197, u198, u199, u200, u201, u202, u203, u204, u205, u206, u207, u208, u209, u210, u211, u212, u213, u214, u215, u216, u217, u218, u219, u220, u221, u222, u223, u224, u225, u226, u227, u228, u229, u230, u231, u232, u233, u234, u235, u236, u237, u238, u239, u240, u241, u242, u243, u244, u245, u246, u247, u248, u249, u250, u251, u252, u253, u254, u255, u256, u257, u258, u259, u260, u261, u262, u263, u264, u265, u266, u267, u268, u269, u270, u271, u272, u273, u274, u275, u276], []⟩ w := by
  conv => arg 2; whnf
  have HK : Hid (w.rowIs w0.heap.size 9 kn (fun j => .string (K j))) := hrK
  have HN : Hid (w.rowIs (w0.heap.size + 1) 9 nn (fun j => .string (N j))) := hrN
  have HE : Hid (∀ j, j < n → ElemAt w (w0.heap.size + 2) base K N j) := hEl
  have HB : Hid (Below w0.heap.size w0 w) := hBel
  clear hrK hrN hEl hBel
  obtain ⟨i5, hi, hz0, hz1, hz2⟩ := info_parts info5
  have hcur := curAt_le base K N n
  go_wp2_with (at_builtin; refine wpList_append_own _ rfl (.tmp 193) (.tmp 194) 49 rfl (w.heap.size + 1) 5 i5 (.int .u8 0) 1 1 Eang.underlying49 hi hz0 hz1 hz2 rfl (by decide) (.slice none 0 0) 0 [] rfl ((World.ownsRow_nil _ _ _ _).alloc _) ⟨w.heap.size + 1, 0, none⟩ 1 1 [.int .u8 123] rfl rfl ?c1 ?c2 ?c3 ?c4 ?c5 ?_)
  case c1 => exact cell_one_at _ _ _ _ (by simp)
  case c2 => intro u hu; simp at hu; subst hu; rfl
  case c3 => unfold maxLen; omega
  case c4 => omega
  case c5 => simp
  intro v1 w1 hown hgrow hne
  have HA : Hid (After w w1 base (w0.heap.size + 2) n (curAt base K N n)) := (((Below.refl _ _).alloc (by simp) _).grown hgrow (by simp) (fun k hk => by simp [Value.ownBlock] at hk) : Below (w.heap.size + 1) _ w1)
  have HO : Hid (w1.ownsRow (w.heap.size + 1) 5 1 v1 (wantAt K N 0).length (cellsOf8 (wantAt K N 0))) := hown
  clear hown hgrow hne
  go_wp2_with fail
  go_loopg [23, 24, 25] n (fun g v t i wr => ∃ k : Nat, k + g = n ∧ i = .int .i64 k ∧ (∃ t' : Int, t = .int .i64 t' ∧ (k = 0 → t' = base + 1)) ∧ wr.ownsRow (w.heap.size + 1) 5 1 v (wantAt K N k).length (cellsOf8 (wantAt K N k)) ∧ After w wr base (w0.heap.size + 2) n (curAt base K N n))
  case atStart => exact ⟨0, by omega, rfl, ⟨_, rfl, fun _ => rfl⟩, HO.out, HA.out⟩
  case round =>
    clear HA HO
    obtain ⟨k, hkg, rfl, ⟨t', rfl, ht'⟩, hown, haft⟩ := hrel
    by_cases hlt : k < n
    · obtain ⟨x, y, e0, e1, e2, e3, e4, e5⟩ := HE.out k hlt
      have hpos := posAt_le base K N k
      have hsk := sumSz_mono K (show k ≤ n by omega)
      have hsn := sumSz_mono N (show k ≤ n by omega)
      have hKk := sumSz_one K hlt
      have hNk := sumSz_one N hlt
      have f0 := cell_later haft.old e0
      have HO : Hid (wr.ownsRow (w.heap.size + 1) 5 1 u23 (wantAt K N k).length (cellsOf8 (wantAt K N k))) := hown
      have HA : Hid (After w wr base (w0.heap.size + 2) n (curAt base K N n)) := haft
      have HT : Hid (k = 0 → t' = base + 1) := ht'
      have hki : (k : Int) < (n : Int) := by omega
      clear hown haft ht'
      go_upto_if 208 with (fail)
      go_cut [23, 24] from 198 to 259 (fun v t wc => t = .int .i64 (posAt base K N k) ∧ wc.ownsRow (w.heap.size + 1) 5 1 v (preAt K N k).length (cellsOf8 (preAt K N k)) ∧ After w wc base (w0.heap.size + 2) n (curAt base K N n))
      case first =>
        by_cases hk0 : (k : Int) ≤ 0
        · go_wp2
          go_meet
          obtain rfl : k = 0 := by omega
          exact ⟨by rw [HT.out rfl, posAt_zero], HO.out, HA.out⟩
        · obtain ⟨x', y', d0, d1, d2, d3, d4, d5⟩ := HE.out (k - 1) (by omega)
          have hk1 : (0 : Int) < (k : Int) := by omega
          have hkm : ((k : Int) - 1).toNat = k - 1 := by omega
          have hK1 := sumSz_one K (show k - 1 < n by omega)
          have hN1 := sumSz_one N (show k - 1 < n by omega)
          have hp1 := posAt_le base K N (k - 1)
          have hsk1 := sumSz_mono K (show k - 1 ≤ n by omega)
          have hsn1 := sumSz_mono N (show k - 1 ≤ n by omega)
          have had : ∀ (w : World) (n : Nat) (o : Obj), (w.drewN n).alloc o = (w.alloc o).drewN n := fun _ _ _ => rfl
          have g0 := cell_later HA.out.old d0
          have g3 := cell_later HA.out.old d3
          have g4 := cell_later HA.out.old d4
          have g5 := cell_later HA.out.old d5
          clear hk0 d0 d1 d2 d3 d4 d5 HT e0 e1 e2 e3 e4 e5
          have hl := wantAt_len_le K N k
          go_wp2_with (first
            | (go_at_call 8; refine (elemEnd_ident x' 0 y' 0 (N (k - 1)) (posAt base K N (k - 1) + (K (k - 1)).size + 2) _ ?_ ?_ ?_ ?_ ?_ ?_).mono ?_; (· exact g3); (· exact g4); (· exact g5); (· omega); (· omega); (· omega); rintro e w' ⟨rfl, m, rfl⟩)
            | (at_builtin; refine wpList_append_own _ rfl (.tmp 216) (.tmp 217) 49 rfl (w.heap.size + 1) 5 i5 (.int .u8 0) 1 1 Eang.underlying49 hi hz0 hz1 hz2 rfl (by decide) u23 (wantAt K N k).length (cellsOf8 (wantAt K N k)) rfl (HO.out.alloc _) ⟨wr.heap.size, 0, none⟩ 2 2 [.int .u8 44, .int .u8 32] rfl rfl ?q1 ?q2 ?q3 ?q4 ?q5 ?_))
          case q1 => exact cell_two_at _ _ _ _ _ rfl
          case q2 => exact oneCells8 [44, 32]
          case q3 => unfold maxLen; omega
          case q4 => omega
          case q5 => have := HA.out.size; simp; omega
          intro v2 w2 hown hgrow hne
          have HA2 : Hid (After w w2 base (w0.heap.size + 2) n (curAt base K N n)) := ((HA.out.alloc _).drewN m).grown (HO.out.alloc _) hgrow
          have HO2 : Hid (w2.ownsRow (w.heap.size + 1) 5 1 v2 (preAt K N k).length (cellsOf8 (preAt K N k))) := by
            rw [preAt_pos K N (by omega), cellsOf8_append, List.length_append]; exact hown
          clear hown hgrow hne HA HO
          go_wp2
          go_meet
          exact ⟨by rw [← posAt_next base K N (show 0 < k by omega)], HO2.out, HA2.out⟩
      case rest =>
        obtain ⟨rfl, hown, haft⟩ := hcut
        clear HT HO HA f0
        have HO : Hid (wc.ownsRow (w.heap.size + 1) 5 1 u23 (preAt K N k).length (cellsOf8 (preAt K N k))) := hown
        have HA : Hid (After w wc base (w0.heap.size + 2) n (curAt base K N n)) := haft
        clear hown haft
        have hl := preAt_len_le K N k
        have hkk : (k : Int) < (kn : Int) := by omega
        have hkn : (k : Int) < (nn : Int) := by omega
        have cK := HK.out.cell (show k < kn by omega)
        have cN := HN.out.cell (show k < nn by omega)
        have F : Hid (∀ wi : World, Below w.heap.size w wi → wi.cell? ⟨x, 0, none⟩ = some (.string (K k)) ∧ wi.cell? ⟨x, 1, none⟩ = some (.int .i64 (posAt base K N k)) ∧ wi.cell? ⟨x, 3, none⟩ = some (.iface 29 (.pointer (some ⟨y, 0, none⟩))) ∧ wi.cell? ⟨y, 0, none⟩ = some (.string (N k)) ∧ wi.cell? ⟨y, 1, none⟩ = some (.int .i64 (posAt base K N k + (K k).size + 2)) ∧ wi.cell? ⟨w0.heap.size, k, none⟩ = some (.string (K k)) ∧ wi.cell? ⟨w0.heap.size + 1, k, none⟩ = some (.string (N k))) :=
          fun wi hb => ⟨cell_later hb e1, cell_later hb e2, cell_later hb e3, cell_later hb e4, cell_later hb e5, cell_later hb cK, cell_later hb cN⟩
        clear e0 e1 e2 e3 e4 e5 cK cN
        -- keys[i]...
        obtain ⟨f1, f2, f3, f4, f5, f6, f7⟩ := F.out wc HA.out.old
        go_wp2_with (at_builtin; refine Lib.wpList_append_own_string _ rfl (.tmp 219) (.tmp 223) 49 9 rfl (w.heap.size + 1) 5 i5 Eang.underlying49 Eang.underlying9 hi hz0 hz1 hz2 u23 (preAt K N k).length (cellsOf8 (preAt K N k)) rfl HO.out (K k) rfl ?r1 ?r2 ?r3 ?_)
        case r1 => unfold maxLen; omega
        case r2 => omega
        case r3 => exact HA.out.size
        intro v1 w1 hown hgrow hne
        obtain ⟨T1, hT1⟩ : ∃ T1, T1 = preAt K N k ++ (K k).data.toList := ⟨_, rfl⟩
        have hl1 : T1.length ≤ 3 + 4 * k + sumSz K k + sumSz N k + (K k).size := by
          rw [hT1, List.length_append, len_list]; omega
        have HA1 : Hid (After w w1 base (w0.heap.size + 2) n (curAt base K N n)) := HA.out.grown HO.out hgrow
        have HO1 : Hid (w1.ownsRow (w.heap.size + 1) 5 1 v1 T1.length (cellsOf8 T1)) := by
          rw [hT1, cellsOf8_append, List.length_append, len_list]; exact hown
        have HT1 : Hid (T1 = preAt K N k ++ (K k).data.toList) := hT1
        clear hown hgrow hne HA HO hT1 f1 f2 f3 f4 f5 f6 f7
        -- ':', ' '
        obtain ⟨f1, f2, f3, f4, f5, f6, f7⟩ := F.out w1 HA1.out.old
        go_wp2_with (at_builtin; refine wpList_append_own _ rfl (.tmp 225) (.tmp 226) 49 rfl (w.heap.size + 1) 5 i5 (.int .u8 0) 1 1 Eang.underlying49 hi hz0 hz1 hz2 rfl (by decide) v1 T1.length (cellsOf8 T1) rfl (HO1.out.alloc _) ⟨w1.heap.size, 0, none⟩ 2 2 [.int .u8 58, .int .u8 32] rfl rfl ?s1 ?s2 ?s3 ?s4 ?s5 ?_)
        case s1 => exact cell_two_at _ _ _ _ _ rfl
        case s2 => exact oneCells8 [58, 32]
        case s3 => unfold maxLen; omega
        case s4 => omega
        case s5 => have := HA1.out.size; simp; omega
        intro v2 w2 hown hgrow hne
        obtain ⟨T2, hT2⟩ : ∃ T2, T2 = T1 ++ [58, 32] := ⟨_, rfl⟩
        have hl2 : T2.length ≤ 5 + 4 * k + sumSz K k + sumSz N k + (K k).size := by
          rw [hT2, List.length_append]; simp only [List.length_cons, List.length_nil]; omega
        have HA2 : Hid (After w w2 base (w0.heap.size + 2) n (curAt base K N n)) := (HA1.out.alloc _).grown (HO1.out.alloc _) hgrow
        have HO2 : Hid (w2.ownsRow (w.heap.size + 1) 5 1 v2 T2.length (cellsOf8 T2)) := by
          rw [hT2, cellsOf8_append, List.length_append]; exact hown
        have HT2 : Hid (T2 = T1 ++ [58, 32]) := hT2
        clear hown hgrow hne HA1 HO1 hT2 f1 f2 f3 f4 f5 f6 f7
        -- names[i]...
        obtain ⟨f1, f2, f3, f4, f5, f6, f7⟩ := F.out w2 HA2.out.old
        go_wp2_with (at_builtin; refine Lib.wpList_append_own_string _ rfl (.tmp 228) (.tmp 232) 49 9 rfl (w.heap.size + 1) 5 i5 Eang.underlying49 Eang.underlying9 hi hz0 hz1 hz2 v2 T2.length (cellsOf8 T2) rfl HO2.out (N k) rfl ?t1 ?t2 ?t3 ?_)
        case t1 => unfold maxLen; omega
        case t2 => omega
        case t3 => exact HA2.out.size
        intro v3 w3 hown hgrow hne
        have HA3 : Hid (After w w3 base (w0.heap.size + 2) n (curAt base K N n)) := HA2.out.grown HO2.out hgrow
        have HO3 : Hid (w3.ownsRow (w.heap.size + 1) 5 1 v3 (wantAt K N (k + 1)).length (cellsOf8 (wantAt K N (k + 1)))) := by
          rw [wantAt_succ, ← HT1.out, ← HT2.out, cellsOf8_append, List.length_append, len_list]; exact hown
        clear hown hgrow hne HA2 HO2 f1 f2 f3 f4 f5 f6 f7 HT1 HT2 hl1 hl2 hl
        obtain ⟨f1, f2, f3, f4, f5, f6, f7⟩ := F.out w3 HA3.out.old
        go_wp2_with (go_at_call 7; refine (elemPos x 0 (posAt base K N k) _ ?_).mono ?_; (· exact f2); rintro e w' ⟨rfl, hw⟩; obtain rfl := hw.symm; clear hw)
        refine (elemString_ident x 0 y 0 (K k) (N k) _ f1 f3 f4 (by omega) (by omega)).mono ?_
        rintro e w' ⟨rfl, m1, rfl⟩
        go_wp2_with fail
        go_quiet (fail)
        go_wp2_with (first
          | (go_at_call 8; refine (elemEnd_ident x 0 y 0 (N k) (posAt base K N k + (K k).size + 2) _ ?_ ?_ ?_ ?_ ?_ ?_).mono ?_; (· exact f3); (· exact f4); (· exact f5); (· omega); (· omega); (· omega); rintro e w' ⟨rfl, m2, rfl⟩)
          | (go_at_call 7; refine (elemPos x 0 (posAt base K N k) _ ?_).mono ?_; (· exact f2); rintro e w' ⟨rfl, rfl⟩))
        go_roundg (gk - 1)
        case measure => omega
        case rel => exact ⟨k + 1, by omega, by go_num, ⟨_, rfl, fun h => by omega⟩, HO3.out, (HA3.out.drewN _)⟩
    · obtain rfl : n = k := by omega
      have HO : Hid (wr.ownsRow (w.heap.size + 1) 5 1 u23 (wantAt K N n).length (cellsOf8 (wantAt K N n))) := hown
      have HA : Hid (After w wr base (w0.heap.size + 2) n (curAt base K N n)) := haft
      have hl := wantAt_len_le K N n
      clear hown haft ht' hlt hkg
      go_wp2_with (at_builtin; refine wpList_append_own _ rfl (.tmp 260) (.tmp 261) 49 rfl (w.heap.size + 1) 5 i5 (.int .u8 0) 1 1 Eang.underlying49 hi hz0 hz1 hz2 rfl (by decide) u23 (wantAt K N n).length (cellsOf8 (wantAt K N n)) rfl (HO.out.alloc _) ⟨wr.heap.size, 0, none⟩ 1 1 [.int .u8 125] rfl rfl ?x1 ?x2 ?x3 ?x4 ?x5 ?_)
      case x1 => exact cell_one_at _ _ _ _ rfl
      case x2 => exact oneCells8 [125]
      case x3 => unfold maxLen; omega
      case x4 => omega
      case x5 => have := HA.out.size; simp; omega
      intro v1 w1 hown hgrow hne
      have HA1 : Hid (After w w1 base (w0.heap.size + 2) n (curAt base K N n)) := (HA.out.alloc _).grown (HO.out.alloc _) hgrow
      have HO1 : Hid (w1.ownsRow (w.heap.size + 1) 5 1 v1 (wantAt K N n ++ [125]).length (cellsOf8 (wantAt K N n ++ [125]))) := by
        rw [cellsOf8_append, List.length_append]; exact hown
      clear hown hgrow hne HA HO
      have HI := mapInner_size K N n
      have hin : (mapInner n K N).size ≤ 1099511627776 := by omega
      have hEI : ElemsIn w1 (w0.heap.size + 2) n K N := elemsIn_of (fun j hj => (HE.out j hj).later HA1.out.old) (fun j hj => by have := sumSz_one K hj; omega) (fun j hj => by have := sumSz_one N hj; omega)
      have hms := mapString w.heap.size (w0.heap.size + 2) n K N w1 HA1.out.map1 (by omega) hEI hin
      rw [text_eq] at hms
      have hwl := wantAt_length base K N n
      obtain ⟨T, hT⟩ : ∃ T, T = wantAt K N n ++ [125] := ⟨_, rfl⟩
      rw [← hT] at hms HO1
      have hTl : (T.length : Int) = curAt base K N n - base + 1 := by rw [hT, List.length_append]; simp only [List.length_cons, List.length_nil]; omega
      obtain ⟨g, cap, hv⟩ := own_shape HO1.out (by omega)
      subst hv
      obtain ⟨S, hS⟩ : ∃ S : ByteArray, S = ⟨T.toArray⟩ := ⟨_, rfl⟩
      have hSz : (S.size : Int) = curAt base K N n - base + 1 := by rw [← hTl, hS]; simp [ByteArray.size]
      have hcv : ∀ wx, Below w1.heap.size w1 wx → (convert 49 9 (.slice (some ⟨g, 0, none⟩) T.length cap)).run Eang.prog wx = .ok (.string S) wx := fun wx hb => by rw [hS]; exact convBack HO1.out hb
      rw [← hS] at hms
      have HM : Hid (Calls Eang.prog 10 #[.pointer (some ⟨w.heap.size, 0, none⟩)] w1 fun e w' => e = .returned (.string S) ∧ Below w1.heap.size w1 w') := hms
      have HC : Hid (∀ wx, Below w1.heap.size w1 wx → (convert 49 9 (.slice (some ⟨g, 0, none⟩) T.length cap)).run Eang.prog wx = .ok (.string S) wx) := hcv
      have HSz : Hid ((S.size : Int) = curAt base K N n - base + 1) := hSz
      have hS1 : S.size ≤ 4294967296 := by omega
      clear hms hcv hSz hTl hwl hT hS HI hin hEI HE HK HN HO1
      go_wp2_with (go_at_call 10; refine HM.out.mono ?_; rintro e w2 ⟨rfl, hb2⟩; have hcv2 := HC.out w2 hb2; have HA2 : Hid (After w w2 base (w0.heap.size + 2) n (curAt base K N n)) := HA1.out.behind hb2; have q0 := HA2.out.map0; have q2 := HA2.out.map2; clear hb2 HC HM HA1)
      refine (mapEnd w.heap.size 0 (curAt base K N n) w2 q2 (by omega) (by omega)).mono ?_
      rintro e w3 ⟨rfl, hw⟩
      obtain rfl := hw.symm
      clear hw
      go_wp2_with fail
      refine (mapPos w.heap.size 0 base w2 q0).mono ?_
      rintro e w3 ⟨rfl, hw⟩
      obtain rfl := hw.symm
      clear hw
      go_wp2_with fail
      go_ret
      exact ⟨retBool (by rw [HSz.out]; simp; omega), HB.out.trans (HA2.out.old.mono HB.out.size)⟩

end Go.Proofs.Yoeanw
