import Derived.Test.Qxb6000456aKp3b
namespace Go.Proofs.Qxb6000456a
open Go.RowKit
set_option linter.unusedVariables false
set_option linter.unusedSimpArgs false

theorem kp_size (B m l copies : Nat) (most : Int) (hl : l ≤ 65536) (hm2 : most ≤ 65536) (hlm : most = -1 ∨ (l : Int) ≤ most) (hco : (copies : Int) = if most = -1 then (l : Int) + 1 else most) (hper : copies * (B + 2 * m + 1) ≤ 1048576) :
    copies * B ≤ 1048576 ∧ copies * (m - 1) ≤ 1048576 ∧ l * (B + 2 * (m - 1)) + (if most = -1 then B + 2 * (m - 1) + 2 else (most - l).toNat * (B + 2 * (m - 1) + 1)) ≤ 4194000 := by
  have h1 : copies * B ≤ copies * (B + 2 * m + 1) := Nat.mul_le_mul_left _ (by omega)
  have h2 : copies * (m - 1) ≤ copies * (B + 2 * m + 1) := Nat.mul_le_mul_left _ (by omega)
  refine ⟨by omega, by omega, ?_⟩
  rcases hlm with rfl | hlm
  · rw [if_pos rfl] at hco ⊢
    have hc : copies = l + 1 := by omega
    subst hc
    have h3 : (l + 1) * (B + 2 * (m - 1)) ≤ (l + 1) * (B + 2 * m + 1) := Nat.mul_le_mul_left _ (by omega)
    rw [Nat.succ_mul] at h3
    omega
  · have hne : ¬ most = -1 := by omega
    rw [if_neg hne] at hco ⊢
    obtain ⟨d, hd⟩ : ∃ d : Nat, copies = l + d := ⟨copies - l, by omega⟩
    have h6 : (most - (l : Int)).toNat = d := by omega
    rw [h6]
    subst hd
    have h3 : (l + d) * (B + 2 * (m - 1) + 1) ≤ (l + d) * (B + 2 * m + 1) := Nat.mul_le_mul_left _ (by omega)
    rw [Nat.add_mul] at h3
    have h4 : l * (B + 2 * (m - 1)) ≤ l * (B + 2 * (m - 1) + 1) := Nat.mul_le_mul_left _ (by omega)
    omega

set_option maxHeartbeats 4000000 in
set_option maxRecDepth 100000 in
theorem kp3a (w0 w : World) (l cap copies : Nat) (most : Int) (ao : Option Addr) (ws : List ByteArray) (B : Nat) (HBB : Hid (bytesOf ws = B)) (hm : ws.length ≤ 65536) (hl : l ≤ 65536) (hm1 : -1 ≤ most) (hm2 : most ≤ 65536) (Hlm : Hid (most = -1 ∨ (l : Int) ≤ most)) (hcp : copies ≤ 1048576) (hB : B ≤ 1048576)
    (HPER : Hid (copies * (B + 2 * ws.length + 1) ≤ 1048576)) (HCO : Hid ((copies : Int) = if most = -1 then (l : Int) + 1 else most))
    (HK0 : Hid (Kept (fun _ => False) w0 w)) (HW : Hid (Words w ao ws)) (hwl : ∀ b off, ao = some ⟨b, off, none⟩ → b < w.heap.size) (HSZ : Hid (∀ s ∈ ws, s.size ≤ 1048576)) (u3 u4 u5 u6 u8 u11 u12 u13 u14 u15 u16 u17 u18 u19 u20 u21 u22 u23 u24 u25 u26 u27 u28 u29 u30 u31 u32 u33 u34 u35 u36 u37 u38 u39 u40 u41 u42 u43 u44 u45 u46 u47 u48 u49 u50 u51 u52 u53 u54 u55 u56 u57 u58 u59 u60 u61 u62 u63 u64 u65 u66 u67 u68 u69 u70 u71 u72 u73 u74 u75 u76 u77 u78 u79 u80 u81 u82 u83 u84 u85 u86 u87 u88 u89 u90 u91 u92 u93 u94 u95 u96 u97 u98 u99 u100 u101 u102 u103 u104 u105 u106 u107 u108 u109 u110 u111 u112 u113 u114 u115 u116 u117 u118 u119 u120 u121 u122 u123 u124 u125 u126 u127 u128 u129 u130 u131 u132 u133 u134 u135 u136 u137 u138 u139 u140 u141 u142 u143 u144 u145 u146 u147 u148 u149 u150 u151 u152 u153 u154 u155 u156 u157 u158 u159 u160 u161 u162 u163 u164 u165 u166 u167 u168 u169 u170 u171 u172 u173 u174 u175 u176 u177 u178 u179 u180 u181 u182 u183 u184 u185 u186 u187 u188 u189 u190 u191 u192 u193 u194 u195 u196 u197 u198 u199 u200 u201 u202 u203 u204 u205 u206 u207 u208 u209 u210 u211 u212 u213 u214 u215 u216 u217 u218 u219 u220 u221 u222 u223 u224 u225 u226 u227 u228 u229 u230 u231 u232 u233 u234 u235 u236 u237 u238 u239 u240 u241 u242 u243 u244 u245 u246 u247 u248 u249 u250 u251 u252 u253 u254 u255 u256 u257 u258 u259 u260 u261 u262 u263 u264 u265 u266 u267 u268 u269 u270 u271 u272 u273 u274 u275 u276 u277 u278 u279 u280 u281 u282 u283 u284 u285 u286 u287 u288 u289 u290 u291 u292 u293 u294 u295 u296 u297 u298 u299 u300 u301 u302 u303 u304 u305 u306 u307 u308 u309 u310 u311 u312 u313 u314 u315 u316 u317 u318 u319 u320 u321 u322 u323 u324 u325 u326 u327 u328 u329 u330 u331 u332 u333 u334 u335 u336 : Value) : Code.wp Try.prog ((Try.f7.body.map (dropSeq 14)).getD .skip) (bodyPost Try.prog Try.f7 fun e w' => e = .returned (.bool true) ∧ Below w0.heap.size w0 w') ⟨#[.slice ao ws.length cap, .int .i64 l, .int .i64 most, u3, u4, u5, u6, .int .i64 B, u8, .int .i64 ws.length, .int .i64 copies, u11, u12, u13, u14, u15, u16, u17, u18, u19, u20, u21, u22, u23, u24, u25, u26, u27, u28, u29, u30, u31, u32, u33, u34, u35, u36, u37, u38, u39, u40, u41, u42, u43, u44, u45, u46, u47, u48, u49, u50, u51, u52, u53, u54, u55, u56, u57, u58, u59, u60, u61, u62, u63, u64, u65, u66, u67, u68, u69, u70, u71, u72, u73, u74, u75, u76, u77, u78, u79, u80, u81, u82, u83, u84, u85, u86, u87, u88, u89, u90, u91, u92, u93, u94, u95, u96, u97, u98, u99, u100, u101, u102, u103, u104, u105, u106, u107, u108, u109, u110, u111, u112, u113, u114, u115, u116, u117, u118, u119, u120, u121, u122, u123, u124, u125, u126, u127, u128, u129, u130, u131, u132, u133, u134, u135, u136, u137, u138, u139, u140, u141, u142, u143, u144, u145, u146, u147, u148, u149, u150, u151, u152, u153, u154, u155, u156, u157, u158, u159, u160, u161, u162, u163, u164, u165, u166, u167, u168, u169, u170, u171, u172, u173, u174, u175, u176, u177, u178, u179, u180, u181, u182, u183, u184, u185, u186, u187, u188, u189, u190, u191, u192, u193, u194, u195, u196, u197, u198, u199, u200, u201, u202, u203, u204, u205, u206, u207, u208, u209, u210, u211, u212, u213, u214, u215, u216, u217, u218, u219, u220, u221, u222, u223, u224, u225, u226, u227, u228, u229, u230, u231, u232, u233, u234, u235, u236, u237, u238, u239, u240, u241, u242, u243, u244, u245, u246, u247, u248, u249, u250, u251, u252, u253, u254, u255, u256, u257, u258, u259, u260, u261, u262, u263, u264, u265, u266, u267, u268, u269, u270, u271, u272, u273, u274, u275, u276, u277, u278, u279, u280, u281, u282, u283, u284, u285, u286, u287, u288, u289, u290, u291, u292, u293, u294, u295, u296, u297, u298, u299, u300, u301, u302, u303, u304, u305, u306, u307, u308, u309, u310, u311, u312, u313, u314, u315, u316, u317, u318, u319, u320, u321, u322, u323, u324, u325, u326, u327, u328, u329, u330, u331, u332, u333, u334, u335, u336], []⟩ w := by
  have HWL : Hid (∀ b off, ao = some ⟨b, off, none⟩ → b < w.heap.size) := hwl
  clear hwl
  conv => arg 2; whnf
  go_wp2_with fail
  refine (zzAlt_any _).mono ?_
  rintro e w1 ⟨rfl, rfl⟩
  have M0 : Hid (AltMk w (w.alloc (.cells (nodeCells 2 (.slice none 0 0)) 56)) w.heap.size none 0 [] (ysOf (ws.take 0))) := AltMk.start
  obtain ⟨n, hn⟩ : ∃ n, n = w.heap.size := ⟨_, rfl⟩
  rw [← hn] at M0 ⊢
  generalize w.alloc (.cells (nodeCells 2 (.slice none 0 0)) 56) = w1 at *
  clear hn
  unfold ptrV
  go_wp2_with fail
  go_loopw [15] (fun i wq => ∃ (k : Nat) (a : Option Addr) (cp : Nat) (bs : List Nat), k ≤ ws.length ∧ i = .int .i64 k ∧ bs.length = k ∧ Hid (AltMk w wq n a cp bs (ysOf (ws.take k)))) (fun i _ => ws.length - (intOf i).toNat)
  case atStart => exact ⟨0, none, 0, [], Nat.zero_le _, rfl, rfl, M0⟩
  case round =>
    obtain ⟨k, a, cp, bs, hk, rfl, hbs, HM⟩ := hrel
    by_cases hlt : k < ws.length
    · obtain ⟨b, off, hao, hc⟩ := (HW.out.kept HM.out.kept) k hlt
      subst hao
      have HX : Hid (ysOf (ws.take (k + 1)) = ysOf (ws.take k) ++ [(ws[k]'hlt).data.toList.map single]) := by
        rw [Hid, List.take_succ_eq_append_getElem hlt]
        unfold ysOf
        rw [List.map_append]; rfl
      have hsz := HSZ.out (ws[k]'hlt) (List.getElem_mem hlt)
      generalize ws[k]'hlt = s at *
      have HBS : Hid (bs.length = k) := hbs
      clear hbs
      go_wp2_with fail
      refine (zzLiteral_any s hsz _).mono ?_
      rintro e w2 ⟨b1, a1, cap1, bs1, rfl, L1⟩
      have HL1 : Hid (LitSt wr w2 b1 a1 cap1 bs1 (s.data.toList.map single)) := L1
      clear L1
      unfold ptrV
      go_wp2_with fail
      refine (addLit_any HM.out (by rw [HBS.out]; omega) HL1.out).mono ?_
      rintro e w3 ⟨rfl, a3, cap3, M3⟩
      have HM3 : Hid (AltMk w w3 n a3 cap3 (bs ++ [b1]) (ysOf (ws.take (k + 1)))) := by rw [Hid, HX.out]; exact M3
      clear M3 HL1
      go_wp2_with fail
      go_roundw
      case rel => exact ⟨k + 1, a3, cap3, bs ++ [b1], by omega, by go_num, by simp [HBS.out], HM3⟩
      case measure => simp [intOf]; omega
    · have hke : k = ws.length := by omega
      subst hke
      have HM2 : Hid (AltMk w wr n a cp bs (ysOf ws)) := by
        have := HM.out
        rw [List.take_length] at this
        exact this
      clear HM hbs
      go_upto_region 40 with fail
      go_cut [16] (fun v w' => ∃ p, v = .pointer (some ⟨p, 0, none⟩) ∧ Hid (p = wr.heap.size ∧ w'.heap[p]? = some (.cells #[.slice none 0 0, .slice none 0 0] 60 (0, 0)) ∧ Kept (fun _ => False) wr w'))
      case first =>
        go_wp2_with fail
        refine (newProgram_any _).mono ?_
        rintro e w2 ⟨rfl, hw2⟩
        have HQ : Hid (w2.heap[wr.heap.size]? = some (.cells #[.slice none 0 0, .slice none 0 0] 60 (0, 0)) ∧ Kept (fun _ => False) wr w2) := by
          rw [hw2]; exact ⟨heap_alloc_new wr _, (Kept.refl _ _).alloc _⟩
        clear hw2
        go_wp2_with fail
        go_meet
        case rel => exact ⟨_, rfl, rfl, HQ⟩
      case rest =>
        obtain ⟨p, rfl, hcut⟩ := hcut
        obtain ⟨hp, hp2, hk2⟩ := hcut.out
        apply ‹∀ (a : Act) (w : World), Code.wp Try.prog _ _ a w → _›
        obtain ⟨g, c, fp, Node, ok, hN, hG, hT, hc, hf⟩ := kpPart HM2.out hm
        rw [HBB.out] at hT hc
        obtain ⟨s1, s2, s3⟩ := kp_size B ws.length l copies most hl hm2 Hlm.out HCO.out HPER.out
        rw [← hc] at s3
        have hwk := HM2.out.kept.size
        have hw0 := HK0.out.size
        exact kp3b w0 wc p n B l cap copies c most ao ws g fp Node hm hl hm1 hm2 Hlm hcp hB s1 s2 HCO s3 ((HK0.out.trans HM2.out.kept (fun _ _ h => h)).trans hk2 (fun _ _ h => h)) hp2 (by omega) ok (ok.kept hN hk2 (fun _ _ h => h)) hG hT (fun k hk => by have := hf k hk; omega)
          ((HW.out.kept HM2.out.kept).kept hk2) (fun b off e => by have := HWL.out b off e; omega) HSZ _ _ _ _ _ _ _ _ _ _ _ _ _ _ _ _ _ _ _ _ _ _ _ _ _ _ _ _ _ _ _ _ _ _ _ _ _ _ _ _ _ _ _ _ _ _ _ _ _ _ _ _ _ _ _ _ _ _ _ _ _ _ _ _ _ _ _ _ _ _ _ _ _ _ _ _ _ _ _ _ _ _ _ _ _ _ _ _ _ _ _ _ _ _ _ _ _ _ _ _ _ _ _ _ _ _ _ _ _ _ _ _ _ _ _ _ _ _ _ _ _ _ _ _ _ _ _ _ _ _ _ _ _ _ _ _ _ _ _ _ _ _ _ _ _ _ _ _ _ _ _ _ _ _ _ _ _ _ _ _ _ _ _ _ _ _ _ _ _ _ _ _ _ _ _ _ _ _ _ _ _ _ _ _ _ _ _ _ _ _ _ _ _ _ _ _ _ _ _ _ _ _ _ _ _ _ _ _ _ _ _ _ _ _ _ _ _ _ _ _ _ _ _ _ _ _ _ _ _ _ _ _ _ _ _ _ _ _ _ _ _ _ _ _ _ _ _ _ _ _ _ _ _ _ _ _ _ _ _ _ _ _ _ _ _ _ _ _ _ _ _ _ _ _ _ _ _ _ _ _ _ _ _ _ _ _ _ _ _ _ _ _ _ _ _ _ _ _ _ _ _ _ _ _ _ _ _ _ _ _ _ _ _ _ _ _ _ _ _ _ _ _ _ _ _ _ _ _ _
end Go.Proofs.Qxb6000456a
