import Derived.Test.Qxb6000456aKp2
namespace Go.Proofs.Qxb6000456a
open Go.RowKit
set_option linter.unusedVariables false
set_option linter.unusedSimpArgs false

set_option maxHeartbeats 4000000 in
set_option maxRecDepth 100000 in
theorem kp1d (w0 w : World) (l cap copies : Nat) (most : Int) (ao : Option Addr) (ws : List ByteArray) (B : Nat) (Hnil : Hid (ao = none → ws = [] ∧ cap = 0)) (HBB : Hid (bytesOf ws = B)) (hm : ws.length ≤ 65536) (hl : l ≤ 65536) (hm1 : -1 ≤ most) (hm2 : most ≤ 65536) (Hlm : Hid (most = -1 ∨ (l : Int) ≤ most)) (hcp : copies ≤ 65537) (hB : B ≤ 1048576)
    (HCO : Hid ((copies : Int) = if most = -1 then (l : Int) + 1 else most)) (HK0 : Hid (Kept (fun _ => False) w0 w)) (HW : Hid (Words w ao ws)) (HSZ : Hid (∀ s ∈ ws, s.size ≤ 1048576)) (u3 u4 u5 u6 u8 u11 u12 u13 u14 u15 u16 u17 u18 u19 u20 u21 u22 u23 u24 u25 u26 u27 u28 u29 u30 u31 u32 u33 u34 u35 u36 u37 u38 u39 u40 u41 u42 u43 u44 u45 u46 u47 u48 u49 u50 u51 u52 u53 u54 u55 u56 u57 u58 u59 u60 u61 u62 u63 u64 u65 u66 u67 u68 u69 u70 u71 u72 u73 u74 u75 u76 u77 u78 u79 u80 u81 u82 u83 u84 u85 u86 u87 u88 u89 u90 u91 u92 u93 u94 u95 u96 u97 u98 u99 u100 u101 u102 u103 u104 u105 u106 u107 u108 u109 u110 u111 u112 u113 u114 u115 u116 u117 u118 u119 u120 u121 u122 u123 u124 u125 u126 u127 u128 u129 u130 u131 u132 u133 u134 u135 u136 u137 u138 u139 u140 u141 u142 u143 u144 u145 u146 u147 u148 u149 u150 u151 u152 u153 u154 u155 u156 u157 u158 u159 u160 u161 u162 u163 u164 u165 u166 u167 u168 u169 u170 u171 u172 u173 u174 u175 u176 u177 u178 u179 u180 u181 u182 u183 u184 u185 u186 u187 u188 u189 u190 u191 u192 u193 u194 u195 u196 u197 u198 u199 u200 u201 u202 u203 u204 u205 u206 u207 u208 u209 u210 u211 u212 u213 u214 u215 u216 u217 u218 u219 u220 u221 u222 u223 u224 u225 u226 u227 u228 u229 u230 u231 u232 u233 u234 u235 u236 u237 u238 u239 u240 u241 u242 u243 u244 u245 u246 u247 u248 u249 u250 u251 u252 u253 u254 u255 u256 u257 u258 u259 u260 u261 u262 u263 u264 u265 u266 u267 u268 u269 u270 u271 u272 u273 u274 u275 u276 u277 u278 u279 u280 u281 u282 u283 u284 u285 u286 u287 u288 u289 u290 u291 u292 u293 u294 u295 u296 u297 u298 u299 u300 u301 u302 u303 u304 u305 u306 u307 u308 u309 u310 u311 u312 u313 u314 u315 u316 u317 u318 u319 u320 u321 u322 u323 u324 u325 u326 u327 u328 u329 u330 u331 u332 u333 u334 u335 u336 : Value) : Code.wp Try.prog ((Try.f7.body.map (dropSeq 11)).getD .skip) (bodyPost Try.prog Try.f7 fun e w' => e = .returned (.bool true) ∧ Below w0.heap.size w0 w') ⟨#[.slice ao ws.length cap, .int .i64 l, .int .i64 most, u3, u4, u5, u6, .int .i64 B, u8, .int .i64 ws.length, .int .i64 copies, u11, u12, u13, u14, u15, u16, u17, u18, u19, u20, u21, u22, u23, u24, u25, u26, u27, u28, u29, u30, u31, u32, u33, u34, u35, u36, u37, u38, u39, u40, u41, u42, u43, u44, u45, u46, u47, u48, u49, u50, u51, u52, u53, u54, u55, u56, u57, u58, u59, u60, u61, u62, u63, u64, u65, u66, u67, u68, u69, u70, u71, u72, u73, u74, u75, u76, u77, u78, u79, u80, u81, u82, u83, u84, u85, u86, u87, u88, u89, u90, u91, u92, u93, u94, u95, u96, u97, u98, u99, u100, u101, u102, u103, u104, u105, u106, u107, u108, u109, u110, u111, u112, u113, u114, u115, u116, u117, u118, u119, u120, u121, u122, u123, u124, u125, u126, u127, u128, u129, u130, u131, u132, u133, u134, u135, u136, u137, u138, u139, u140, u141, u142, u143, u144, u145, u146, u147, u148, u149, u150, u151, u152, u153, u154, u155, u156, u157, u158, u159, u160, u161, u162, u163, u164, u165, u166, u167, u168, u169, u170, u171, u172, u173, u174, u175, u176, u177, u178, u179, u180, u181, u182, u183, u184, u185, u186, u187, u188, u189, u190, u191, u192, u193, u194, u195, u196, u197, u198, u199, u200, u201, u202, u203, u204, u205, u206, u207, u208, u209, u210, u211, u212, u213, u214, u215, u216, u217, u218, u219, u220, u221, u222, u223, u224, u225, u226, u227, u228, u229, u230, u231, u232, u233, u234, u235, u236, u237, u238, u239, u240, u241, u242, u243, u244, u245, u246, u247, u248, u249, u250, u251, u252, u253, u254, u255, u256, u257, u258, u259, u260, u261, u262, u263, u264, u265, u266, u267, u268, u269, u270, u271, u272, u273, u274, u275, u276, u277, u278, u279, u280, u281, u282, u283, u284, u285, u286, u287, u288, u289, u290, u291, u292, u293, u294, u295, u296, u297, u298, u299, u300, u301, u302, u303, u304, u305, u306, u307, u308, u309, u310, u311, u312, u313, u314, u315, u316, u317, u318, u319, u320, u321, u322, u323, u324, u325, u326, u327, u328, u329, u330, u331, u332, u333, u334, u335, u336], []⟩ w := by
  conv => arg 2; whnf
  have hp1 : 1 ≤ (B : Int) + 2 * (ws.length : Int) + 1 := by omega
  by_cases h : (copies : Int) ≤ 1048576 / ((B : Int) + 2 * (ws.length : Int) + 1)
  · have HPER : Hid (copies * (B + 2 * ws.length + 1) ≤ 1048576) := by
      have h3 := Int.mul_le_mul_of_nonneg_right h (show (0 : Int) ≤ (B : Int) + 2 * (ws.length : Int) + 1 by omega)
      have h4 := Int.ediv_mul_le 1048576 (show (B : Int) + 2 * (ws.length : Int) + 1 ≠ 0 by omega)
      have h5 : (copies : Int) * ((B : Int) + 2 * (ws.length : Int) + 1) ≤ 1048576 := Int.le_trans h3 h4
      have h6 : (copies : Int) * ((B : Int) + 2 * (ws.length : Int) + 1) = ((copies * (B + 2 * ws.length + 1) : Nat) : Int) := by simp
      rw [h6] at h5
      exact Int.ofNat_le.1 h5
    go_upto_if 118 with fail
    go_cut [10] (fun v w' => v = .int .i64 copies ∧ w = w')
    case first =>
      go_wp2_with fail
      go_meet
      case rel => exact ⟨rfl, rfl⟩
    case rest =>
      obtain ⟨rfl, rfl⟩ := hcut
      apply ‹∀ (a : Act) (w : World), Code.wp Try.prog _ _ a w → _›
      exact kp2 w0 w l cap copies most ao ws B Hnil HBB hm hl hm1 hm2 Hlm (by omega) hB HPER HCO HK0 HW HSZ _ _ _ _ _ _ _ _ _ _ _ _ _ _ _ _ _ _ _ _ _ _ _ _ _ _ _ _ _ _ _ _ _ _ _ _ _ _ _ _ _ _ _ _ _ _ _ _ _ _ _ _ _ _ _ _ _ _ _ _ _ _ _ _ _ _ _ _ _ _ _ _ _ _ _ _ _ _ _ _ _ _ _ _ _ _ _ _ _ _ _ _ _ _ _ _ _ _ _ _ _ _ _ _ _ _ _ _ _ _ _ _ _ _ _ _ _ _ _ _ _ _ _ _ _ _ _ _ _ _ _ _ _ _ _ _ _ _ _ _ _ _ _ _ _ _ _ _ _ _ _ _ _ _ _ _ _ _ _ _ _ _ _ _ _ _ _ _ _ _ _ _ _ _ _ _ _ _ _ _ _ _ _ _ _ _ _ _ _ _ _ _ _ _ _ _ _ _ _ _ _ _ _ _ _ _ _ _ _ _ _ _ _ _ _ _ _ _ _ _ _ _ _ _ _ _ _ _ _ _ _ _ _ _ _ _ _ _ _ _ _ _ _ _ _ _ _ _ _ _ _ _ _ _ _ _ _ _ _ _ _ _ _ _ _ _ _ _ _ _ _ _ _ _ _ _ _ _ _ _ _ _ _ _ _ _ _ _ _ _ _ _ _ _ _ _ _ _ _ _ _ _ _ _ _ _ _ _ _ _ _ _ _ _ _ _ _ _ _ _ _ _ _ _ _ _ _ _ _ _ _
  · have KF : Below w0.heap.size w0 w := HK0.out.below (Nat.le_refl _) (fun _ _ h => h)
    go_wp2_with fail
    go_ret
    exact ⟨rfl, KF⟩
end Go.Proofs.Qxb6000456a
