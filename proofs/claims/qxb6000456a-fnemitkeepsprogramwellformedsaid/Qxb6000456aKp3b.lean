import Derived.Test.Qxb6000456aKp4a
import Derived.Test.Qxb6000456aKpPart
namespace Go.Proofs.Qxb6000456a
open Go.RowKit
set_option linter.unusedVariables false
set_option linter.unusedSimpArgs false

theorem Words.keptBut {w w' : World} {ao : Option Addr} {ws : List ByteArray} {p : Nat} (h : Words w ao ws) (hk : Kept (fun k => k = p) w w') (hp : ∀ b off, ao = some ⟨b, off, none⟩ → b ≠ p) : Words w' ao ws := by
  intro i hi
  obtain ⟨b, off, e, hc⟩ := h i hi
  exact ⟨b, off, e, by rw [hk.cell (p := ⟨b, off + i, none⟩) (block_lt_of_cell hc) (hp b off e)]; exact hc⟩

set_option maxHeartbeats 4000000 in
set_option maxRecDepth 100000 in
theorem kp3b (w0 w : World) (p n B l cap copies c : Nat) (most : Int) (ao : Option Addr) (ws : List ByteArray) (g : PG) (fp : Nat → Prop) (Node : World → Prop) (hm : ws.length ≤ 65536) (hl : l ≤ 65536) (hm1 : -1 ≤ most) (hm2 : most ≤ 65536) (Hlm : Hid (most = -1 ∨ (l : Int) ≤ most)) (hcp : copies ≤ 1048576) (hB : B ≤ 1048576)
    (HBC : Hid (copies * B ≤ 1048576)) (HAC : Hid (copies * (ws.length - 1) ≤ 1048576)) (HCO : Hid ((copies : Int) = if most = -1 then (l : Int) + 1 else most)) (HSB : Hid (l * c + (if most = -1 then c + 2 else (most - l).toNat * (c + 1)) ≤ 4194000))
    (HK0 : Hid (Kept (fun _ => False) w0 w)) (HP : Hid (w.heap[p]? = some (.cells #[.slice none 0 0, .slice none 0 0] 60 (0, 0)))) (hpw : w0.heap.size ≤ p)
    (HOK : Hid (PartOK n g c fp Node)) (HN : Hid (Node w)) (HG : Hid (g.Good c)) (HT : Hid (Tidy g B (ws.length - 1) (fun x => ∃ c ∈ allBytes ws, x = single c))) (HF : Hid (∀ k, fp k → k < p))
    (HW : Hid (Words w ao ws)) (hwp : ∀ b off, ao = some ⟨b, off, none⟩ → b ≠ p) (HSZ : Hid (∀ s ∈ ws, s.size ≤ 1048576)) (u3 u4 u5 u6 u8 u11 u12 u13 u15 u17 u18 u19 u20 u21 u22 u23 u24 u25 u26 u27 u28 u29 u30 u31 u32 u33 u34 u35 u36 u37 u38 u39 u40 u41 u42 u43 u44 u45 u46 u47 u48 u49 u50 u51 u52 u53 u54 u55 u56 u57 u58 u59 u60 u61 u62 u63 u64 u65 u66 u67 u68 u69 u70 u71 u72 u73 u74 u75 u76 u77 u78 u79 u80 u81 u82 u83 u84 u85 u86 u87 u88 u89 u90 u91 u92 u93 u94 u95 u96 u97 u98 u99 u100 u101 u102 u103 u104 u105 u106 u107 u108 u109 u110 u111 u112 u113 u114 u115 u116 u117 u118 u119 u120 u121 u122 u123 u124 u125 u126 u127 u128 u129 u130 u131 u132 u133 u134 u135 u136 u137 u138 u139 u140 u141 u142 u143 u144 u145 u146 u147 u148 u149 u150 u151 u152 u153 u154 u155 u156 u157 u158 u159 u160 u161 u162 u163 u164 u165 u166 u167 u168 u169 u170 u171 u172 u173 u174 u175 u176 u177 u178 u179 u180 u181 u182 u183 u184 u185 u186 u187 u188 u189 u190 u191 u192 u193 u194 u195 u196 u197 u198 u199 u200 u201 u202 u203 u204 u205 u206 u207 u208 u209 u210 u211 u212 u213 u214 u215 u216 u217 u218 u219 u220 u221 u222 u223 u224 u225 u226 u227 u228 u229 u230 u231 u232 u233 u234 u235 u236 u237 u238 u239 u240 u241 u242 u243 u244 u245 u246 u247 u248 u249 u250 u251 u252 u253 u254 u255 u256 u257 u258 u259 u260 u261 u262 u263 u264 u265 u266 u267 u268 u269 u270 u271 u272 u273 u274 u275 u276 u277 u278 u279 u280 u281 u282 u283 u284 u285 u286 u287 u288 u289 u290 u291 u292 u293 u294 u295 u296 u297 u298 u299 u300 u301 u302 u303 u304 u305 u306 u307 u308 u309 u310 u311 u312 u313 u314 u315 u316 u317 u318 u319 u320 u321 u322 u323 u324 u325 u326 u327 u328 u329 u330 u331 u332 u333 u334 u335 u336 : Value) : Code.wp Try.prog ((Try.f7.body.map (dropSeq 17)).getD .skip) (bodyPost Try.prog Try.f7 fun e w' => e = .returned (.bool true) ∧ Below w0.heap.size w0 w') ⟨#[.slice ao ws.length cap, .int .i64 l, .int .i64 most, u3, u4, u5, u6, .int .i64 B, u8, .int .i64 ws.length, .int .i64 copies, u11, u12, u13, .pointer (some ⟨n, 0, none⟩), u15, .pointer (some ⟨p, 0, none⟩), u17, u18, u19, u20, u21, u22, u23, u24, u25, u26, u27, u28, u29, u30, u31, u32, u33, u34, u35, u36, u37, u38, u39, u40, u41, u42, u43, u44, u45, u46, u47, u48, u49, u50, u51, u52, u53, u54, u55, u56, u57, u58, u59, u60, u61, u62, u63, u64, u65, u66, u67, u68, u69, u70, u71, u72, u73, u74, u75, u76, u77, u78, u79, u80, u81, u82, u83, u84, u85, u86, u87, u88, u89, u90, u91, u92, u93, u94, u95, u96, u97, u98, u99, u100, u101, u102, u103, u104, u105, u106, u107, u108, u109, u110, u111, u112, u113, u114, u115, u116, u117, u118, u119, u120, u121, u122, u123, u124, u125, u126, u127, u128, u129, u130, u131, u132, u133, u134, u135, u136, u137, u138, u139, u140, u141, u142, u143, u144, u145, u146, u147, u148, u149, u150, u151, u152, u153, u154, u155, u156, u157, u158, u159, u160, u161, u162, u163, u164, u165, u166, u167, u168, u169, u170, u171, u172, u173, u174, u175, u176, u177, u178, u179, u180, u181, u182, u183, u184, u185, u186, u187, u188, u189, u190, u191, u192, u193, u194, u195, u196, u197, u198, u199, u200, u201, u202, u203, u204, u205, u206, u207, u208, u209, u210, u211, u212, u213, u214, u215, u216, u217, u218, u219, u220, u221, u222, u223, u224, u225, u226, u227, u228, u229, u230, u231, u232, u233, u234, u235, u236, u237, u238, u239, u240, u241, u242, u243, u244, u245, u246, u247, u248, u249, u250, u251, u252, u253, u254, u255, u256, u257, u258, u259, u260, u261, u262, u263, u264, u265, u266, u267, u268, u269, u270, u271, u272, u273, u274, u275, u276, u277, u278, u279, u280, u281, u282, u283, u284, u285, u286, u287, u288, u289, u290, u291, u292, u293, u294, u295, u296, u297, u298, u299, u300, u301, u302, u303, u304, u305, u306, u307, u308, u309, u310, u311, u312, u313, u314, u315, u316, u317, u318, u319, u320, u321, u322, u323, u324, u325, u326, u327, u328, u329, u330, u331, u332, u333, u334, u335, u336], []⟩ w := by
  conv => arg 2; whnf
  go_wp2_with fail
  refine (newSets_any _).mono ?_
  rintro e w3 ⟨rfl, hw3⟩
  obtain ⟨mm, hmm⟩ : ∃ mm, mm = w.heap.size := ⟨_, rfl⟩
  rw [← hmm]
  have K3 : Kept (fun _ => False) w w3 := by rw [hw3]; exact (Kept.refl _ _).alloc _
  have M3 : w3.heap[mm]? = some (.map #[] 0) := by rw [hw3, hmm]; exact heap_alloc_new w _
  have hmw2 : mm = w.heap.size := hmm
  have hplt : p < mm := by rw [hmm]; exact lt_of_block HP.out
  have P3 := K3.heap HP.out (fun h => h)
  have N3 : Node w3 := HOK.out.kept HN.out K3 (fun _ _ h => h)
  have hmw : w0.heap.size ≤ mm := by omega
  have HMM : Hid (mm = w.heap.size) := hmm
  clear hw3 hmm hmw2
  have HC : Hid (Calls Try.prog 32 #[.pointer (some ⟨p, 0, none⟩), .pointer (some ⟨n, 0, none⟩), .int .i64 l, .int .i64 most, .map (some mm)] w3 fun e w' => e = .returned (.tuple #[]) ∧ EmSt p mm w3 none none w' (g.repeat ⟨[], []⟩ l most)) :=
    emitRepeat_any p mm n g c fp Node HOK.out l most hl hm1 hm2 Hlm.out ⟨[], []⟩ (Nat.le_refl _) (by have := HSB.out; simp only [List.length_nil]; omega) none 0 none 0 w3 (emSt_new P3 M3 (by omega)) N3 (fun k hk h => by
      have := HF.out k hk
      rcases emF_none _ _ _ h with h | h <;> omega)
  have HKp := repeat_kp HG.out HT.out l most Hlm.out copies HCO.out
  have HLP := repeat_sets HG.out.sized ⟨[], []⟩ (Nat.le_refl _) l most
  have HKp2 : Hid (KpSt (g.repeat ⟨[], []⟩ l most) (copies * B) (copies * (ws.length - 1) + (if most = -1 then 1 else (most - l).toNat)) (copies * (ws.length - 1) + (if most = -1 then 1 else 0)) (fun x => 0 < copies ∧ ∃ c ∈ allBytes ws, x = single c)) := HKp
  have HLP2 : Hid ((g.repeat ⟨[], []⟩ l most).L.length ≤ (g.repeat ⟨[], []⟩ l most).P.length) := HLP
  have HK3 : Hid (Kept (fun _ => False) w w3) := K3
  clear HKp HLP K3 M3 P3 N3
  generalize g.repeat ⟨[], []⟩ l most = st at *
  go_wp2_with fail
  refine (zzEmitRepeat_any p n mm l most w3 (fun w' => EmSt p mm w3 none none w' st) HC.out).mono ?_
  rintro e w5 ⟨rfl, S5⟩
  have HS5 : Hid (EmSt p mm w3 none none w5 st) := S5
  have HK5 : Hid (Kept (fun k => k = p) w w5) := (HK3.out.mono (fun _ _ h => h.elim)).trans S5.keptW (fun i hi h => by rcases emF_none _ _ _ h with h | h; exact h; have := HMM.out; omega)
  clear S5 HC
  go_upto_region 43 with fail
  go_cut [18] (fun v w' => v = .int .i64 0 ∧ w5 = w')
  case first =>
    go_wp2_with fail
    go_meet
    case rel => exact ⟨rfl, rfl⟩
  case rest =>
    obtain ⟨rfl, rfl⟩ := hcut
    apply ‹∀ (a : Act) (w : World), Code.wp Try.prog _ _ a w → _›
    exact kp4a w0 w5 w3 p mm B l cap copies most ao ws st hm hl hm1 hm2 Hlm hcp hB HBC HAC (HK0.out.trans HK5.out (fun i hi h => by omega)) HS5 (HW.out.keptBut HK5.out hwp) HSZ HLP2 HKp2 _ _ _ _ _ _ _ _ _ _ _ _ _ _ _ _ _ _ _ _ _ _ _ _ _ _ _ _ _ _ _ _ _ _ _ _ _ _ _ _ _ _ _ _ _ _ _ _ _ _ _ _ _ _ _ _ _ _ _ _ _ _ _ _ _ _ _ _ _ _ _ _ _ _ _ _ _ _ _ _ _ _ _ _ _ _ _ _ _ _ _ _ _ _ _ _ _ _ _ _ _ _ _ _ _ _ _ _ _ _ _ _ _ _ _ _ _ _ _ _ _ _ _ _ _ _ _ _ _ _ _ _ _ _ _ _ _ _ _ _ _ _ _ _ _ _ _ _ _ _ _ _ _ _ _ _ _ _ _ _ _ _ _ _ _ _ _ _ _ _ _ _ _ _ _ _ _ _ _ _ _ _ _ _ _ _ _ _ _ _ _ _ _ _ _ _ _ _ _ _ _ _ _ _ _ _ _ _ _ _ _ _ _ _ _ _ _ _ _ _ _ _ _ _ _ _ _ _ _ _ _ _ _ _ _ _ _ _ _ _ _ _ _ _ _ _ _ _ _ _ _ _ _ _ _ _ _ _ _ _ _ _ _ _ _ _ _ _ _ _ _ _ _ _ _ _ _ _ _ _ _ _ _ _ _ _ _ _ _ _ _ _ _ _ _ _ _ _ _ _ _ _ _ _ _ _ _ _ _ _ _ _ _ _ _ _ _ _ _ _ _ _ _ _ _ _ _ _ _
end Go.Proofs.Qxb6000456a
