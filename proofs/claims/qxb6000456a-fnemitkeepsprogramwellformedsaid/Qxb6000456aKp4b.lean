import Derived.Test.Qxb6000456aKp5
namespace Go.Proofs.Qxb6000456a
open Go.RowKit
set_option linter.unusedVariables false
set_option linter.unusedSimpArgs false

theorem len_cnt (P : List I) (h : ∀ i ∈ P, i.op = 0 ∨ i.op = 1 ∨ i.op = 2) : P.length = cnt 0 P + cnt 1 P + cnt 2 P := by
  induction P with
  | nil => rfl
  | cons i P ih =>
    have h1 := ih (fun j hj => h j (by simp [hj]))
    simp only [List.length_cons, cnt_cons, h1]
    rcases h i (by simp) with e | e | e <;> rw [e] <;> simp <;> omega
theorem KpSt.len {st : St} {nb ns nj : Nat} {S : S4 → Prop} (h : KpSt st nb ns nj S) : st.P.length = nb + ns + nj := by
  rw [len_cnt st.P (fun i hi => by rcases h.ok i hi with ⟨e, _⟩ | ⟨e, _⟩ | ⟨e, _⟩ <;> omega), h.c0, h.c1, h.c2]
theorem cnt_take_succ (o : Nat) (P : List I) (k : Nat) (q : I) (h : P[k]? = some q) : cnt o (P.take (k + 1)) = cnt o (P.take k) + (if q.op = o then 1 else 0) := by
  rw [List.take_add_one, h]
  simp only [Option.toList_some, cnt_append, cnt_one]
theorem cnt_take_le (o : Nat) (P : List I) (k : Nat) : cnt o (P.take k) ≤ P.length := by
  unfold cnt
  have h1 := List.count_le_length (a := o) (l := (P.take k).map I.op)
  simp only [List.length_map, List.length_take] at h1
  omega

set_option maxHeartbeats 4000000 in
set_option maxRecDepth 100000 in
theorem kp4b (w0 w wE : World) (p mm nb ns nj cap copies : Nat) (ao : Option Addr) (ws : List ByteArray) (st : St) (hm : ws.length ≤ 65536) (hcp : copies ≤ 4194304) (hnn : nb + ns + nj ≤ 4194304) (HK0 : Hid (Kept (fun _ => False) w0 w)) (HE : Hid (EmSt p mm wE none none w st))
    (HW : Hid (Words w ao ws)) (HSZ : Hid (∀ s ∈ ws, s.size ≤ 1048576)) (HLP : Hid (st.L.length ≤ st.P.length)) (HKp : Hid (KpSt st nb ns nj (fun x => 0 < copies ∧ ∃ c ∈ allBytes ws, x = single c))) (u1 u2 u3 u4 u5 u6 u7 u8 u11 u12 u13 u14 u15 u17 u18 u22 u23 u24 u25 u26 u27 u28 u29 u30 u31 u32 u33 u34 u35 u36 u37 u38 u39 u40 u41 u42 u43 u44 u45 u46 u47 u48 u49 u50 u51 u52 u53 u54 u55 u56 u57 u58 u59 u60 u61 u62 u63 u64 u65 u66 u67 u68 u69 u70 u71 u72 u73 u74 u75 u76 u77 u78 u79 u80 u81 u82 u83 u84 u85 u86 u87 u88 u89 u90 u91 u92 u93 u94 u95 u96 u97 u98 u99 u100 u101 u102 u103 u104 u105 u106 u107 u108 u109 u110 u111 u112 u113 u114 u115 u116 u117 u118 u119 u120 u121 u122 u123 u124 u125 u126 u127 u128 u129 u130 u131 u132 u133 u134 u135 u136 u137 u138 u139 u140 u141 u142 u143 u144 u145 u146 u147 u148 u149 u150 u151 u152 u153 u154 u155 u156 u157 u158 u159 u160 u161 u162 u163 u164 u165 u166 u167 u168 u169 u170 u171 u172 u173 u174 u175 u176 u177 u178 u179 u180 u181 u182 u183 u184 u185 u186 u187 u188 u189 u190 u191 u192 u193 u194 u195 u196 u197 u198 u199 u200 u201 u202 u203 u204 u205 u206 u207 u208 u209 u210 u211 u212 u213 u214 u215 u216 u217 u218 u219 u220 u221 u222 u223 u224 u225 u226 u227 u228 u229 u230 u231 u232 u233 u234 u235 u236 u237 u238 u239 u240 u241 u242 u243 u244 u245 u246 u247 u248 u249 u250 u251 u252 u253 u254 u255 u256 u257 u258 u259 u260 u261 u262 u263 u264 u265 u266 u267 u268 u269 u270 u271 u272 u273 u274 u275 u276 u277 u278 u279 u280 u281 u282 u283 u284 u285 u286 u287 u288 u289 u290 u291 u292 u293 u294 u295 u296 u297 u298 u299 u300 u301 u302 u303 u304 u305 u306 u307 u308 u309 u310 u311 u312 u313 u314 u315 u316 u317 u318 u319 u320 u321 u322 u323 u324 u325 u326 u327 u328 u329 u330 u331 u332 u333 u334 u335 u336 : Value) : Code.wp Try.prog ((Try.f7.body.map (dropSeq 25)).getD .skip) (bodyPost Try.prog Try.f7 fun e w' => e = .returned (.bool true) ∧ Below w0.heap.size w0 w') ⟨#[.slice ao ws.length cap, u1, u2, u3, u4, u5, u6, u7, u8, .int .i64 ws.length, .int .i64 copies, u11, u12, u13, u14, u15, .pointer (some ⟨p, 0, none⟩), u17, u18, .int .i64 nb, .int .i64 ns, .int .i64 nj, u22, u23, u24, u25, u26, u27, u28, u29, u30, u31, u32, u33, u34, u35, u36, u37, u38, u39, u40, u41, u42, u43, u44, u45, u46, u47, u48, u49, u50, u51, u52, u53, u54, u55, u56, u57, u58, u59, u60, u61, u62, u63, u64, u65, u66, u67, u68, u69, u70, u71, u72, u73, u74, u75, u76, u77, u78, u79, u80, u81, u82, u83, u84, u85, u86, u87, u88, u89, u90, u91, u92, u93, u94, u95, u96, u97, u98, u99, u100, u101, u102, u103, u104, u105, u106, u107, u108, u109, u110, u111, u112, u113, u114, u115, u116, u117, u118, u119, u120, u121, u122, u123, u124, u125, u126, u127, u128, u129, u130, u131, u132, u133, u134, u135, u136, u137, u138, u139, u140, u141, u142, u143, u144, u145, u146, u147, u148, u149, u150, u151, u152, u153, u154, u155, u156, u157, u158, u159, u160, u161, u162, u163, u164, u165, u166, u167, u168, u169, u170, u171, u172, u173, u174, u175, u176, u177, u178, u179, u180, u181, u182, u183, u184, u185, u186, u187, u188, u189, u190, u191, u192, u193, u194, u195, u196, u197, u198, u199, u200, u201, u202, u203, u204, u205, u206, u207, u208, u209, u210, u211, u212, u213, u214, u215, u216, u217, u218, u219, u220, u221, u222, u223, u224, u225, u226, u227, u228, u229, u230, u231, u232, u233, u234, u235, u236, u237, u238, u239, u240, u241, u242, u243, u244, u245, u246, u247, u248, u249, u250, u251, u252, u253, u254, u255, u256, u257, u258, u259, u260, u261, u262, u263, u264, u265, u266, u267, u268, u269, u270, u271, u272, u273, u274, u275, u276, u277, u278, u279, u280, u281, u282, u283, u284, u285, u286, u287, u288, u289, u290, u291, u292, u293, u294, u295, u296, u297, u298, u299, u300, u301, u302, u303, u304, u305, u306, u307, u308, u309, u310, u311, u312, u313, u314, u315, u316, u317, u318, u319, u320, u321, u322, u323, u324, u325, u326, u327, u328, u329, u330, u331, u332, u333, u334, u335, u336], []⟩ w := by
  conv => arg 2; whnf
  obtain ⟨N, hN⟩ : ∃ N, st.L.length = N := ⟨_, rfl⟩
  obtain ⟨n, hn⟩ : ∃ n, st.P.length = n := ⟨_, rfl⟩
  have HN : Hid (st.L.length = N) := hN
  have HPn : Hid (st.P.length = n) := hn
  have hnb : n = nb + ns + nj := by rw [← hn]; exact HKp.out.len
  have hNn : N ≤ n := by rw [← hN, ← hn]; exact HLP.out
  obtain ⟨ai, ci, asx, cs, E, T⟩ := HE.out
  have c0 := E.cell0
  have c1 := E.cell1
  rw [hn] at c0
  rw [hN] at c1
  clear E T hN hn
  have hsum : ((nb : Int) + ns + nj) = n := by omega
  have HNB : Hid (n = nb + ns + nj) := hnb
  clear hnb
  go_wp2_with fail
  refine (instCount_any p n ci ai _ c0).mono ?_
  rintro e w1 ⟨rfl, rfl⟩
  go_wp2_with fail
  refine (setCount_any p N cs asx _ c1).mono ?_
  rintro e w1 ⟨rfl, rfl⟩
  clear c0 c1 hsum
  go_wp2_with fail
  go_loopw [24, 25, 26, 27] (fun a b c i wq => ∃ k : Nat, k ≤ n ∧ i = .int .i64 k ∧ a = .int .i64 (cnt 0 (st.P.take k)) ∧ b = .int .i64 (cnt 1 (st.P.take k)) ∧ c = .int .i64 (cnt 2 (st.P.take k)) ∧ Hid (Kept (fun _ => False) w wq)) (fun _ _ _ i _ => n - (intOf i).toNat)
  case atStart => exact ⟨0, Nat.zero_le _, rfl, by simp [cnt_nil], by simp [cnt_nil], by simp [cnt_nil], Kept.refl _ _⟩
  case round =>
    obtain ⟨k, hk, rfl, rfl, rfl, rfl, HK⟩ := hrel
    by_cases hlt : k < n
    · obtain ⟨q, hq⟩ : ∃ q, st.P[k]? = some q := ⟨_, List.getElem?_eq_getElem (by rw [HPn.out]; exact hlt)⟩
      obtain ⟨ai, ci, asx, cs, E, T⟩ := HE.out.still HK.out
      obtain ⟨gi, rfl⟩ := E.form (by rw [HPn.out]; omega)
      have c0 := E.cell0
      rw [HPn.out] at c0
      obtain ⟨d0, d1, d2⟩ := E.cellI hq
      have HC : Hid (Calls Try.prog 26 #[.pointer (some ⟨p, 0, none⟩), .int .i64 k] wr fun e w' => e = .returned (.tuple #[.int .u8 q.op, .int .i32 q.arg, .int .i32 q.next]) ∧ Kept (fun _ => False) wr w') :=
        instAt_any p gi n ci k q.op q.arg q.next wr c0 hlt d0 d1 d2
      clear E T c0 d0 d1 d2
      have HT0 : Hid (cnt 0 (st.P.take (k + 1)) = cnt 0 (st.P.take k) + (if q.op = 0 then 1 else 0)) := cnt_take_succ 0 st.P k q hq
      have HT1 : Hid (cnt 1 (st.P.take (k + 1)) = cnt 1 (st.P.take k) + (if q.op = 1 then 1 else 0)) := cnt_take_succ 1 st.P k q hq
      have HT2 : Hid (cnt 2 (st.P.take (k + 1)) = cnt 2 (st.P.take k) + (if q.op = 2 then 1 else 0)) := cnt_take_succ 2 st.P k q hq
      have b0 := cnt_take_le 0 st.P k
      have b1 := cnt_take_le 1 st.P k
      have b2 := cnt_take_le 2 st.P k
      rw [HPn.out] at b0 b1 b2
      have hn4 : n ≤ 4194304 := by rw [HNB.out]; exact hnn
      have hins := HKp.out.ok q (List.mem_of_getElem? hq)
      rw [HPn.out, HN.out] at hins
      have hnx := HKp.out.nx k q hq
      clear hq
      generalize cnt 0 (st.P.take k) = t0 at *
      generalize cnt 1 (st.P.take k) = t1 at *
      generalize cnt 2 (st.P.take k) = t2 at *
      rcases hins with ⟨h0, h1, h2⟩ | ⟨h0, h1, h2⟩ | ⟨h0, h1, h2⟩
      · have h3 := hnx h0
        rw [h0] at HC HT0 HT1 HT2
        rw [h3] at HC
        clear hnx h0 h2 h3
        generalize q.arg = qa at *
        go_wp2_with fail
        refine (Calls.mono HC.out ?_)
        rintro e w2 ⟨rfl, K2⟩
        have HK2 : Hid (Kept (fun _ => False) w w2) := HK.out.trans K2 (fun _ _ h => h)
        clear K2 HC
        go_wp2_with fail
        go_roundw
        case rel => exact ⟨k + 1, by omega, by go_num, by rw [HT0.out]; go_num, by rw [HT1.out]; simp, by rw [HT2.out]; simp, HK2⟩
        case measure => simp [intOf]; omega
      · rw [h0] at HC HT0 HT1 HT2
        clear hnx h0
        generalize q.arg = qa at *
        generalize q.next = qn at *
        go_wp2_with fail
        refine (Calls.mono HC.out ?_)
        rintro e w2 ⟨rfl, K2⟩
        have HK2 : Hid (Kept (fun _ => False) w w2) := HK.out.trans K2 (fun _ _ h => h)
        clear K2 HC
        go_wp2_with fail
        go_roundw
        case rel => exact ⟨k + 1, by omega, by go_num, by rw [HT0.out]; simp, by rw [HT1.out]; go_num, by rw [HT2.out]; simp, HK2⟩
        case measure => simp [intOf]; omega
      · rw [h0] at HC HT0 HT1 HT2
        clear hnx h0 h1
        generalize q.arg = qa at *
        generalize q.next = qn at *
        go_wp2_with fail
        refine (Calls.mono HC.out ?_)
        rintro e w2 ⟨rfl, K2⟩
        have HK2 : Hid (Kept (fun _ => False) w w2) := HK.out.trans K2 (fun _ _ h => h)
        clear K2 HC
        go_wp2_with fail
        go_roundw
        case rel => exact ⟨k + 1, by omega, by go_num, by rw [HT0.out]; simp, by rw [HT1.out]; simp, by rw [HT2.out]; go_num, HK2⟩
        case measure => simp [intOf]; omega
    · have hke : k = n := by omega
      subst hke
      have e0 : cnt 0 (st.P.take k) = nb := by rw [← HPn.out, List.take_length]; exact HKp.out.c0
      have e1 : cnt 1 (st.P.take k) = ns := by rw [← HPn.out, List.take_length]; exact HKp.out.c1
      have e2 : cnt 2 (st.P.take k) = nj := by rw [← HPn.out, List.take_length]; exact HKp.out.c2
      rw [e0, e1, e2]
      clear e0 e1 e2
      go_upto_if 270 with fail
      go_cut [19] (fun v w' => v = .int .i64 nb ∧ wr = w')
      case first =>
        go_wp2_with fail
        go_meet
        case rel => exact ⟨rfl, rfl⟩
      case rest =>
        obtain ⟨rfl, rfl⟩ := hcut
        apply ‹∀ (a : Act) (w : World), Code.wp Try.prog _ _ a w → _›
        exact kp5 w0 wr wE p mm N cap copies ao ws st hm (by have := HNB.out; omega) hcp (HK0.out.trans HK.out (fun _ _ h => h)) (HE.out.still HK.out) HN (HW.out.kept HK.out) HSZ HKp.out.mem _ _ _ _ _ _ _ _ _ _ _ _ _ _ _ _ _ _ _ _ _ _ _ _ _ _ _ _ _ _ _ _ _ _ _ _ _ _ _ _ _ _ _ _ _ _ _ _ _ _ _ _ _ _ _ _ _ _ _ _ _ _ _ _ _ _ _ _ _ _ _ _ _ _ _ _ _ _ _ _ _ _ _ _ _ _ _ _ _ _ _ _ _ _ _ _ _ _ _ _ _ _ _ _ _ _ _ _ _ _ _ _ _ _ _ _ _ _ _ _ _ _ _ _ _ _ _ _ _ _ _ _ _ _ _ _ _ _ _ _ _ _ _ _ _ _ _ _ _ _ _ _ _ _ _ _ _ _ _ _ _ _ _ _ _ _ _ _ _ _ _ _ _ _ _ _ _ _ _ _ _ _ _ _ _ _ _ _ _ _ _ _ _ _ _ _ _ _ _ _ _ _ _ _ _ _ _ _ _ _ _ _ _ _ _ _ _ _ _ _ _ _ _ _ _ _ _ _ _ _ _ _ _ _ _ _ _ _ _ _ _ _ _ _ _ _ _ _ _ _ _ _ _ _ _ _ _ _ _ _ _ _ _ _ _ _ _ _ _ _ _ _ _ _ _ _ _ _ _ _ _ _ _ _ _ _ _ _ _ _ _ _ _ _ _ _ _ _ _ _ _ _ _ _ _ _ _ _ _ _ _ _ _ _ _ _ _ _ _ _ _ _ _ _ _ _ _ _ _ _ _ _
end Go.Proofs.Qxb6000456a
