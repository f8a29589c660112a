import Derived.Test.Qxb6000456aKp6
namespace Go.Proofs.Qxb6000456a
open Go.RowKit
set_option linter.unusedVariables false
set_option linter.unusedSimpArgs false

theorem nodup_le {α : Type} [DecidableEq α] : ∀ (l k : List α), l.Nodup → (∀ x ∈ l, x ∈ k) → l.length ≤ k.length := by
  intro l
  induction l with
  | nil => intro k _ _; simp
  | cons a l ih =>
    intro k hn hs
    have hn2 := List.nodup_cons.1 hn
    have ha : a ∈ k := hs a (by simp)
    have h1 := ih (k.erase a) hn2.2 (fun x hx => (List.mem_erase_of_ne (by intro e; subst e; exact hn2.1 hx)).2 (hs x (by simp [hx])))
    rw [List.length_erase_of_mem ha] at h1
    have := List.length_pos_of_mem ha
    simp only [List.length_cons]
    omega
theorem nodup_256 (D : List UInt8) (h : D.Nodup) : D.length ≤ 256 := by
  have h1 := nodup_le D ((List.range 256).map UInt8.ofNat) h (fun x _ => by
    refine List.mem_map.2 ⟨x.toNat, ?_, by simp⟩
    have := UInt8.toNat_lt x
    simp; omega)
  simpa using h1
theorem single_nodup {D : List UInt8} (h : D.Nodup) : (D.map single).Nodup := by
  have hp := List.pairwise_iff_getElem.1 h
  refine List.pairwise_iff_getElem.2 ?_
  intro i j hi hj hij
  simp only [List.getElem_map]
  simp only [List.length_map] at hi hj
  exact fun e => hp i j hi hj hij (single_inj e)
theorem sets_count {L : List S4} {D : List UInt8} (hL : L.Nodup) (hD : D.Nodup) (hm : ∀ x, x ∈ L ↔ ∃ d ∈ D, x = single d) : L.length = D.length := by
  have h1 := @nodup_le S4 (fun a b => Classical.propDecidable (a = b)) L (D.map single) hL (fun x hx => by obtain ⟨d, hd, e⟩ := (hm x).1 hx; exact List.mem_map.2 ⟨d, hd, e.symm⟩)
  have h2 := @nodup_le S4 (fun a b => Classical.propDecidable (a = b)) (D.map single) L (single_nodup hD) (fun x hx => by obtain ⟨d, hd, e⟩ := List.mem_map.1 hx; exact (hm x).2 ⟨d, hd, e.symm⟩)
  simp only [List.length_map] at h1 h2
  omega

theorem Words.kept {w w' : World} {ao : Option Addr} {ws : List ByteArray} (h : Words w ao ws) (hk : Kept (fun _ => False) w w') : Words w' ao ws := by
  intro i hi
  obtain ⟨b, off, e, hc⟩ := h i hi
  exact ⟨b, off, e, by rw [hk.cell (p := ⟨b, off + i, none⟩) (block_lt_of_cell hc) (fun h => h)]; exact hc⟩

/-- The bytes that have been seen. -/
def SeenAt (w wq : World) (gq : Nat) (D pre : List UInt8) : Prop :=
  Kept (fun _ => False) w wq ∧ w.heap.size ≤ gq ∧ wq.heap[gq]? = some (.cells (bcells fun i => decide (∃ d ∈ D, d.toNat = i)) 47 (0, 0)) ∧ D.Nodup ∧ ∀ c, c ∈ D ↔ c ∈ pre

theorem SeenAt.old {w wq : World} {gq : Nat} {D pre : List UInt8} (h : SeenAt w wq gq D pre) {c : UInt8} (hc : c ∈ D) : SeenAt w wq gq D (pre ++ [c]) := by
  obtain ⟨h1, h2, h3, h4, h5⟩ := h
  refine ⟨h1, h2, h3, h4, fun x => ?_⟩
  rw [h5 x, List.mem_append]
  constructor
  · exact .inl
  · rintro (h | h)
    · exact h
    · simp at h; subst h; exact (h5 _).1 hc
theorem SeenAt.add {w wq : World} {gq : Nat} {D pre : List UInt8} (h : SeenAt w wq gq D pre) {c : UInt8} (hc : ¬ c ∈ D) : SeenAt w (wq.setCell ⟨gq, c.toNat, none⟩ (.bool true)) gq (D ++ [c]) (pre ++ [c]) := by
  obtain ⟨h1, h2, h3, h4, h5⟩ := h
  have hlt : c.toNat < 256 := UInt8.toNat_lt c
  refine ⟨h1.setCell (fun h => by simp at h; omega) _, h2, ?_, ?_, fun x => ?_⟩
  · rw [bcells_put h3 hlt]
    congr 3
    funext k
    by_cases e : k = c.toNat
    · rw [if_pos e]
      exact (decide_eq_true ⟨c, by simp, e.symm⟩).symm
    · rw [if_neg e]
      congr 1
      apply propext
      constructor
      · rintro ⟨d, hd, hk⟩; exact ⟨d, by simp [hd], hk⟩
      · rintro ⟨d, hd, hk⟩
        rcases List.mem_append.1 hd with hd | hd
        · exact ⟨d, hd, hk⟩
        · simp at hd; subst hd; exact (e hk.symm).elim
  · rw [List.nodup_append]
    refine ⟨h4, by simp, ?_⟩
    intro a ha b hb e
    simp at hb
    subst hb e
    exact hc ha
  · rw [List.mem_append, List.mem_append, h5 x]
theorem SeenAt.look {w wq : World} {gq : Nat} {D pre : List UInt8} (h : SeenAt w wq gq D pre) (c : UInt8) : wq.cell? ⟨gq, c.toNat, none⟩ = some (.bool (decide (c ∈ D))) := by
  rw [bcells_cell h.2.2.1 (UInt8.toNat_lt c)]
  congr 3
  apply propext
  constructor
  · rintro ⟨d, hd, e⟩; rw [← UInt8.toNat.inj e]; exact hd
  · intro hd; exact ⟨c, hd, rfl⟩
theorem SeenAt.free {w wq : World} {gq : Nat} {D pre : List UInt8} (h : SeenAt w wq gq D pre) (i : Nat) : wq.frozen? ⟨gq, i, none⟩ = false := free_of_heap h.2.2.1

/-- All bytes of the words. -/
def allBytes (ws : List ByteArray) : List UInt8 := ws.flatMap fun s => s.data.toList

set_option maxHeartbeats 4000000 in
set_option maxRecDepth 100000 in
theorem kp5 (w0 w wE : World) (p mm N cap copies : Nat) (ao : Option Addr) (ws : List ByteArray) (st : St) (hm : ws.length ≤ 65536) (hN : N ≤ 4194304) (hcp : copies ≤ 4194304) (HK0 : Hid (Kept (fun _ => False) w0 w)) (HE : Hid (EmSt p mm wE none none w st)) (HNL : Hid (st.L.length = N))
    (HW : Hid (Words w ao ws)) (HSZ : Hid (∀ s ∈ ws, s.size ≤ 1048576)) (HM : Hid (∀ x, x ∈ st.L ↔ 0 < copies ∧ ∃ c ∈ allBytes ws, x = single c)) (u1 u2 u3 u4 u5 u6 u7 u8 u11 u12 u13 u14 u15 u17 u18 u19 u20 u21 u22 u24 u25 u26 u27 u28 u29 u30 u31 u32 u33 u34 u35 u36 u37 u38 u39 u40 u41 u42 u43 u44 u45 u46 u47 u48 u49 u50 u51 u52 u53 u54 u55 u56 u57 u58 u59 u60 u61 u62 u63 u64 u65 u66 u67 u68 u69 u70 u71 u72 u73 u74 u75 u76 u77 u78 u79 u80 u81 u82 u83 u84 u85 u86 u87 u88 u89 u90 u91 u92 u93 u94 u95 u96 u97 u98 u99 u100 u101 u102 u103 u104 u105 u106 u107 u108 u109 u110 u111 u112 u113 u114 u115 u116 u117 u118 u119 u120 u121 u122 u123 u124 u125 u126 u127 u128 u129 u130 u131 u132 u133 u134 u135 u136 u137 u138 u139 u140 u141 u142 u143 u144 u145 u146 u147 u148 u149 u150 u151 u152 u153 u154 u155 u156 u157 u158 u159 u160 u161 u162 u163 u164 u165 u166 u167 u168 u169 u170 u171 u172 u173 u174 u175 u176 u177 u178 u179 u180 u181 u182 u183 u184 u185 u186 u187 u188 u189 u190 u191 u192 u193 u194 u195 u196 u197 u198 u199 u200 u201 u202 u203 u204 u205 u206 u207 u208 u209 u210 u211 u212 u213 u214 u215 u216 u217 u218 u219 u220 u221 u222 u223 u224 u225 u226 u227 u228 u229 u230 u231 u232 u233 u234 u235 u236 u237 u238 u239 u240 u241 u242 u243 u244 u245 u246 u247 u248 u249 u250 u251 u252 u253 u254 u255 u256 u257 u258 u259 u260 u261 u262 u263 u264 u265 u266 u267 u268 u269 u270 u271 u272 u273 u274 u275 u276 u277 u278 u279 u280 u281 u282 u283 u284 u285 u286 u287 u288 u289 u290 u291 u292 u293 u294 u295 u296 u297 u298 u299 u300 u301 u302 u303 u304 u305 u306 u307 u308 u309 u310 u311 u312 u313 u314 u315 u316 u317 u318 u319 u320 u321 u322 u323 u324 u325 u326 u327 u328 u329 u330 u331 u332 u333 u334 u335 u336 : Value) : Code.wp Try.prog ((Try.f7.body.map (dropSeq 33)).getD .skip) (bodyPost Try.prog Try.f7 fun e w' => e = .returned (.bool true) ∧ Below w0.heap.size w0 w') ⟨#[.slice ao ws.length cap, u1, u2, u3, u4, u5, u6, u7, u8, .int .i64 ws.length, .int .i64 copies, u11, u12, u13, u14, u15, .pointer (some ⟨p, 0, none⟩), u17, u18, u19, u20, u21, u22, .int .i64 N, u24, u25, u26, u27, u28, u29, u30, u31, u32, u33, u34, u35, u36, u37, u38, u39, u40, u41, u42, u43, u44, u45, u46, u47, u48, u49, u50, u51, u52, u53, u54, u55, u56, u57, u58, u59, u60, u61, u62, u63, u64, u65, u66, u67, u68, u69, u70, u71, u72, u73, u74, u75, u76, u77, u78, u79, u80, u81, u82, u83, u84, u85, u86, u87, u88, u89, u90, u91, u92, u93, u94, u95, u96, u97, u98, u99, u100, u101, u102, u103, u104, u105, u106, u107, u108, u109, u110, u111, u112, u113, u114, u115, u116, u117, u118, u119, u120, u121, u122, u123, u124, u125, u126, u127, u128, u129, u130, u131, u132, u133, u134, u135, u136, u137, u138, u139, u140, u141, u142, u143, u144, u145, u146, u147, u148, u149, u150, u151, u152, u153, u154, u155, u156, u157, u158, u159, u160, u161, u162, u163, u164, u165, u166, u167, u168, u169, u170, u171, u172, u173, u174, u175, u176, u177, u178, u179, u180, u181, u182, u183, u184, u185, u186, u187, u188, u189, u190, u191, u192, u193, u194, u195, u196, u197, u198, u199, u200, u201, u202, u203, u204, u205, u206, u207, u208, u209, u210, u211, u212, u213, u214, u215, u216, u217, u218, u219, u220, u221, u222, u223, u224, u225, u226, u227, u228, u229, u230, u231, u232, u233, u234, u235, u236, u237, u238, u239, u240, u241, u242, u243, u244, u245, u246, u247, u248, u249, u250, u251, u252, u253, u254, u255, u256, u257, u258, u259, u260, u261, u262, u263, u264, u265, u266, u267, u268, u269, u270, u271, u272, u273, u274, u275, u276, u277, u278, u279, u280, u281, u282, u283, u284, u285, u286, u287, u288, u289, u290, u291, u292, u293, u294, u295, u296, u297, u298, u299, u300, u301, u302, u303, u304, u305, u306, u307, u308, u309, u310, u311, u312, u313, u314, u315, u316, u317, u318, u319, u320, u321, u322, u323, u324, u325, u326, u327, u328, u329, u330, u331, u332, u333, u334, u335, u336], []⟩ w := by
  conv => arg 2; whnf
  have hz := zero47
  have hzc : ∃ zc, zc = bcells (fun _ => false) := ⟨_, rfl⟩
  obtain ⟨zc, hzc⟩ := hzc
  rw [← hzc] at hz
  have HZ : Hid (zc = bcells (fun _ => false)) := hzc
  clear hzc
  go_upto_if 272 with fail
  have U0 : Hid (SeenAt w (w.alloc (.cells zc 47)) w.heap.size [] []) := by
    refine ⟨(Kept.refl _ w).alloc _, Nat.le_refl _, ?_, List.nodup_nil, fun c => Iff.rfl⟩
    rw [HZ.out]
    simpa using heap_alloc_new w (.cells (bcells fun _ => false) 47)
  clear hz
  obtain ⟨gq, hgq⟩ : ∃ gq, gq = w.heap.size := ⟨_, rfl⟩
  rw [← hgq] at U0 ⊢
  clear hgq
  generalize w.alloc (.cells zc 47) = w1 at *
  clear HZ
  obtain ⟨pre, hpre⟩ : ∃ pre, pre = if 0 < copies then allBytes ws else [] := ⟨_, rfl⟩
  have HP : Hid (pre = if 0 < copies then allBytes ws else []) := hpre
  clear hpre
  go_cut [32] (fun v wq => ∃ D : List UInt8, v = .int .i64 D.length ∧ Hid (SeenAt w wq gq D pre))
  case first =>
    by_cases hc0 : 0 < copies
    · go_wp2_with fail
      go_loopw [32, 33] (fun v i wq => ∃ (k : Nat) (D : List UInt8), k ≤ ws.length ∧ i = .int .i64 k ∧ v = .int .i64 D.length ∧ Hid (SeenAt w wq gq D (allBytes (ws.take k)))) (fun _ i _ => ws.length - (intOf i).toNat)
      case atStart => exact ⟨0, [], Nat.zero_le _, rfl, rfl, U0⟩
      case round =>
        obtain ⟨k, D, hk, rfl, rfl, HS⟩ := hrel
        by_cases hlt : k < ws.length
        · obtain ⟨b, off, hao, hc⟩ := (HW.out.kept HS.out.1) k hlt
          subst hao
          have HX : Hid (allBytes (ws.take (k + 1)) = allBytes (ws.take k) ++ (ws[k]'hlt).data.toList) := by
            rw [Hid, List.take_succ_eq_append_getElem hlt]
            unfold allBytes
            rw [List.flatMap_append, List.flatMap_singleton]
          have hsz := HSZ.out (ws[k]'hlt) (List.getElem_mem hlt)
          generalize ws[k]'hlt = s at *
          have hsd : s.data.toList.length = s.size := by simp
          have HSD : Hid (s.data.toList.length = s.size) := hsd
          clear hsd
          have HS0 : Hid (SeenAt w wr gq D (allBytes (ws.take k) ++ s.data.toList.take 0)) := by simpa using HS
          clear HS
          go_wp2_with fail
          go_loopw [32, 35] (fun v i wq => ∃ (j : Nat) (D : List UInt8), j ≤ s.size ∧ i = .int .i64 j ∧ v = .int .i64 D.length ∧ Hid (SeenAt w wq gq D (allBytes (ws.take k) ++ s.data.toList.take j))) (fun _ i _ => s.size - (intOf i).toNat)
          case atStart => exact ⟨0, D, Nat.zero_le _, rfl, rfl, HS0⟩
          case round =>
            obtain ⟨j, D, hj, rfl, rfl, HS⟩ := hrel
            clear HS0
            by_cases hjl : j < s.size
            · have HY : Hid (allBytes (ws.take k) ++ s.data.toList.take (j + 1) = (allBytes (ws.take k) ++ s.data.toList.take j) ++ [s[j]'hjl]) := by
                rw [Hid, List.take_add_one, List.getElem?_eq_getElem (by rw [HSD.out]; exact hjl)]
                simp
                rfl
              have q1 := HS.out.look (s[j]'hjl)
              have q2 := HS.out.free (s[j]'hjl).toNat
              have hD := nodup_256 D HS.out.2.2.2.1
              have h256 : (s[j]'hjl).toNat < 256 := UInt8.toNat_lt _
              by_cases hin : s[j]'hjl ∈ D
              · have HS2 : Hid (SeenAt w wr gq D (allBytes (ws.take k) ++ s.data.toList.take (j + 1))) := by rw [Hid, HY.out]; exact HS.out.old hin
                rw [decide_eq_true hin] at q1
                clear HS hin HY
                go_wp2_with fail
                go_roundw
                case rel => exact ⟨j + 1, D, by omega, by go_num, rfl, HS2⟩
                case measure => simp [intOf]; omega
              · have HS2 : Hid (SeenAt w (wr.setCell ⟨gq, (s[j]'hjl).toNat, none⟩ (.bool true)) gq (D ++ [s[j]'hjl]) (allBytes (ws.take k) ++ s.data.toList.take (j + 1))) := by rw [Hid, HY.out]; exact HS.out.add hin
                rw [decide_eq_false hin] at q1
                have HDL : Hid ((D ++ [s[j]'hjl]).length = D.length + 1) := by simp [Hid]
                clear HS hin HY
                go_wp2_with fail
                go_roundw
                case rel => exact ⟨j + 1, D ++ [s[j]'hjl], by omega, by go_num, by rw [HDL.out]; go_num, HS2⟩
                case measure => simp [intOf]; omega
            · have hje : j = s.size := by omega
              subst hje
              have HS2 : Hid (SeenAt w wr gq D (allBytes (ws.take (k + 1)))) := by
                have := HS.out
                rw [← HSD.out, List.take_length] at this
                rw [Hid, HX.out]
                exact this
              clear HS
              go_wp2_with fail
              go_roundw
              case rel => exact ⟨k + 1, D, by omega, by go_num, rfl, HS2⟩
              case measure => simp [intOf]; omega
        · have hke : k = ws.length := by omega
          subst hke
          have HS2 : Hid (SeenAt w wr gq D (allBytes ws)) := by
            have := HS.out
            rw [List.take_length] at this
            exact this
          clear HS
          go_wp2_with fail
          go_meet
          case rel => exact ⟨D, rfl, by rw [HP.out, if_pos hc0]; exact HS2⟩
    · go_wp2_with fail
      go_meet
      case rel => exact ⟨[], rfl, by rw [HP.out, if_neg hc0]; exact U0⟩
  case rest =>
    obtain ⟨D, rfl, HS⟩ := hcut
    obtain ⟨ai, ci, asx, cs, E, T⟩ := HE.out
    have hmD : ∀ x, x ∈ st.L ↔ ∃ d ∈ D, x = single d := by
      intro x
      rw [HM.out x]
      constructor
      · rintro ⟨h1, c, h2, h3⟩
        refine ⟨c, (HS.out.2.2.2.2 c).2 ?_, h3⟩
        rw [HP.out, if_pos h1]; exact h2
      · rintro ⟨c, h2, h3⟩
        have := (HS.out.2.2.2.2 c).1 h2
        rw [HP.out] at this
        by_cases h1 : 0 < copies
        · rw [if_pos h1] at this; exact ⟨h1, c, this, h3⟩
        · rw [if_neg h1] at this; cases this
    have hlen : D.length = N := by rw [← HNL.out]; exact (sets_count E.nd HS.out.2.2.2.1 hmD).symm
    rw [hlen]
    apply ‹∀ (a : Act) (w : World), Code.wp Try.prog _ _ a w → _›
    exact kp6 w0 wc wE p mm gq N st D hN (HK0.out.trans HS.out.1 (fun _ _ h => h)) (HE.out.still HS.out.1) HNL (fun x hx => (hmD x).1 hx) HS.out.2.2.1 _ _ _ _ _ _ _ _ _ _ _ _ _ _ _ _ _ _ _ _ _ _ _ _ _ _ _ _ _ _ _ _ _ _ _ _ _ _ _ _ _ _ _ _ _ _ _ _ _ _ _ _ _ _ _ _ _ _ _ _ _ _ _ _ _ _ _ _ _ _ _ _ _ _ _ _ _ _ _ _ _ _ _ _ _ _ _ _ _ _ _ _ _ _ _ _ _ _ _ _ _ _ _ _ _ _ _ _ _ _ _ _ _ _ _ _ _ _ _ _ _ _ _ _ _ _ _ _ _ _ _ _ _ _ _ _ _ _ _ _ _ _ _ _ _ _ _ _ _ _ _ _ _ _ _ _ _ _ _ _ _ _ _ _ _ _ _ _ _ _ _ _ _ _ _ _ _ _ _ _ _ _ _ _ _ _ _ _ _ _ _ _ _ _ _ _ _ _ _ _ _ _ _ _ _ _ _ _ _ _ _ _ _ _ _ _ _ _ _ _ _ _ _ _ _ _ _ _ _ _ _ _ _ _ _ _ _ _ _ _ _ _ _ _ _ _ _ _ _ _ _ _ _ _ _ _ _ _ _ _ _ _ _ _ _ _ _ _ _ _ _ _ _ _ _ _ _ _ _ _ _ _ _ _ _ _ _ _ _ _ _ _ _ _ _ _ _ _ _ _ _ _ _ _ _ _ _ _ _ _ _ _ _ _ _ _ _ _ _ _ _ _ _ _ _ _ _ _ _ _ _ _ _
end Go.Proofs.Qxb6000456a
