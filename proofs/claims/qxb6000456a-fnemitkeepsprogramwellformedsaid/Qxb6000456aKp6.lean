import Derived.Test.Qxb6000456aKpFn
namespace Go.Proofs.Qxb6000456a
open Go.RowKit
set_option linter.unusedVariables false
set_option linter.unusedSimpArgs false

def dropSeq : Nat → Code → Code
  | 0, c => c
  | n + 1, .seq _ b => dropSeq n b
  | _ + 1, c => c

/-! ### an array of 256 bools -/
def bcells (f : Nat → Bool) : Array Value := ((List.range 256).map fun i => Value.bool (f i)).toArray
set_option maxRecDepth 100000 in
theorem zero47 (w : World) : (zeroValue 47).run Try.prog w = .ok (.agg (bcells fun _ => false)) w := by kernel_rfl
theorem bcells_get (f : Nat → Bool) {i : Nat} (h : i < 256) : (bcells f)[i]? = some (.bool (f i)) := by simp [bcells, h]
theorem bcells_cell {w : World} {g : Nat} {f : Nat → Bool} (h : w.heap[g]? = some (.cells (bcells f) 47 (0, 0))) {i : Nat} (hi : i < 256) : w.cell? ⟨g, i, none⟩ = some (.bool (f i)) := by
  rw [cell_of_heap h, bcells_get f hi]
theorem bcells_put {w : World} {g : Nat} {f : Nat → Bool} (h : w.heap[g]? = some (.cells (bcells f) 47 (0, 0))) {i : Nat} (hi : i < 256) : (w.setCell ⟨g, i, none⟩ (.bool true)).heap[g]? = some (.cells (bcells fun k => if k = i then true else f k) 47 (0, 0)) := by
  rw [heap_setCell h]
  congr 2
  apply Array.ext_getElem?
  intro j
  rw [Array.getElem?_setIfInBounds]
  by_cases hij : i = j
  · subst hij
    rw [if_pos rfl, if_pos (by simp [bcells]; omega), bcells_get _ hi]; simp
  · rw [if_neg hij]
    by_cases hj : j < 256
    · rw [bcells_get f hj, bcells_get _ hj, if_neg (fun e => hij e.symm)]
    · rw [Array.getElem?_eq_none (by simp [bcells]; omega), Array.getElem?_eq_none (by simp [bcells]; omega)]

theorem nodup_at {L : List S4} (h : L.Nodup) {i j : Nat} {x : S4} (hi : L[i]? = some x) (hj : L[j]? = some x) : i = j := by
  obtain ⟨a, ha⟩ := List.getElem?_eq_some_iff.1 hi
  obtain ⟨b, hb⟩ := List.getElem?_eq_some_iff.1 hj
  have hp := List.pairwise_iff_getElem.1 h
  rcases Nat.lt_trichotomy i j with hlt | heq | hgt
  · exact (hp i j a b hlt (ha.trans hb.symm)).elim
  · exact heq
  · exact (hp j i b a hgt (hb.trans ha.symm)).elim

theorem inB_single (d : UInt8) (c : Nat) (hc : c < 256) : inB ((single d).word (c / 64)) c = decide (d.toNat = c) := by
  have h := single_has d (UInt8.ofNat c)
  have e : (UInt8.ofNat c).toNat = c := by simp; omega
  unfold S4.has at h
  rw [e] at h
  by_cases hd : d.toNat = c
  · rw [decide_eq_true hd]
    exact h.2 (by rw [← hd]; simp)
  · rw [decide_eq_false hd]
    cases hb : inB ((single d).word (c / 64)) c with
    | false => rfl
    | true => exact (hd (by rw [h.1 hb, e])).elim

/-- The sets that have been looked at. -/
def UsedAt (w wq : World) (gu : Nat) (L : List S4) (j : Nat) : Prop :=
  Kept (fun _ => False) w wq ∧ w.heap.size ≤ gu ∧ ∃ f, wq.heap[gu]? = some (.cells (bcells f) 47 (0, 0)) ∧ ∀ i, f i = true → ∃ j' d, j' < j ∧ L[j']? = some (single d) ∧ d.toNat = i
theorem UsedAt.still {w wq wz : World} {gu : Nat} {L : List S4} {j : Nat} (h : UsedAt w wq gu L j) (hk : Kept (fun _ => False) wq wz) : UsedAt w wz gu L j := by
  obtain ⟨k1, k2, f, k3, k4⟩ := h
  exact ⟨k1.trans hk (fun _ _ h => h), k2, f, hk.heap k3 (fun h => h), k4⟩

set_option maxHeartbeats 4000000 in
set_option maxRecDepth 100000 in
theorem kp6 (w0 w wE : World) (p mm gq N : Nat) (st : St) (D : List UInt8) (hN : N ≤ 4194304) (HK0 : Hid (Kept (fun _ => False) w0 w)) (HE : Hid (EmSt p mm wE none none w st)) (HNL : Hid (st.L.length = N))
    (HL : Hid (∀ x ∈ st.L, ∃ d : UInt8, d ∈ D ∧ x = single d)) (HQ : Hid (w.heap[gq]? = some (.cells (bcells fun i => decide (∃ d ∈ D, d.toNat = i)) 47 (0, 0)))) (u0 u1 u2 u3 u4 u5 u6 u7 u8 u9 u10 u11 u12 u13 u14 u15 u17 u18 u19 u20 u21 u22 u24 u25 u26 u27 u28 u29 u30 u33 u34 u35 u36 u37 u38 u39 u40 u41 u42 u43 u44 u45 u46 u47 u48 u49 u50 u51 u52 u53 u54 u55 u56 u57 u58 u59 u60 u61 u62 u63 u64 u65 u66 u67 u68 u69 u70 u71 u72 u73 u74 u75 u76 u77 u78 u79 u80 u81 u82 u83 u84 u85 u86 u87 u88 u89 u90 u91 u92 u93 u94 u95 u96 u97 u98 u99 u100 u101 u102 u103 u104 u105 u106 u107 u108 u109 u110 u111 u112 u113 u114 u115 u116 u117 u118 u119 u120 u121 u122 u123 u124 u125 u126 u127 u128 u129 u130 u131 u132 u133 u134 u135 u136 u137 u138 u139 u140 u141 u142 u143 u144 u145 u146 u147 u148 u149 u150 u151 u152 u153 u154 u155 u156 u157 u158 u159 u160 u161 u162 u163 u164 u165 u166 u167 u168 u169 u170 u171 u172 u173 u174 u175 u176 u177 u178 u179 u180 u181 u182 u183 u184 u185 u186 u187 u188 u189 u190 u191 u192 u193 u194 u195 u196 u197 u198 u199 u200 u201 u202 u203 u204 u205 u206 u207 u208 u209 u210 u211 u212 u213 u214 u215 u216 u217 u218 u219 u220 u221 u222 u223 u224 u225 u226 u227 u228 u229 u230 u231 u232 u233 u234 u235 u236 u237 u238 u239 u240 u241 u242 u243 u244 u245 u246 u247 u248 u249 u250 u251 u252 u253 u254 u255 u256 u257 u258 u259 u260 u261 u262 u263 u264 u265 u266 u267 u268 u269 u270 u271 u272 u273 u274 u275 u276 u277 u278 u279 u280 u281 u282 u283 u284 u285 u286 u287 u288 u289 u290 u291 u292 u293 u294 u295 u296 u297 u298 u299 u300 u301 u302 u303 u304 u305 u306 u307 u308 u309 u310 u311 u312 u313 u314 u315 u316 u317 u318 u319 u320 u321 u322 u323 u324 u325 u326 u327 u328 u329 u330 u331 u332 u333 u334 u335 u336 : Value) : Code.wp Try.prog ((Try.f7.body.map (dropSeq 36)).getD .skip) (bodyPost Try.prog Try.f7 fun e w' => e = .returned (.bool true) ∧ Below w0.heap.size w0 w') ⟨#[u0, u1, u2, u3, u4, u5, u6, u7, u8, u9, u10, u11, u12, u13, u14, u15, .pointer (some ⟨p, 0, none⟩), u17, u18, u19, u20, u21, u22, .int .i64 N, u24, u25, u26, u27, u28, u29, u30, .pointer (some ⟨gq, 0, none⟩), .int .i64 N, u33, u34, u35, u36, u37, u38, u39, u40, u41, u42, u43, u44, u45, u46, u47, u48, u49, u50, u51, u52, u53, u54, u55, u56, u57, u58, u59, u60, u61, u62, u63, u64, u65, u66, u67, u68, u69, u70, u71, u72, u73, u74, u75, u76, u77, u78, u79, u80, u81, u82, u83, u84, u85, u86, u87, u88, u89, u90, u91, u92, u93, u94, u95, u96, u97, u98, u99, u100, u101, u102, u103, u104, u105, u106, u107, u108, u109, u110, u111, u112, u113, u114, u115, u116, u117, u118, u119, u120, u121, u122, u123, u124, u125, u126, u127, u128, u129, u130, u131, u132, u133, u134, u135, u136, u137, u138, u139, u140, u141, u142, u143, u144, u145, u146, u147, u148, u149, u150, u151, u152, u153, u154, u155, u156, u157, u158, u159, u160, u161, u162, u163, u164, u165, u166, u167, u168, u169, u170, u171, u172, u173, u174, u175, u176, u177, u178, u179, u180, u181, u182, u183, u184, u185, u186, u187, u188, u189, u190, u191, u192, u193, u194, u195, u196, u197, u198, u199, u200, u201, u202, u203, u204, u205, u206, u207, u208, u209, u210, u211, u212, u213, u214, u215, u216, u217, u218, u219, u220, u221, u222, u223, u224, u225, u226, u227, u228, u229, u230, u231, u232, u233, u234, u235, u236, u237, u238, u239, u240, u241, u242, u243, u244, u245, u246, u247, u248, u249, u250, u251, u252, u253, u254, u255, u256, u257, u258, u259, u260, u261, u262, u263, u264, u265, u266, u267, u268, u269, u270, u271, u272, u273, u274, u275, u276, u277, u278, u279, u280, u281, u282, u283, u284, u285, u286, u287, u288, u289, u290, u291, u292, u293, u294, u295, u296, u297, u298, u299, u300, u301, u302, u303, u304, u305, u306, u307, u308, u309, u310, u311, u312, u313, u314, u315, u316, u317, u318, u319, u320, u321, u322, u323, u324, u325, u326, u327, u328, u329, u330, u331, u332, u333, u334, u335, u336], []⟩ w := by
  conv => arg 2; whnf
  have hz := zero47
  have hzc : ∃ zc, zc = bcells (fun _ => false) := ⟨_, rfl⟩
  obtain ⟨zc, hzc⟩ := hzc
  rw [← hzc] at hz
  have HZ : Hid (zc = bcells (fun _ => false)) := hzc
  clear hzc
  go_upto_region 96 with fail
  have U0 : Hid (UsedAt w (w.alloc (.cells zc 47)) w.heap.size st.L 0) := by
    refine ⟨(Kept.refl _ w).alloc _, Nat.le_refl _, fun _ => false, ?_, fun i h => by cases h⟩
    rw [HZ.out]
    exact heap_alloc_new w _
  clear hz
  obtain ⟨gu, hgu⟩ : ∃ gu, gu = w.heap.size := ⟨_, rfl⟩
  rw [← hgu] at U0 ⊢
  clear hgu
  generalize w.alloc (.cells zc 47) = w1 at *
  clear HZ
  go_wp2_with fail
  go_loopw [37] (fun i wq => ∃ j : Nat, j ≤ N ∧ i = .int .i64 j ∧ Hid (UsedAt w wq gu st.L j)) (fun i _ => N - (intOf i).toNat)
  case atStart => exact ⟨0, Nat.zero_le _, rfl, U0⟩
  case round =>
    obtain ⟨j, hj, rfl, HU⟩ := hrel
    by_cases hlt : j < N
    · obtain ⟨x, hx⟩ : ∃ x, st.L[j]? = some x := ⟨_, List.getElem?_eq_getElem (by rw [HNL.out]; exact hlt)⟩
      obtain ⟨d, hd, hxd⟩ := HL.out x (List.mem_of_getElem? hx)
      have hd256 : d.toNat < 256 := UInt8.toNat_lt d
      have HX : Hid (st.L[j]? = some x) := hx
      have HXD : Hid (x = single d) := hxd
      obtain ⟨ai, ci, asx, cs, E, T⟩ := (HE.out.still HU.out.1)
      have hnd : Hid (st.L.Nodup) := E.nd
      obtain ⟨gs, rfl⟩ : ∃ gs, asx = some ⟨gs, 0, none⟩ := by
        rcases E.rowS.2 with ⟨_, h0⟩ | ⟨g, c, cur, hv, _⟩
        · rw [HNL.out] at h0; omega
        · simp at hv; exact ⟨g, hv.1⟩
      have c1 := E.cell1
      rw [HNL.out] at c1
      have sw : ∀ q, q < 4 → wr.cell? ⟨gs, j * 4 + q, none⟩ = some (.int .u64 (x.word q)) := by
        intro q hq
        rw [E.rowS.cellAt (j * 4 + q) (by have := HNL.out; omega)]
        rw [srow_get hx q hq]
        exact scells_word x q hq
      have HS : Hid (Calls Try.prog 27 #[.pointer (some ⟨p, 0, none⟩), .int .i64 j] wr fun e w' => e = .returned (.agg #[.int .u64 x.a, .int .u64 x.b, .int .u64 x.c, .int .u64 x.d]) ∧ Kept (fun _ => False) wr w') :=
        setAt_any p gs N cs j x wr c1 hlt (sw 0 (by omega)) (sw 1 (by omega)) (sw 2 (by omega)) (sw 3 (by omega))
      clear E T c1 sw hx hxd
      go_wp2_with fail
      refine (Calls.mono HS.out ?_)
      rintro e w2 ⟨rfl, K2⟩
      have HK2 : Hid (Kept (fun _ => False) wr w2) := K2
      clear K2 HS
      go_upto_region 100 with fail
      have X3 : Hid ((w2.alloc (.cells #[.int .u64 x.a, .int .u64 x.b, .int .u64 x.c, .int .u64 x.d] 32)).heap[w2.heap.size]? = some (.cells (boxCells x) 32 (0, 0))) := heap_alloc_new w2 _
      have HK3 : Hid (Kept (fun _ => False) wr (w2.alloc (.cells #[.int .u64 x.a, .int .u64 x.b, .int .u64 x.c, .int .u64 x.d] 32))) := HK2.out.alloc _
      obtain ⟨gb, hgb⟩ : ∃ gb, gb = w2.heap.size := ⟨_, rfl⟩
      rw [← hgb] at X3 ⊢
      clear hgb HK2
      have HU3 := HU.out.still HK3.out
      clear HU HK3
      generalize w2.alloc (.cells #[.int .u64 x.a, .int .u64 x.b, .int .u64 x.c, .int .u64 x.d] 32) = w3 at *
      have HU3' : Hid (UsedAt w w3 gu st.L j) := HU3
      clear HU3
      go_wp2_with fail
      go_loopw [39, 40, 41] (fun b t i wq => ∃ c : Nat, c ≤ 256 ∧ i = .int .i64 c ∧ b = .int .i64 (if d.toNat < c then 1 else 0) ∧ t = .int .i64 (if d.toNat < c then (d.toNat : Int) else 0) ∧ Hid (Kept (fun _ => False) w3 wq)) (fun _ _ i _ => 256 - (intOf i).toNat)
      case atStart => exact ⟨0, by omega, rfl, by simp, by simp, Kept.refl _ _⟩
      case round =>
        obtain ⟨c, hc, rfl, rfl, rfl, HK4⟩ := hrel
        obtain ⟨x0, x1, x2, x3⟩ := box_cells (HK4.out.heap X3.out (fun h => h))
        by_cases hlc : c < 256
        · have HB : Hid (inB (x.word (c / 64)) c = decide (d.toNat = c)) := by rw [Hid, HXD.out]; exact inB_single d c hlc
          by_cases hdc : d.toNat = c
          · have hn : ¬ d.toNat < c := by omega
            have hn2 : d.toNat < c + 1 := by omega
            rw [if_neg hn, if_neg hn]
            have HA : Hid (Calls Try.prog 21 #[.agg #[.int .u64 x.a, .int .u64 x.b, .int .u64 x.c, .int .u64 x.d], .int .u8 c] wr fun e w' => e = .returned (.bool true) ∧ Kept (fun _ => False) wr w') := by
              refine (inSet_kept x c hlc wr).mono ?_
              rintro e w' ⟨rfl, k⟩
              rw [HB.out, decide_eq_true hdc]
              exact ⟨rfl, k⟩
            clear HB hn
            have HDC : Hid (d.toNat = c) := hdc
            clear hdc
            go_wp2_with fail
            refine (Calls.mono HA.out ?_)
            rintro e w5 ⟨rfl, K5⟩
            have HK5 : Hid (Kept (fun _ => False) w3 w5) := HK4.out.trans K5 (fun _ _ h => h)
            clear K5 HA
            go_wp2_with fail
            go_roundw
            case rel => exact ⟨c + 1, by omega, by go_num, by rw [if_pos hn2], by rw [if_pos hn2, HDC.out], HK5⟩
            case measure => simp [intOf]; omega
          · have HA : Hid (Calls Try.prog 21 #[.agg #[.int .u64 x.a, .int .u64 x.b, .int .u64 x.c, .int .u64 x.d], .int .u8 c] wr fun e w' => e = .returned (.bool false) ∧ Kept (fun _ => False) wr w') := by
              refine (inSet_kept x c hlc wr).mono ?_
              rintro e w' ⟨rfl, k⟩
              rw [HB.out, decide_eq_false hdc]
              exact ⟨rfl, k⟩
            have hiff : (if d.toNat < c + 1 then (1 : Int) else 0) = (if d.toNat < c then 1 else 0) := by
              by_cases h : d.toNat < c
              · rw [if_pos h, if_pos (by omega)]
              · rw [if_neg h, if_neg (by omega)]
            have hiff2 : (if d.toNat < c + 1 then (d.toNat : Int) else 0) = (if d.toNat < c then (d.toNat : Int) else 0) := by
              by_cases h : d.toNat < c
              · rw [if_pos h, if_pos (by omega)]
              · rw [if_neg h, if_neg (by omega)]
            have H1 : Hid ((if d.toNat < c + 1 then (1 : Int) else 0) = (if d.toNat < c then 1 else 0)) := hiff
            have H2 : Hid ((if d.toNat < c + 1 then (d.toNat : Int) else 0) = (if d.toNat < c then (d.toNat : Int) else 0)) := hiff2
            clear HB hdc hiff hiff2
            generalize (if d.toNat < c then (1 : Int) else 0) = bb at *
            generalize (if d.toNat < c then (d.toNat : Int) else 0) = tt at *
            go_wp2_with fail
            refine (Calls.mono HA.out ?_)
            rintro e w5 ⟨rfl, K5⟩
            have HK5 : Hid (Kept (fun _ => False) w3 w5) := HK4.out.trans K5 (fun _ _ h => h)
            clear K5 HA
            go_wp2_with fail
            go_roundw
            case rel => exact ⟨c + 1, by omega, by go_num, by rw [H1.out], by rw [H2.out], HK5⟩
            case measure => simp [intOf]; omega
        · have hce : c = 256 := by omega
          subst hce
          rw [if_pos hd256, if_pos hd256]
          obtain ⟨k1, k2, f, k3, k4⟩ := HU3'.out.still HK4.out
          have hused : f d.toNat = false := by
            cases hf : f d.toNat with
            | false => rfl
            | true =>
              obtain ⟨j', d', h1, h2, h3⟩ := k4 _ hf
              have hdd : d' = d := UInt8.toNat.inj h3
              subst hdd
              have := nodup_at hnd.out (HXD.out ▸ HX.out) h2
              omega
          have q1 := bcells_cell (k1.heap HQ.out (fun h => h)) hd256
          have q2 := bcells_cell k3 hd256
          have q3 : wr.frozen? ⟨gu, d.toNat, none⟩ = false := free_of_heap k3
          have hin : decide (∃ d', d' ∈ D ∧ d'.toNat = d.toNat) = true := decide_eq_true ⟨d, hd, rfl⟩
          rw [hin] at q1
          rw [hused] at q2
          have HU5 : Hid (UsedAt w (wr.setCell ⟨gu, d.toNat, none⟩ (.bool true)) gu st.L (j + 1)) := by
            refine ⟨k1.setCell (fun h => by simp at h; omega) _, k2, _, bcells_put k3 hd256, ?_⟩
            intro i hi
            by_cases e : i = d.toNat
            · exact ⟨j, d, by omega, HXD.out ▸ HX.out, e.symm⟩
            · rw [if_neg e] at hi
              obtain ⟨j', d', h1, h2, h3⟩ := k4 i hi
              exact ⟨j', d', by omega, h2, h3⟩
          clear k1 k2 k3 k4 hin hused x0 x1 x2 x3
          generalize d.toNat = dn at *
          go_wp2_with fail
          go_roundw
          case rel => exact ⟨j + 1, by omega, by go_num, HU5⟩
          case measure => simp [intOf]; omega
    · have KF : Below w0.heap.size w0 wr := (HK0.out.trans HU.out.1 (fun _ _ h => h)).below (Nat.le_refl _) (fun _ _ h => h)
      go_wp2_with fail
      go_ret
      exact ⟨rfl, KF⟩
end Go.Proofs.Qxb6000456a
