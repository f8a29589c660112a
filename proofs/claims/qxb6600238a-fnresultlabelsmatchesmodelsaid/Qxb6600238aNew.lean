import Derived.Test.Qxb6600238aSsf
import Derived.Laws.CopyOwn
import Derived.BigQuiet
set_option linter.unusedVariables false
set_option linter.unusedSimpArgs false
set_option linter.unusedSectionVars false
namespace Go.Proofs.Qxb6600238a
open Go.Shelf Go.RowKit Go.Lib Go.Sort

/-- 'append' where there is room: in place. -/
theorem wpList_append_fit {P : Program} (w : World) {ops : Array Oper} {rest : List Oper} {o : Oper} {a : Act} {Q : Exit → Act → World → Prop} (hgd : o.guard = none) (s x : Operand) (t : TypeId)
    (ho : o.op = .call { callee := .builtin .append, args := #[s, x], argTypes := #[t, t] })
    (e : TypeId) (i : TypeInfo) (size : Nat) (ht : P.underlying t = some (.slice e)) (hi : P.info? e = some i) (hsize : i.size = size)
    (g n cap : Nat) (cur : Array Value) (hs : a.eval s = .slice (some ⟨g, 0, none⟩) n cap) (hg : w.heap[g]? = some (.cells cur e (0, 0)))
    (ad : Addr) (m c : Nat) (news : List Value) (hx : a.eval x = .slice (some ad) m c) (hl : news.length = m * size) (hnews : ∀ j u, news[j]? = some u → w.cell? (ad.add j) = some u) (h1 : ∀ u ∈ news, u.oneCell' = true)
    (hroom : n + m ≤ cap) (hfit : n * size + news.length ≤ cur.size)
    (h : wpList P ops Q rest (a.put o.dst (.slice (some ⟨g, 0, none⟩) (n + m) cap)) (w.setRow g (cur.toList.take (n * size) ++ news ++ cur.toList.drop (n * size + news.length)).toArray)) : wpList P ops Q (o :: rest) a w := by
  subst hsize
  refine wpList_plain hgd fun K hK => ?_
  have hr := run_append_room (P := P) w t o.type e i ht hi g n cap cur hg ad m c news hl hnews h1 hroom hfit
  unfold Oper.wp execOp
  simp only [ho, resolve, invoke, builtin, Sem.run_bind, Sem.run_pure, Result.andThen_ok, List.map_toArray, List.map_cons, List.map_nil, hs, hx, hr]
  exact hK _ _ h

theorem baInj {a b : ByteArray} (h : a.toList = b.toList) : a = b := by
  rw [ByteArray.toList_eq, ByteArray.toList_eq] at h
  cases a; cases b; simp at h; simp [h]

theorem baNil : ByteArray.empty.toList = [] := by rw [ByteArray.toList_eq]; rfl
/-- What round i keeps. -/
def kstep (S : List Lbl) (i : Nat) : List Lbl :=
  if i + 1 < S.length ∧ (S.getD (i + 1) lblD).1 = (S.getD i lblD).1 then [] else if (S.getD i lblD).2 = ByteArray.empty then [] else [S.getD i lblD]
def keepTo (S : List Lbl) : Nat → List Lbl
  | 0 => []
  | i + 1 => keepTo S i ++ kstep S i
theorem kstep_len (S : List Lbl) (i : Nat) : (kstep S i).length ≤ 1 := by
  unfold kstep; split
  · simp
  · split <;> simp
theorem keepTo_len (S : List Lbl) : ∀ i, (keepTo S i).length ≤ i
  | 0 => Nat.le_refl _
  | i + 1 => by rw [keepTo, List.length_append]; have := keepTo_len S i; have := kstep_len S i; omega

/-- Where the loop of New stands. -/
def NewRel (B : Nat) (w0 wq : World) (g cap : Nat) (S : List Lbl) (i : Nat) : Prop :=
  Below B w0 wq ∧ B ≤ g ∧ ∃ cur, wq.heap[g]? = some (.cells cur 41 (0, 0)) ∧ cap ≤ maxLen ∧ cur.size = cap * 2 ∧ S.length ≤ cap ∧ cur.toList.take ((keepTo S i).length * 2) = lcells (keepTo S i) ∧
    ∀ t, i ≤ t → t < S.length → cur.toList[t * 2]? = some (.string (S.getD t lblD).1) ∧ cur.toList[t * 2 + 1]? = some (.string (S.getD t lblD).2)

theorem getD_eq (S : List Lbl) (t : Nat) (h : t < S.length) : S.getD t lblD = S[t] := by simp [List.getD, h]

theorem NewRel.start {B : Nat} {w0 w : World} {g n cap : Nat} {S : List Lbl} (h : OwnL B w g n cap S) (hb : Below B w0 w) : NewRel B w0 w g cap S 0 := by
  obtain ⟨cur, h1, h2, h3, h4, h5, h6, h7⟩ := h.parts
  have hl := h.len
  refine ⟨hb, h1, cur, h3, h5, h6, by omega, by simp [keepTo, lcells_nil], fun t _ ht => ?_⟩
  have a := lcells_get S t ht
  rw [← h7, List.getElem?_take, if_pos (by omega), List.getElem?_take, if_pos (by omega)] at a
  rw [getD_eq S t ht]
  exact a
theorem NewRel.cell {B : Nat} {w0 w : World} {g cap : Nat} {S : List Lbl} {i : Nat} (h : NewRel B w0 w g cap S i) (t : Nat) (h1 : i ≤ t) (h2 : t < S.length) :
    w.cell? ⟨g, t * 2, none⟩ = some (.string (S.getD t lblD).1) ∧ w.cell? ⟨g, t * 2 + 1, none⟩ = some (.string (S.getD t lblD).2) := by
  obtain ⟨_, _, cur, hg, _, _, _, _, hc⟩ := h
  have := hc t h1 h2
  simp only [World.cell?, hg, Option.isSome_none, Bool.false_eq_true, if_false]
  simpa using this
theorem NewRel.below {B : Nat} {w0 w w' : World} {g cap : Nat} {S : List Lbl} {i : Nat} (h : NewRel B w0 w g cap S i) (hb : Below w.heap.size w w') : NewRel B w0 w' g cap S i := by
  obtain ⟨h0, h1, cur, hg, h2, h3, h4, h5, hc⟩ := h
  have hlt : g < w.heap.size := by
    rcases Nat.lt_or_ge g w.heap.size with h' | h'
    · exact h'
    · rw [Array.getElem?_eq_none h'] at hg; cases hg
  exact ⟨h0.trans (hb.mono (by have := h0.size; omega)), h1, cur, by rw [hb.block g hlt]; exact hg, h2, h3, h4, h5, hc⟩

theorem below_drewN (B : Nat) (w : World) (n : Nat) : Below B w (w.drewN n) := ⟨rfl, rfl, rfl, Nat.le_refl _, fun _ _ => rfl⟩
theorem NewRel.skip {B : Nat} {w0 w : World} {g cap : Nat} {S : List Lbl} {i : Nat} (h : NewRel B w0 w g cap S i) (hk : keepTo S (i + 1) = keepTo S i) : NewRel B w0 w g cap S (i + 1) := by
  obtain ⟨r0, r1, cur, r2, r3, r4, r5, r6, r7⟩ := h
  exact ⟨r0, r1, cur, r2, r3, r4, r5, by rw [hk]; exact r6, fun t t1 t2 => r7 t (by omega) t2⟩
/-- The block's cells by name. -/
def NewCur (B : Nat) (w0 wq : World) (g cap : Nat) (S : List Lbl) (i : Nat) (cur : Array Value) : Prop :=
  Below B w0 wq ∧ B ≤ g ∧ wq.heap[g]? = some (.cells cur 41 (0, 0)) ∧ cap ≤ maxLen ∧ cur.size = cap * 2 ∧ S.length ≤ cap ∧ cur.toList.take ((keepTo S i).length * 2) = lcells (keepTo S i) ∧
    ∀ t, i ≤ t → t < S.length → cur.toList[t * 2]? = some (.string (S.getD t lblD).1) ∧ cur.toList[t * 2 + 1]? = some (.string (S.getD t lblD).2)
theorem NewCur.step {B : Nat} {w0 w : World} {g cap : Nat} {S : List Lbl} {i : Nat} {cur : Array Value} {x1 x2 : ByteArray} (h : NewCur B w0 w g cap S i cur) (hk : keepTo S (i + 1) = keepTo S i ++ [(x1, x2)]) (hi : i < S.length) :
    NewRel B w0 (w.setRow g (cur.toList.take ((keepTo S i).length * 2) ++ [Value.string x1, Value.string x2] ++ cur.toList.drop ((keepTo S i).length * 2 + [Value.string x1, Value.string x2].length)).toArray) g cap S (i + 1) := by
  obtain ⟨r0, r1, r2, r3, r4, r5, r6, r7⟩ := h
  have hkl := keepTo_len S i
  have hcl : cur.toList.length = cap * 2 := by simpa using r4
  have ht : (cur.toList.take ((keepTo S i).length * 2)).length = (keepTo S i).length * 2 := by rw [List.length_take]; omega
  refine ⟨below_setRow r0 r1 _, r1, _, setRow_heap w g cur _ 41 _ r2, r3, ?_, r5, ?_, ?_⟩
  · simp only [List.size_toArray, List.length_append, ht, List.length_drop, List.length_cons, List.length_nil]; omega
  · rw [hk, List.length_append, lcells_append]
    have e : ((keepTo S i).length + [(x1, x2)].length) * 2 = (cur.toList.take ((keepTo S i).length * 2) ++ [Value.string x1, Value.string x2]).length := by rw [List.length_append, ht]; simp; omega
    rw [e]
    simp only [List.take_left']
    rw [r6]
    rfl
  · intro t t1 t2
    have hh := r7 t (by omega) t2
    have key : ∀ q, i * 2 + 2 ≤ q → (cur.toList.take ((keepTo S i).length * 2) ++ [Value.string x1, Value.string x2] ++ cur.toList.drop ((keepTo S i).length * 2 + [Value.string x1, Value.string x2].length))[q]? = cur.toList[q]? := by
      intro q hq
      rw [List.getElem?_append_right (by rw [List.length_append, ht]; simp; omega), List.length_append, ht, List.getElem?_drop]
      congr 1
      simp only [List.length_cons, List.length_nil]
      omega
    simp only [List.toList_toArray]
    rw [key _ (by omega), key _ (by omega)]
    exact hh

set_option maxHeartbeats 4000000 in
set_option maxRecDepth 1000000 in
theorem new_any (B g n cap : Nat) (l : List Lbl) (w : World) (h : OwnL B w g n cap l) (hn : n ≤ 1099511627776) (h0 : 0 < n) :
    Calls Try.prog 38 #[.slice (some ⟨g, 0, none⟩) n cap] w fun e w' => ∃ S g' cap', SortedN S ∧ Stab nm l S ∧ S.length = n ∧ e = .returned (.slice (some ⟨g', 0, none⟩) (keepTo S n).length cap') ∧ OwnL w.heap.size w' g' (keepTo S n).length cap' (keepTo S n) ∧ Below w.heap.size w w' := by
  obtain ⟨i0, hi, hz0, hz1, hz2⟩ := info_parts info41
  have c := clone_any B g n cap l w h hn h0
  clear h
  go_enter Try.func38, Try.ntmps38
  go_wp2_with fail
  refine c.mono ?_
  rintro e w1 ⟨g1, cap1, rfl, ho1, hb1⟩
  have c2 := sortStable_any w.heap.size g1 n cap1 l w1 ho1 (by omega)
  have HB1 : Hid (Below w.heap.size w w1) := hb1
  clear c ho1 hb1
  go_wp2_with fail
  refine c2.mono ?_
  rintro e w2 ⟨rfl, S, hSo, hSt, ho2, hb2⟩
  have HS : Hid (SortedN S ∧ Stab nm l S) := ⟨hSo, hSt⟩
  have hSl : S.length = n := ho2.len
  have HSL : Hid (S.length = n) := hSl
  have HR0 : Hid (NewRel w.heap.size w w2 g1 cap1 S 0) := NewRel.start ho2 (HB1.out.trans hb2)
  clear c2 hSo hSt ho2 hb2 HB1 hSl
  go_wp2_with fail
  go_loopw [4, 15] (fun vo vi wq => ∃ (i : Nat), i ≤ n ∧ vi = .int .i64 i ∧ vo = .slice (some ⟨g1, 0, none⟩) (keepTo S i).length cap1 ∧ Hid (NewRel w.heap.size w wq g1 cap1 S i)) (fun _ vi _ => n - (intOf vi).toNat)
  case atStart => exact ⟨0, Nat.zero_le _, rfl, rfl, HR0⟩
  case round =>
    clear HR0
    obtain ⟨i, hin, rfl, rfl, HR⟩ := hrel
    by_cases hlt : i < n
    · have hlti : (i : Int) < (n : Int) := by omega
      obtain ⟨x, hx⟩ : ∃ x, x = S.getD i lblD := ⟨_, rfl⟩
      have HX : Hid (x = S.getD i lblD) := hx
      have cx := HR.out.cell i (Nat.le_refl _) (by rw [HSL.out]; exact hlt)
      rw [← hx] at cx
      obtain ⟨cx1, cx2⟩ := cx
      have HKL : Hid ((keepTo S i).length ≤ i) := keepTo_len S i
      obtain ⟨x1, x2⟩ := x
      clear hx
      go_wp2_with fail
      have cb1 : (wr.alloc (.cells #[.string x1, .string x2] 41)).cell? ⟨wr.heap.size, 0, none⟩ = some (.string x1) := by simp
      have cb2 : (wr.alloc (.cells #[.string x1, .string x2] 41)).cell? ⟨wr.heap.size, 1, none⟩ = some (.string x2) := by simp
      have HR2 : Hid (NewRel w.heap.size w (wr.alloc (.cells #[.string x1, .string x2] 41)) g1 cap1 S i) := HR.out.below ((Below.refl _ _).alloc (Nat.le_refl _) _)
      have hbl : wr.heap.size < (wr.alloc (.cells #[.string x1, .string x2] 41)).heap.size := by simp
      clear cx1 cx2 HR
      generalize wr.alloc (.cells #[.string x1, .string x2] 41) = w7 at cb1 cb2 HR2 hbl ⊢
      generalize wr.heap.size = b7 at cb1 cb2 hbl ⊢
      by_cases hi1 : i + 1 < n
      · have hi1i : (i : Int) + 1 < (n : Int) := by omega
        have hgu : decide ((i : Int) + 1 < (n : Int)) = true := decide_eq_true hi1i
        have e1 : ((i : Int) + 1).toNat = i + 1 := by omega
        have p1 : (0 : Int) ≤ (i : Int) + 1 := by omega
        obtain ⟨y, hy⟩ : ∃ y, y = S.getD (i + 1) lblD := ⟨_, rfl⟩
        have HY : Hid (y = S.getD (i + 1) lblD) := hy
        have cy := (HR2.out.cell (i + 1) (by omega) (by rw [HSL.out]; exact hi1)).1
        rw [← hy] at cy
        obtain ⟨y1, y2⟩ := y
        clear hy
        by_cases hyx : y1 = x1
        · have HK : Hid (keepTo S (i + 1) = keepTo S i) := by
            rw [Hid, keepTo]
            have : kstep S i = [] := by
              unfold kstep
              rw [if_pos]
              rw [← HX.out, ← HY.out]
              exact ⟨by rw [HSL.out]; exact hi1, hyx⟩
            rw [this, List.append_nil]
          have hq : (y1.toList == x1.toList) = true := by rw [hyx]; simp
          have hq2 : y1.toList = x1.toList := by rw [hyx]
          go_quiet (fail)
          have HR3 : Hid (NewRel w.heap.size w (w7.drewN nq) g1 cap1 S i) := HR2.out.below (below_drewN _ w7 nq)
          have hbl3 : b7 < (w7.drewN nq).heap.size := hbl
          have cc1 : (w7.drewN nq).cell? ⟨b7, 0, none⟩ = some (.string x1) := cb1
          have cc2 : (w7.drewN nq).cell? ⟨b7, 1, none⟩ = some (.string x2) := cb2
          clear HR2 hbl cb1 cb2
          generalize w7.drewN nq = w8 at HR3 hbl3 cc1 cc2 ⊢
          clear nq
          go_wp2_with fail
          go_roundw
          case rel => exact ⟨i + 1, by omega, by go_num, by rw [HK.out], HR3.out.skip HK.out⟩
          case measure => simp [intOf]; omega
        · have HN : Hid (¬ (i + 1 < S.length ∧ (S.getD (i + 1) lblD).1 = (S.getD i lblD).1)) := by
            rw [Hid, ← HX.out, ← HY.out]
            exact fun h => hyx h.2
          have hq : (y1.toList == x1.toList) = false := by rw [beq_eq_false_iff_ne]; exact fun h => hyx (baInj h)
          have hq2 : ¬ y1.toList = x1.toList := fun h => hyx (baInj h)
          go_quiet (fail)
          clear hq hq2 hyx cy
          have HR3 : Hid (NewRel w.heap.size w (w7.drewN nq) g1 cap1 S i) := HR2.out.below (below_drewN _ w7 nq)
          have hbl3 : b7 < (w7.drewN nq).heap.size := hbl
          have cc1 : (w7.drewN nq).cell? ⟨b7, 0, none⟩ = some (.string x1) := cb1
          have cc2 : (w7.drewN nq).cell? ⟨b7, 1, none⟩ = some (.string x2) := cb2
          clear HR2 hbl cb1 cb2
          generalize w7.drewN nq = w8 at HR3 hbl3 cc1 cc2 ⊢
          clear nq
          by_cases hv : x2 = ByteArray.empty
          · have HK : Hid (keepTo S (i + 1) = keepTo S i) := by
              rw [Hid, keepTo]
              have : kstep S i = [] := by
                unfold kstep
                rw [if_neg HN.out, if_pos (by rw [← HX.out]; exact hv)]
              rw [this, List.append_nil]
            have hv2 : x2.toList = [] := by rw [hv]; exact baNil
            have hv3 : (x2.toList == []) = true := by rw [hv2]; rfl
            clear hv
            go_wp2_with fail
            go_roundw
            case rel => exact ⟨i + 1, by omega, by go_num, by rw [HK.out], HR3.out.skip HK.out⟩
            case measure => simp [intOf]; omega
          · have HK : Hid (keepTo S (i + 1) = keepTo S i ++ [(x1, x2)]) := by
              rw [Hid, keepTo]
              have : kstep S i = [(x1, x2)] := by
                unfold kstep
                rw [if_neg HN.out, if_neg (by rw [← HX.out]; exact hv), ← HX.out]
              rw [this]
            have hv2 : ¬ x2.toList = [] := fun h => hv (baInj (h.trans baNil.symm))
            have hv3 : (x2.toList == []) = false := by rw [beq_eq_false_iff_ne]; exact hv2
            clear hv
            have HP : Hid (NewRel w.heap.size w (w8.alloc (.cells #[.string x1, .string x2] 41)) g1 cap1 S i) := HR3.out.below ((Below.refl _ _).alloc (Nat.le_refl _) _)
            obtain ⟨cur, hg1⟩ : ∃ cur, NewCur w.heap.size w (w8.alloc (.cells #[.string x1, .string x2] 41)) g1 cap1 S i cur := by
              obtain ⟨r0, r1, cur, r⟩ := HP.out
              exact ⟨cur, r0, r1, r⟩
            have HG1 : Hid (NewCur w.heap.size w (w8.alloc (.cells #[.string x1, .string x2] 41)) g1 cap1 S i cur) := hg1
            have hcap : n ≤ cap1 := by have := hg1.2.2.2.2.2.1; rw [HSL.out] at this; exact this
            have hcs : cur.size = cap1 * 2 := hg1.2.2.2.2.1
            have hgg := hg1.2.2.1
            clear hg1 HP
            have hc1 : ∀ (j : Nat) (u : Value), [Value.string x1, Value.string x2][j]? = some u → (w8.alloc (.cells #[.string x1, .string x2] 41)).cell? ((⟨w8.heap.size, 0, none⟩ : Addr).add j) = some u := by
              intro j u hj
              match j, hj with
              | 0, hj => simp at hj; subst hj; simp [Addr.add]
              | 1, hj => simp at hj; subst hj; simp [Addr.add]
            have hc2 : ∀ u ∈ [Value.string x1, Value.string x2], u.oneCell' = true := by
              intro u hu
              simp at hu
              rcases hu with rfl | rfl <;> rfl
            have hc3 : (keepTo S i).length + 1 ≤ cap1 := by have := HKL.out; omega
            have hc4 : (keepTo S i).length * 2 + [Value.string x1, Value.string x2].length ≤ cur.size := by have := HKL.out; simp; omega
            have HC1 : Aside _ := hc1
            have HC2 : Aside _ := hc2
            have HC3 : Hid _ := hc3
            have HC4 : Hid _ := hc4
            clear hc1 hc2 hc3 hc4
            go_wp2_with (at_builtin; refine wpList_append_fit _ rfl _ _ 37 rfl 41 i0 2 Try.underlying37 hi hz1 g1 _ cap1 cur rfl hgg ⟨w8.heap.size, 0, none⟩ 1 1 [Value.string x1, Value.string x2] rfl rfl HC1.out HC2.out HC3.out HC4.out ?_; generalize hw9 : World.setRow _ g1 _ = w9)
            have HR4 : Hid (NewRel w.heap.size w w9 g1 cap1 S (i + 1)) := by
              rw [← hw9]
              exact NewCur.step HG1.out HK.out (by rw [HSL.out]; exact hlt)
            clear HG1 hgg hcs hw9 HC1 HC2 HC3 HC4
            go_wp2_with fail
            go_roundw
            case rel => exact ⟨i + 1, by omega, by go_num, by rw [HK.out, List.length_append]; rfl, HR4⟩
            case measure => simp [intOf]; omega
      · have HN : Hid (¬ (i + 1 < S.length ∧ (S.getD (i + 1) lblD).1 = (S.getD i lblD).1)) := by
          rw [Hid, HSL.out]
          exact fun h => hi1 h.1
        have hi1i : ¬ (i : Int) + 1 < (n : Int) := by omega
        have hgu : decide ((i : Int) + 1 < (n : Int)) = false := decide_eq_false hi1i
        go_quiet (fail)
        have HR3 : Hid (NewRel w.heap.size w (w7.drewN nq) g1 cap1 S i) := HR2.out.below (below_drewN _ w7 nq)
        have hbl3 : b7 < (w7.drewN nq).heap.size := hbl
        have cc1 : (w7.drewN nq).cell? ⟨b7, 0, none⟩ = some (.string x1) := cb1
        have cc2 : (w7.drewN nq).cell? ⟨b7, 1, none⟩ = some (.string x2) := cb2
        clear HR2 hbl cb1 cb2
        generalize w7.drewN nq = w8 at HR3 hbl3 cc1 cc2 ⊢
        clear nq
        by_cases hv : x2 = ByteArray.empty
        · have HK : Hid (keepTo S (i + 1) = keepTo S i) := by
            rw [Hid, keepTo]
            have : kstep S i = [] := by
              unfold kstep
              rw [if_neg HN.out, if_pos (by rw [← HX.out]; exact hv)]
            rw [this, List.append_nil]
          have hv2 : x2.toList = [] := by rw [hv]; exact baNil
          have hv3 : (x2.toList == []) = true := by rw [hv2]; rfl
          clear hv
          go_wp2_with fail
          go_roundw
          case rel => exact ⟨i + 1, by omega, by go_num, by rw [HK.out], HR3.out.skip HK.out⟩
          case measure => simp [intOf]; omega
        · have HK : Hid (keepTo S (i + 1) = keepTo S i ++ [(x1, x2)]) := by
            rw [Hid, keepTo]
            have : kstep S i = [(x1, x2)] := by
              unfold kstep
              rw [if_neg HN.out, if_neg (by rw [← HX.out]; exact hv), ← HX.out]
            rw [this]
          have hv2 : ¬ x2.toList = [] := fun h => hv (baInj (h.trans baNil.symm))
          have hv3 : (x2.toList == []) = false := by rw [beq_eq_false_iff_ne]; exact hv2
          clear hv
          have HP : Hid (NewRel w.heap.size w (w8.alloc (.cells #[.string x1, .string x2] 41)) g1 cap1 S i) := HR3.out.below ((Below.refl _ _).alloc (Nat.le_refl _) _)
          obtain ⟨cur, hg1⟩ : ∃ cur, NewCur w.heap.size w (w8.alloc (.cells #[.string x1, .string x2] 41)) g1 cap1 S i cur := by
            obtain ⟨r0, r1, cur, r⟩ := HP.out
            exact ⟨cur, r0, r1, r⟩
          have HG1 : Hid (NewCur w.heap.size w (w8.alloc (.cells #[.string x1, .string x2] 41)) g1 cap1 S i cur) := hg1
          have hcap : n ≤ cap1 := by have := hg1.2.2.2.2.2.1; rw [HSL.out] at this; exact this
          have hcs : cur.size = cap1 * 2 := hg1.2.2.2.2.1
          have hgg := hg1.2.2.1
          clear hg1 HP
          have hc1 : ∀ (j : Nat) (u : Value), [Value.string x1, Value.string x2][j]? = some u → (w8.alloc (.cells #[.string x1, .string x2] 41)).cell? ((⟨w8.heap.size, 0, none⟩ : Addr).add j) = some u := by
            intro j u hj
            match j, hj with
            | 0, hj => simp at hj; subst hj; simp [Addr.add]
            | 1, hj => simp at hj; subst hj; simp [Addr.add]
          have hc2 : ∀ u ∈ [Value.string x1, Value.string x2], u.oneCell' = true := by
            intro u hu
            simp at hu
            rcases hu with rfl | rfl <;> rfl
          have hc3 : (keepTo S i).length + 1 ≤ cap1 := by have := HKL.out; omega
          have hc4 : (keepTo S i).length * 2 + [Value.string x1, Value.string x2].length ≤ cur.size := by have := HKL.out; simp; omega
          have HC1 : Aside _ := hc1
          have HC2 : Aside _ := hc2
          have HC3 : Hid _ := hc3
          have HC4 : Hid _ := hc4
          clear hc1 hc2 hc3 hc4
          go_wp2_with (at_builtin; refine wpList_append_fit _ rfl _ _ 37 rfl 41 i0 2 Try.underlying37 hi hz1 g1 _ cap1 cur rfl hgg ⟨w8.heap.size, 0, none⟩ 1 1 [Value.string x1, Value.string x2] rfl rfl HC1.out HC2.out HC3.out HC4.out ?_; generalize hw9 : World.setRow _ g1 _ = w9)
          have HR4 : Hid (NewRel w.heap.size w w9 g1 cap1 S (i + 1)) := by
            rw [← hw9]
            exact NewCur.step HG1.out HK.out (by rw [HSL.out]; exact hlt)
          clear HG1 hgg hcs hw9 HC1 HC2 HC3 HC4
          go_wp2_with fail
          go_roundw
          case rel => exact ⟨i + 1, by omega, by go_num, by rw [HK.out, List.length_append]; rfl, HR4⟩
          case measure => simp [intOf]; omega
    · have hie : i = n := by omega
      subst hie
      have HF : Hid (∃ g' cap', g' = g1 ∧ cap' = cap1 ∧ OwnL w.heap.size wr g' (keepTo S i).length cap' (keepTo S i) ∧ Below w.heap.size w wr) := by
        obtain ⟨r0, r1, cur, r2, r3, r4, r5, r6, r7⟩ := HR.out
        have := keepTo_len S i
        have := HSL.out
        exact ⟨g1, cap1, rfl, rfl, OwnL.mk rfl r1 r2 (by omega) r3 r4 r6, r0⟩
      clear HR
      go_wp2_with fail
      go_ret
      obtain ⟨_, _, rfl, rfl, q1, q2⟩ := HF.out
      exact ⟨S, _, _, HS.out.1, HS.out.2, HSL.out, rfl, q1, q2⟩
end Go.Proofs.Qxb6600238a
