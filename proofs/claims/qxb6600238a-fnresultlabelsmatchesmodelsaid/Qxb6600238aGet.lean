import Derived.Test.Qxb6600238aNew
set_option linter.unusedVariables false
set_option linter.unusedSimpArgs false
set_option linter.unusedSectionVars false
namespace Go.Proofs.Qxb6600238a
open Go.Shelf Go.RowKit Go.Lib Go.Sort

/-- Names strictly ascending. -/
def SAsc (l : List Lbl) : Prop := l.Pairwise (fun x y => compareBytes (nm x) (nm y) < 0)
/-- The value of a name. -/
def getL (l : List Lbl) (t : ByteArray) : ByteArray := match l.find? (fun x => decide (x.1 = t)) with | some x => x.2 | none => ByteArray.empty

theorem nm_inj {a b : ByteArray} (h : a.data.toList = b.data.toList) : a = b := by
  cases a; cases b; simp at h; simp [h]

theorem getL_of (l : List Lbl) (h : SAsc l) (i : Nat) (hi : i < l.length) : getL l (l[i]).1 = (l[i]).2 := by
  unfold getL
  have hf : l.find? (fun x => decide (x.1 = (l[i]).1)) = some l[i] := by
    rw [List.find?_eq_some_iff_getElem]
    refine ⟨by simp, i, hi, rfl, ?_⟩
    intro j hj
    simp only [Bool.not_eq_eq_eq_not, Bool.not_true, decide_eq_false_iff_not]
    intro e
    have := List.pairwise_iff_getElem.1 h j i (by omega) hi hj
    unfold nm at this
    rw [e, cmpB_self] at this
    omega
  rw [hf]
theorem getL_none (l : List Lbl) (t : ByteArray) (h : ∀ i (hi : i < l.length), (l[i]).1 ≠ t) : getL l t = ByteArray.empty := by
  unfold getL
  have hf : l.find? (fun x => decide (x.1 = t)) = none := by
    rw [List.find?_eq_none]
    intro x hx
    obtain ⟨i, hi, rfl⟩ := List.mem_iff_getElem.1 hx
    simpa using h i hi
  rw [hf]

set_option maxHeartbeats 1000000 in
theorem closure42 (x1 x2 t : ByteArray) (W : World) : Calls Try.prog 42 #[.agg #[.string x1, .string x2], .string t] W fun e w' => e = .returned (.int .i64 (compareBytes x1.data.toList t.data.toList)) ∧ Below W.heap.size W w' := by
  have hcon := fun W' => Try.strings_Compare x1 t W'
  generalize compareBytes x1.data.toList t.data.toList = r at hcon ⊢
  go_enter Try.func42, Try.ntmps42
  go_wp2_with (go_at_call 43; refine (hcon _).mono ?_; rintro e w' ⟨rfl, rfl⟩)
  go_ret
  exact ⟨rfl, (Below.refl _ _).alloc (Nat.le_refl _) _⟩

/-- What the binary search finds. -/
def BsPost (l : List Lbl) (t : ByteArray) (i : Nat) (f : Bool) : Prop :=
  i ≤ l.length ∧ (i = 0 ∨ compareBytes (nm (l.getD (i - 1) lblD)) t.data.toList < 0) ∧ (i = l.length ∨ 0 ≤ compareBytes (nm (l.getD i lblD)) t.data.toList) ∧
    (f = decide (i < l.length ∧ compareBytes (nm (l.getD i lblD)) t.data.toList = 0))

set_option maxHeartbeats 4000000 in
set_option maxRecDepth 1000000 in
theorem bsearch_any (B g n cap : Nat) (l : List Lbl) (t : ByteArray) (w : World) (h : OwnL B w g n cap l) (hn : n ≤ 1099511627776) :
    Calls Try.prog 41 #[.slice (some ⟨g, 0, none⟩) n cap, .string t, .func (.func 42) #[] #[]] w fun e w' => ∃ (i : Nat) (f : Bool), e = .returned (.tuple #[.int .i64 i, .bool f]) ∧ BsPost l t i f ∧ Below w.heap.size w w' := by
  have hl := h.len
  have hlt : g < w.heap.size := by obtain ⟨_, _, h2, _⟩ := h.parts; exact h2
  have HO : Hid (OwnL B w g n cap l) := h
  have HL : Hid (l.length = n) := hl
  have e42 : ∀ args w, (callFunc 42 args).run Try.prog w = .ok (.enter 42 args) w := enters_of Try.func42 (by kernel_rfl) rfl
  clear h hl
  go_enter Try.func41, Try.ntmps41
  go_wp2
  go_loopw [9, 10] (fun vi vj wr => ∃ (i j : Nat), vi = .int .i64 i ∧ vj = .int .i64 j ∧ i ≤ j ∧ j ≤ n ∧ Hid (Below w.heap.size w wr ∧ (i = 0 ∨ compareBytes (nm (l.getD (i - 1) lblD)) t.data.toList < 0) ∧ (j = n ∨ 0 ≤ compareBytes (nm (l.getD j lblD)) t.data.toList)))
    (fun vi vj _ => (intOf vj).toNat - (intOf vi).toNat)
  case atStart => exact ⟨0, n, rfl, rfl, Nat.zero_le _, Nat.le_refl _, Below.refl _ _, .inl rfl, .inl rfl⟩
  case round =>
    obtain ⟨i, j, rfl, rfl, hij, hjn, HX⟩ := hrel
    by_cases hlt2 : (i : Int) < (j : Int)
    · obtain ⟨q, hq⟩ : ∃ q : Nat, q = (i + j) / 2 := ⟨_, rfl⟩
      have hh1 : ((i : Int) + (j : Int)) / 2 = (q : Int) := by rw [hq]; exact half_eq i j
      have hqi : i ≤ q := by omega
      have hqj : q < j := by omega
      have hsum : (0 : Int) ≤ (i : Int) + (j : Int) := by omega
      have hsum2 : (i : Int) + (j : Int) < 9223372036854775808 := by omega
      clear hq
      obtain ⟨x, hx⟩ : ∃ x, x = l.getD q lblD := ⟨_, rfl⟩
      have HXX : Hid (x = l.getD q lblD) := hx
      have cx := (HO.out.kept HX.out.1 hlt).cell q (by rw [HL.out]; omega)
      rw [← getD_eq l q (by rw [HL.out]; omega), ← hx] at cx
      obtain ⟨cx1, cx2⟩ := cx
      obtain ⟨x1, x2⟩ := x
      have hqn : (q : Int) < (n : Int) := by omega
      clear hx
      have c := fun W => closure42 x1 x2 t W
      by_cases hv : compareBytes x1.data.toList t.data.toList < 0
      · have HX2 : ∀ w', Below wr.heap.size wr w' → Hid (Below w.heap.size w w' ∧ (q + 1 = 0 ∨ compareBytes (nm (l.getD (q + 1 - 1) lblD)) t.data.toList < 0) ∧ (j = n ∨ 0 ≤ compareBytes (nm (l.getD j lblD)) t.data.toList)) := by
          intro w' hb
          have h0 := HX.out.1
          refine ⟨h0.trans (hb.mono h0.size), .inr ?_, HX.out.2.2⟩
          rw [Nat.add_sub_cancel, ← HXX.out]; exact hv
        have HX3 : Aside _ := HX2
        clear HX2 HX HXX
        generalize compareBytes x1.data.toList t.data.toList = r at c hv
        go_wp2_with fail
        refine (c _).mono ?_
        rintro e w2 ⟨rfl, hb2⟩
        have HX4 := HX3.out w2 hb2
        clear HX3 hb2 c hsum hsum2
        go_wp2_with fail
        go_roundw
        case rel => exact ⟨q + 1, j, by go_num, rfl, by omega, hjn, HX4⟩
        case measure => simp [intOf]; omega
      · have HX2 : ∀ w', Below wr.heap.size wr w' → Hid (Below w.heap.size w w' ∧ (i = 0 ∨ compareBytes (nm (l.getD (i - 1) lblD)) t.data.toList < 0) ∧ (q = n ∨ 0 ≤ compareBytes (nm (l.getD q lblD)) t.data.toList)) := by
          intro w' hb
          have h0 := HX.out.1
          refine ⟨h0.trans (hb.mono h0.size), HX.out.2.1, .inr ?_⟩
          rw [← HXX.out]; exact Int.not_lt.1 hv
        have HX3 : Aside _ := HX2
        clear HX2 HX HXX
        generalize compareBytes x1.data.toList t.data.toList = r at c hv
        go_wp2_with fail
        refine (c _).mono ?_
        rintro e w2 ⟨rfl, hb2⟩
        have HX4 := HX3.out w2 hb2
        clear HX3 hb2 c hsum hsum2
        go_wp2_with fail
        go_roundw
        case rel => exact ⟨i, q, rfl, rfl, by omega, by omega, HX4⟩
        case measure => simp [intOf]; omega
    · have hije : i = j := by omega
      subst hije
      by_cases hin : i < n
      · have hini : (i : Int) < (n : Int) := by omega
        obtain ⟨x, hx⟩ : ∃ x, x = l.getD i lblD := ⟨_, rfl⟩
        have HXX : Hid (x = l.getD i lblD) := hx
        have cx := (HO.out.kept HX.out.1 hlt).cell i (by rw [HL.out]; omega)
        rw [← getD_eq l i (by rw [HL.out]; omega), ← hx] at cx
        obtain ⟨cx1, cx2⟩ := cx
        obtain ⟨x1, x2⟩ := x
        clear hx
        have c := fun W => closure42 x1 x2 t W
        have HP : Hid (∀ w', Below wr.heap.size wr w' → BsPost l t i (compareBytes x1.data.toList t.data.toList == 0) ∧ Below w.heap.size w w') := by
          intro w' hb
          have h0 := HX.out.1
          refine ⟨⟨by rw [HL.out]; omega, HX.out.2.1, ?_, ?_⟩, h0.trans (hb.mono h0.size)⟩
          · rw [HL.out]; exact HX.out.2.2
          · rw [← HXX.out, HL.out]
            show _ = decide (i < n ∧ compareBytes x1.data.toList t.data.toList = 0)
            rw [Bool.eq_iff_iff]
            simp [hin]
        clear HX HXX
        generalize compareBytes x1.data.toList t.data.toList = r at c HP
        go_wp2_with fail
        refine (c _).mono ?_
        rintro e w2 ⟨rfl, hb2⟩
        have HP2 := HP.out w2 hb2
        have HP3 : Hid _ := HP2
        clear HP HP2 hb2 c
        go_wp2_with fail
        go_ret2
        refine ⟨i, _, ?_, HP3.out⟩
        rfl
      · have hini : ¬ (i : Int) < (n : Int) := by omega
        have HP : Hid (BsPost l t i false ∧ Below w.heap.size w wr) := by
          refine ⟨⟨by rw [HL.out]; omega, HX.out.2.1, .inl (by rw [HL.out]; omega), ?_⟩, HX.out.1⟩
          rw [HL.out]
          simp [hin]
        clear HX
        go_wp2_with fail
        go_ret2
        exact ⟨i, .inl ⟨rfl, HP.out⟩⟩

theorem getL_true (l : List Lbl) (hs : SAsc l) (t : ByteArray) (i : Nat) (h : BsPost l t i true) : i < l.length ∧ (l.getD i lblD).2 = getL l t := by
  have hd := of_decide_eq_true h.2.2.2.symm
  refine ⟨hd.1, ?_⟩
  have e : (l.getD i lblD).1 = t := nm_inj (cmpB_eq _ _ hd.2)
  rw [getD_eq l i hd.1] at e ⊢
  have h2 := getL_of l hs i hd.1
  rw [e] at h2
  exact h2.symm
theorem getL_false (l : List Lbl) (hs : SAsc l) (t : ByteArray) (i : Nat) (h : BsPost l t i false) : getL l t = ByteArray.empty := by
  have hd := of_decide_eq_false h.2.2.2.symm
  apply getL_none
  intro j hj e
  have hp : ∀ a b (ha : a < l.length) (hb : b < l.length), a < b → compareBytes (nm l[a]) (nm l[b]) < 0 := fun a b ha hb hab => List.pairwise_iff_getElem.1 hs a b ha hb hab
  have ej : compareBytes (nm l[j]) t.data.toList = 0 := by
    unfold nm; rw [e]; exact cmpB_self _
  rcases Nat.lt_or_ge j i with h1 | h1
  · rcases h.2.1 with h2 | h2
    · omega
    · have hi : i - 1 < l.length := by have := h.1; omega
      rw [getD_eq l (i - 1) hi] at h2
      rcases Nat.lt_or_ge j (i - 1) with h3 | h3
      · have := cmpB_trans _ _ _ (hp j (i - 1) hj hi h3) h2
        omega
      · have e2 : j = i - 1 := by omega
        subst e2
        omega
  · have hi : i < l.length := by omega
    rcases h.2.2.1 with h2 | h2
    · omega
    · rw [getD_eq l i hi] at h2 hd
      have h3 : compareBytes (nm l[i]) t.data.toList ≠ 0 := fun q => hd ⟨hi, q⟩
      rcases Nat.lt_or_ge i j with h4 | h4
      · have a1 := hp i j hi hj h4
        rw [show nm l[j] = t.data.toList from cmpB_eq _ _ ej] at a1
        omega
      · have e2 : j = i := by omega
        subst e2
        exact h3 ej

set_option maxHeartbeats 1000000 in
theorem get_any (B g n cap : Nat) (l : List Lbl) (hs : SAsc l) (t : ByteArray) (w : World) (h : OwnL B w g n cap l) (hn : n ≤ 1099511627776) :
    Calls Try.prog 37 #[.slice (some ⟨g, 0, none⟩) n cap, .string t] w fun e w' => e = .returned (.string (getL l t)) ∧ Below w.heap.size w w' := by
  have c := bsearch_any B g n cap l t w h hn
  have hlt : g < w.heap.size := by obtain ⟨_, _, h2, _⟩ := h.parts; exact h2
  have HO : Hid (OwnL B w g n cap l) := h
  have HL : Hid (l.length = n) := h.len
  have HS : Hid (SAsc l) := hs
  clear h hs
  go_enter Try.func37, Try.ntmps37
  go_wp2_with fail
  refine c.mono ?_
  rintro e w1 ⟨i, f, rfl, hp, hb⟩
  have HB : Hid (Below w.heap.size w w1) := hb
  clear hb c
  cases f with
  | false =>
    have hr := getL_false l HS.out t i hp
    have HR : Hid (getL l t = ByteArray.empty) := hr
    clear hr hp
    go_wp2_with fail
    go_ret
    exact ⟨by rw [HR.out]; rfl, HB.out⟩
  | true =>
    obtain ⟨h1, h2⟩ := getL_true l HS.out t i hp
    have hin : (i : Int) < (n : Int) := by have := HL.out; omega
    have cx := ((HO.out.kept HB.out hlt).cell i h1).2
    rw [← getD_eq l i h1, h2] at cx
    have h3 : i < n := by omega
    clear h1 h2 hp
    obtain ⟨r, hr⟩ : ∃ r, r = getL l t := ⟨_, rfl⟩
    rw [← hr] at cx
    have HR : Hid (r = getL l t) := hr
    clear hr
    go_wp2_with fail
    go_ret
    exact ⟨by rw [← HR.out]; rfl, HB.out⟩
end Go.Proofs.Qxb6600238a
