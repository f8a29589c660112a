import Derived.Test.Qxb6600238aFn4
set_option linter.unusedVariables false
set_option linter.unusedSimpArgs false
set_option linter.unusedSectionVars false
namespace Go.Proofs.Qxb6600238a
open Go.Shelf Go.RowKit Go.Lib Go.Sort

theorem nm_eq (x : Lbl) (t : ByteArray) : nm x = t.data.toList ↔ x.1 = t := ⟨fun h => nm_inj h, fun h => by unfold nm; rw [h]⟩
theorem mem_ofKey (x : List UInt8) (l : List Lbl) (y : Lbl) : y ∈ ofKey nm x l ↔ y ∈ l ∧ nm y = x := by
  unfold ofKey; rw [List.mem_filter]; simp
theorem stab_mem {l l' : List Lbl} (h : Stab nm l l') (y : Lbl) (hy : y ∈ l') : y ∈ l := by
  have := (mem_ofKey (nm y) l' y).2 ⟨hy, rfl⟩
  rw [h (nm y)] at this
  exact ((mem_ofKey _ _ _).1 this).1
theorem stab_length : ∀ (n : Nat) (l l' : List Lbl), l'.length ≤ n → Stab nm l l' → l'.length ≤ l.length := by
  intro n
  induction n with
  | zero => intro l l' h _; omega
  | succ n ih =>
    intro l l' h hs
    cases l' with
    | nil => exact Nat.zero_le _
    | cons y r =>
      have split : ∀ m : List Lbl, m.length = (ofKey nm (nm y) m).length + (m.filter (fun z => !decide (nm z = nm y))).length := by
        intro m
        unfold ofKey
        induction m with
        | nil => rfl
        | cons z m ihm =>
          by_cases e : nm z = nm y
          · simp [List.filter_cons, e] at ihm ⊢; omega
          · simp [List.filter_cons, e] at ihm ⊢; omega
      have hst : Stab nm (l.filter (fun z => !decide (nm z = nm y))) ((y :: r).filter (fun z => !decide (nm z = nm y))) := by
        intro x
        by_cases e : x = nm y
        · subst e
          have : ∀ m : List Lbl, ofKey nm (nm y) (m.filter (fun z => !decide (nm z = nm y))) = [] := fun m => ofKey_nil_of nm _ _ (fun z hz => by have := (List.mem_filter.1 hz).2; simpa using this)
          rw [this, this]
        · have : ∀ m : List Lbl, ofKey nm x (m.filter (fun z => !decide (nm z = nm y))) = ofKey nm x m := by
            intro m
            unfold ofKey
            rw [List.filter_filter]
            congr 1
            funext z
            by_cases q : nm z = x
            · subst q; simp [e]
            · simp [q]
          rw [this, this]
          exact hs x
      have h1 := split (y :: r)
      have h2 := split l
      have h3 : ((y :: r).filter (fun z => !decide (nm z = nm y))).length ≤ n := by
        have : (y :: r).filter (fun z => !decide (nm z = nm y)) = r.filter (fun z => !decide (nm z = nm y)) := by simp [List.filter_cons]
        rw [this]
        have := List.length_filter_le (fun z => !decide (nm z = nm y)) r
        simp only [List.length_cons] at h
        omega
      have h4 := ih _ _ h3 hst
      rw [hs (nm y)] at h1
      omega

theorem last_split (t : ByteArray) : ∀ (S : List Lbl), (∃ y ∈ S, y.1 = t) → ∃ A y C, S = A ++ y :: C ∧ y.1 = t ∧ ∀ z ∈ C, z.1 ≠ t
  | [], h => by obtain ⟨y, hy, _⟩ := h; cases hy
  | x :: S, h => by
    by_cases ht : ∃ y ∈ S, y.1 = t
    · obtain ⟨A, y, C, e, h1, h2⟩ := last_split t S ht
      exact ⟨x :: A, y, C, by rw [e]; rfl, h1, h2⟩
    · obtain ⟨y, hy, e⟩ := h
      rcases List.mem_cons.1 hy with q | q
      · subst q
        exact ⟨[], y, S, rfl, e, fun z hz he => ht ⟨z, hz, he⟩⟩
      · exact absurd ⟨y, q, e⟩ ht

theorem mem_keepTo (S : List Lbl) (x : Lbl) : ∀ n, x ∈ keepTo S n ↔ ∃ i, i < n ∧ x ∈ kstep S i
  | 0 => by simp [keepTo]
  | n + 1 => by
    rw [keepTo, List.mem_append, mem_keepTo S x n]
    constructor
    · rintro (⟨i, h1, h2⟩ | h)
      · exact ⟨i, by omega, h2⟩
      · exact ⟨n, by omega, h⟩
    · rintro ⟨i, h1, h2⟩
      rcases Nat.lt_or_ge i n with q | q
      · exact .inl ⟨i, q, h2⟩
      · have : i = n := by omega
        subst this; exact .inr h2
theorem mem_kstep (S : List Lbl) (i : Nat) (x : Lbl) : x ∈ kstep S i ↔ x = S.getD i lblD ∧ ¬ (i + 1 < S.length ∧ (S.getD (i + 1) lblD).1 = (S.getD i lblD).1) ∧ (S.getD i lblD).2 ≠ ByteArray.empty := by
  unfold kstep
  split
  · rename_i h
    constructor
    · intro q; cases q
    · rintro ⟨_, q, _⟩; exact absurd h q
  · rename_i h
    split
    · rename_i h2
      constructor
      · intro q; cases q
      · rintro ⟨_, _, q⟩; exact absurd h2 q
    · rename_i h2
      rw [List.mem_singleton]
      exact ⟨fun q => ⟨q, h, h2⟩, fun q => q.1⟩
theorem sortedN_get {S : List Lbl} (h : SortedN S) (i j : Nat) (hij : i ≤ j) (hj : j < S.length) : compareBytes (nm (S.getD i lblD)) (nm (S.getD j lblD)) ≤ 0 := by
  rw [getD_eq S i (by omega), getD_eq S j hj]
  rcases Nat.lt_or_ge i j with q | q
  · have := List.pairwise_iff_getElem.1 h i j (by omega) hj q
    have := cmpB_neg (nm S[j]) (nm S[i])
    omega
  · have : i = j := by omega
    subst this
    rw [cmpB_self]; exact Int.le_refl _
/-- A round that keeps: from it on to a later place the names are greater. -/
theorem keep_lt {S : List Lbl} (h : SortedN S) (i j : Nat) (hij : i < j) (hj : j < S.length) (hk : ¬ (i + 1 < S.length ∧ (S.getD (i + 1) lblD).1 = (S.getD i lblD).1)) : compareBytes (nm (S.getD i lblD)) (nm (S.getD j lblD)) < 0 := by
  have h1 := sortedN_get h i (i + 1) (by omega) (by omega)
  have h2 := sortedN_get h (i + 1) j (by omega) hj
  have h3 := sortedN_get h i j (by omega) hj
  rcases Int.lt_or_eq_of_le h3 with q | q
  · exact q
  · exfalso
    have e : nm (S.getD i lblD) = nm (S.getD j lblD) := cmpB_eq _ _ q
    rw [← e] at h2
    have h4 := cmpB_neg (nm (S.getD i lblD)) (nm (S.getD (i + 1) lblD))
    have : compareBytes (nm (S.getD i lblD)) (nm (S.getD (i + 1) lblD)) = 0 := by omega
    exact hk ⟨by omega, (nm_inj (cmpB_eq _ _ this)).symm⟩
theorem keep_sAsc {S : List Lbl} (h : SortedN S) : ∀ n, n ≤ S.length → SAsc (keepTo S n)
  | 0, _ => List.Pairwise.nil
  | n + 1, hn => by
    unfold SAsc
    rw [keepTo, List.pairwise_append]
    refine ⟨keep_sAsc h n (by omega), ?_, ?_⟩
    · have := kstep_len S n
      match hk : kstep S n, this with
      | [], _ => exact List.Pairwise.nil
      | [x], _ => exact List.pairwise_singleton _ _
      | x :: y :: r, hl => simp at hl
    · intro x hx y hy
      obtain ⟨i, h1, h2⟩ := (mem_keepTo S x n).1 hx
      obtain ⟨e1, e2, _⟩ := (mem_kstep S i x).1 h2
      obtain ⟨f1, _, _⟩ := (mem_kstep S n y).1 hy
      rw [e1, f1]
      exact keep_lt h i n h1 (by omega) e2
theorem getL_mem {l : List Lbl} (h : SAsc l) (y : Lbl) (hy : y ∈ l) : getL l y.1 = y.2 := by
  obtain ⟨i, hi, rfl⟩ := List.mem_iff_getElem.1 hy
  exact getL_of l h i hi
theorem getL_nomem {l : List Lbl} (t : ByteArray) (h : ∀ y ∈ l, y.1 ≠ t) : getL l t = ByteArray.empty :=
  getL_none l t (fun i hi => h _ (List.getElem_mem hi))

theorem getL_keep {L S : List Lbl} (hS : SortedN S) (hst : Stab nm L S) (t : ByteArray) :
    (∃ y, (ofKey nm t.data.toList L).getLast? = some y ∧ getL (keepTo S S.length) t = y.2) ∨ (ofKey nm t.data.toList L = [] ∧ getL (keepTo S S.length) t = ByteArray.empty) := by
  have hasc := keep_sAsc hS S.length (Nat.le_refl _)
  by_cases hex : ∃ y ∈ S, y.1 = t
  · obtain ⟨A, y, C, e, h1, h2⟩ := last_split t S hex
    have hA : A.length < S.length := by rw [e]; simp
    have hy : S.getD A.length lblD = y := by rw [getD_eq S _ hA]; simp [e]
    have hC : ∀ j, A.length < j → j < S.length → (S.getD j lblD).1 ≠ t := by
      intro j j1 j2
      rw [getD_eq S j j2]
      apply h2
      have : S[j] = C[j - A.length - 1]'(by rw [e] at j2; simp at j2; omega) := by
        simp only [e]
        rw [List.getElem_append_right (by omega)]
        rw [List.getElem_cons, dif_neg (by omega)]
      rw [this]
      exact List.getElem_mem _
    left
    refine ⟨y, ?_, ?_⟩
    · rw [← hst t.data.toList, e, ofKey_append]
      have : ofKey nm t.data.toList (y :: C) = [y] := by
        have q1 : ofKey nm t.data.toList C = [] := ofKey_nil_of nm _ _ (fun z hz q => h2 z hz ((nm_eq z t).1 q))
        unfold ofKey at q1 ⊢
        rw [List.filter_cons, if_pos (by simpa using (nm_eq y t).2 h1), q1]
      rw [this]
      simp
    · by_cases hv : y.2 = ByteArray.empty
      · rw [hv]
        apply getL_nomem
        intro x hx hxt
        obtain ⟨j, j1, j2⟩ := (mem_keepTo S x S.length).1 hx
        obtain ⟨f1, f2, f3⟩ := (mem_kstep S j x).1 j2
        rw [f1] at hxt
        rcases Nat.lt_trichotomy j A.length with q | q | q
        · have := keep_lt hS j A.length q hA f2
          rw [(nm_eq _ t).2 hxt, hy, (nm_eq y t).2 h1, cmpB_self] at this
          omega
        · subst q
          rw [hy] at f3
          exact f3 hv
        · exact hC j q j1 hxt
      · have hm : y ∈ keepTo S S.length := by
          refine (mem_keepTo S y S.length).2 ⟨A.length, hA, (mem_kstep S _ y).2 ⟨hy.symm, ?_, by rw [hy]; exact hv⟩⟩
          rintro ⟨q1, q2⟩
          exact hC (A.length + 1) (by omega) q1 (by rw [q2, hy]; exact h1)
        have := getL_mem hasc y hm
        rw [h1] at this
        exact this
  · right
    constructor
    · rw [← hst t.data.toList]
      exact ofKey_nil_of nm _ _ (fun z hz q => hex ⟨z, hz, (nm_eq z t).1 q⟩)
    · apply getL_nomem
      intro x hx hxt
      obtain ⟨j, j1, j2⟩ := (mem_keepTo S x S.length).1 hx
      obtain ⟨f1, _, _⟩ := (mem_kstep S j x).1 j2
      refine hex ⟨x, ?_, hxt⟩
      rw [f1, getD_eq S j j1]
      exact List.getElem_mem j1

theorem mem_filt {card : Int} {on drop : Bool} {ml : List ByteArray} {l : List Lbl} {y : Lbl} : y ∈ filt card on drop ml l ↔ y ∈ l ∧ dropped card on drop ml y.1 = false := by
  unfold filt; rw [List.mem_filter]; simp

theorem got_ok {card : Int} {on drop : Bool} {ml il : List ByteArray} {many one got : List Lbl} (hm : SAsc many) (ho : SAsc one) (hne : ∀ x ∈ many, x.2 ≠ ByteArray.empty) (h : ResSpec card on drop ml il many one got) :
    SAsc got ∧ (∀ x ∈ got, x.2 ≠ ByteArray.empty) ∧ (∀ t, getL got t = expL card on drop ml il many one t) ∧ (∀ x ∈ got, (∃ y ∈ many, y.1 = x.1) ∨ x.1 ∈ il) ∧ got.length ≤ many.length + il.length := by
  rcases h with ⟨hil, rfl⟩ | ⟨hil, S, hS, hst, rfl⟩
  · subst hil
    refine ⟨List.Pairwise.filter _ hm, fun x hx => hne x (mem_filt.1 hx).1, ?_, fun x hx => .inl ⟨x, (mem_filt.1 hx).1, rfl⟩, by have := filt_len card on drop ml many; omega⟩
    intro t
    unfold expL
    rw [if_neg (by rw [Lib.containsS_iff]; simp)]
    cases hd : dropped card on drop ml t with
    | true =>
      rw [if_pos rfl]
      apply getL_nomem
      intro y hy e
      have := (mem_filt.1 hy).2
      rw [e, hd] at this
      cases this
    | false =>
      rw [if_neg (by decide)]
      by_cases hex : ∃ y ∈ many, y.1 = t
      · obtain ⟨y, hy, e⟩ := hex
        have h1 := getL_mem (l := filt card on drop ml many) (List.Pairwise.filter _ hm) y (mem_filt.2 ⟨hy, by rw [e]; exact hd⟩)
        have h2 := getL_mem hm y hy
        rw [e] at h1 h2
        rw [h1, h2]
      · rw [getL_nomem t (fun y hy e => hex ⟨y, hy, e⟩), getL_nomem t (fun y hy e => hex ⟨y, (mem_filt.1 hy).1, e⟩)]
  · have hmem : ∀ x ∈ keepTo S S.length, x ∈ S := by
      intro x hx
      obtain ⟨j, j1, j2⟩ := (mem_keepTo S x S.length).1 hx
      obtain ⟨f1, _, _⟩ := (mem_kstep S j x).1 j2
      rw [f1, getD_eq S j j1]
      exact List.getElem_mem j1
    refine ⟨keep_sAsc hS _ (Nat.le_refl _), ?_, ?_, ?_, ?_⟩
    · intro x hx
      obtain ⟨j, j1, j2⟩ := (mem_keepTo S x S.length).1 hx
      obtain ⟨f1, _, f3⟩ := (mem_kstep S j x).1 j2
      rw [f1]; exact f3
    · intro t
      have hk := getL_keep hS hst t
      rw [ofKey_append] at hk
      unfold expL
      cases hc : Lib.containsS il t with
      | true =>
        rw [if_pos rfl]
        have hti := (Lib.containsS_iff il t).1 hc
        have hM : ∀ z ∈ ofKey nm t.data.toList (il.map (fun s => (s, getL one s))), z.2 = getL one t := by
          intro z hz
          obtain ⟨h1, h2⟩ := (mem_ofKey _ _ _).1 hz
          obtain ⟨s, _, rfl⟩ := List.mem_map.1 h1
          have : s = t := nm_inj h2
          rw [this]
        have hMne : ofKey nm t.data.toList (il.map (fun s => (s, getL one s))) ≠ [] := by
          have : (t, getL one t) ∈ ofKey nm t.data.toList (il.map (fun s => (s, getL one s))) := (mem_ofKey _ _ _).2 ⟨List.mem_map.2 ⟨t, hti, rfl⟩, rfl⟩
          intro e; rw [e] at this; cases this
        rcases hk with ⟨y, h1, h2⟩ | ⟨h1, _⟩
        · rw [h2]
          apply hM
          rw [List.getLast?_append, List.getLast?_eq_some_getLast hMne, Option.some_or] at h1
          have h3 := List.getLast_mem hMne
          rw [Option.some.inj h1] at h3
          exact h3
        · have := (List.append_eq_nil_iff.1 h1).2
          exact absurd this hMne
      | false =>
        rw [if_neg (by decide)]
        have hti : t ∉ il := fun h => by rw [(Lib.containsS_iff il t).2 h] at hc; cases hc
        have hM : ofKey nm t.data.toList (il.map (fun s => (s, getL one s))) = [] := by
          apply ofKey_nil_of
          intro z hz q
          obtain ⟨s, hs, rfl⟩ := List.mem_map.1 hz
          exact hti ((nm_inj q : s = t) ▸ hs)
        rw [hM, List.append_nil] at hk
        rcases hk with ⟨y, h1, h2⟩ | ⟨h1, h2⟩
        · have hy := (mem_ofKey _ _ _).1 (List.mem_of_getLast? h1)
          have hyt : y.1 = t := (nm_eq y t).1 hy.2
          obtain ⟨q1, q2⟩ := mem_filt.1 hy.1
          rw [hyt] at q2
          rw [h2, q2, if_neg (by decide)]
          have := getL_mem hm y q1
          rw [hyt] at this
          exact this.symm
        · rw [h2]
          cases hd : dropped card on drop ml t with
          | true => rw [if_pos rfl]
          | false =>
            rw [if_neg (by decide)]
            symm
            apply getL_nomem
            intro y hy e
            have : y ∈ ofKey nm t.data.toList (filt card on drop ml many) := (mem_ofKey _ _ _).2 ⟨mem_filt.2 ⟨hy, by rw [e]; exact hd⟩, (nm_eq y t).2 e⟩
            rw [h1] at this
            cases this
    · intro x hx
      have hL := stab_mem hst x (hmem x hx)
      rcases List.mem_append.1 hL with q | q
      · exact .inl ⟨x, (mem_filt.1 q).1, rfl⟩
      · obtain ⟨s, hs, rfl⟩ := List.mem_map.1 q
        exact .inr hs
    · have h1 := keepTo_len S S.length
      have h2 := stab_length S.length _ S (Nat.le_refl _) hst
      have h3 := filt_len card on drop ml many
      rw [List.length_append, List.length_map] at h2
      omega
end Go.Proofs.Qxb6600238a
