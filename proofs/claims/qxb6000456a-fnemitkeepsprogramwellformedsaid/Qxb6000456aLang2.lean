import Derived.Test.Qxb6000456aLang
namespace Go.Proofs.Qxb6000456a
open Go.RowKit
set_option linter.unusedVariables false
set_option linter.unusedSimpArgs false

theorem setArg_get (v : Nat) (P : List I) (s j : Nat) : (setArg v P s)[j]? = if s = j then (P[j]?).map (fun i => ⟨i.op, v, i.next⟩) else P[j]? := by
  unfold setArg
  rw [List.getElem?_modify]
  split <;> simp_all
theorem patchArgs_get (P : List I) (sp : List Nat) (v j : Nat) : (patchArgs P sp v)[j]? = if j ∈ sp then (P[j]?).map (fun i => ⟨i.op, v, i.next⟩) else P[j]? := by
  induction sp generalizing P with
  | nil => simp [patchArgs]
  | cons a l ih =>
    have e : patchArgs P (a :: l) v = patchArgs (setArg v P a) l v := rfl
    rw [e, ih, setArg_get]
    by_cases h1 : a = j
    · subst h1
      by_cases h2 : a ∈ l
      · simp [h2, Option.map_map, Function.comp_def]
      · simp [h2]
    · have h1' : ¬ j = a := fun e => h1 e.symm
      simp [h1, h1']

/-- Where the j-th choice stands. -/
theorem opt_at {g : PG} {c : Nat} (hsz : g.Sized c) (s : St) (k : Nat) : ∀ j, j < k → (g.opt s j).1.P.length ∈ (g.opt s k).2 := by
  induction k with
  | zero => intro j hj; omega
  | succ k ih =>
    intro j hj
    simp only [PG.opt]
    rcases Nat.lt_or_ge j k with h | h
    · exact List.mem_append_left _ (ih j h)
    · have : j = k := by omega
      subst this; simp
theorem opt_mem {g : PG} (s : St) (k : Nat) : ∀ x ∈ (g.opt s k).2, ∃ j, j < k ∧ x = (g.opt s j).1.P.length := by
  induction k with
  | zero => intro x hx; simp [PG.opt] at hx
  | succ k ih =>
    intro x hx
    simp only [PG.opt] at hx
    rcases List.mem_append.1 hx with hx | hx
    · obtain ⟨j, hj, e⟩ := ih x hx; exact ⟨j, by omega, e⟩
    · simp at hx; exact ⟨k, by omega, hx⟩
theorem opt_prefix {g : PG} (s : St) (k : Nat) : ∀ j, j ≤ k → (g.opt s j).1.P <+: (g.opt s k).1.P := by
  induction k with
  | zero => intro j hj; have : j = 0 := by omega
            subst this; exact List.prefix_refl _
  | succ k ih =>
    intro j hj
    rcases Nat.lt_or_ge j (k + 1) with h | h
    · refine (ih j (by omega)).trans ?_
      simp only [PG.opt, PG.step, St.push]
      exact (List.prefix_append _ _).trans (List.prefix_append _ _)
    · have : j = k + 1 := by omega
      subst this; exact List.prefix_refl _
theorem opt_sets_prefix {g : PG} (hg : ∀ L, L <+: g.sets L) (s : St) (k : Nat) : ∀ j, j ≤ k → (g.opt s j).1.L <+: (g.opt s k).1.L := by
  induction k with
  | zero => intro j hj; have : j = 0 := by omega
            subst this; exact List.prefix_refl _
  | succ k ih =>
    intro j hj
    rcases Nat.lt_or_ge j (k + 1) with h | h
    · exact (ih j (by omega)).trans (hg _)
    · have : j = k + 1 := by omega
      subst this; exact List.prefix_refl _

/-- The optional copies in a program Q: choices at their places go on to e, the copies lie behind them. -/
structure OptIn (g : PG) (s : St) (K : Nat) (Q : List I) (e : Nat) : Prop where
  choice : ∀ j, j < K → Q[(g.opt s j).1.P.length]? = some ⟨1, e, (g.opt s j).1.P.length + 1⟩
  copy : ∀ j, j < K → Lies Q ((g.opt s j).1.P.length + 1) (g.code ((g.opt s j).1.P.length + 1) (g.opt s j).1.L)

theorem opt_next {g : PG} {c : Nat} (hsz : g.Sized c) (s : St) (j : Nat) : (g.opt s (j + 1)).1.P.length = (g.opt s j).1.P.length + 1 + c := by
  simp only [PG.opt]
  rw [PG.step_length hsz]
  simp [St.push]

theorem opt_fwd {g : PG} {c : Nat} {R : List UInt8 → Prop} (rg : Recog g c R) (s : St) (K : Nat) (Q : List I) (Lf : List S4) (h : OptIn g s K Q (g.opt s K).1.P.length) (hL : (g.opt s K).1.L <+: Lf) :
    ∀ d j, j + d = K → ∀ n u, AccN Q (hasOf Lf) n (g.opt s j).1.P.length u → ∃ r u1 u2 n', r ≤ d ∧ n' ≤ n ∧ u = u1 ++ u2 ∧ Pow R r u1 ∧ AccN Q (hasOf Lf) n' (g.opt s K).1.P.length u2 := by
  intro d
  induction d with
  | zero =>
    intro j hj n u ha
    have : j = K := by omega
    subst this
    exact ⟨0, [], u, n, Nat.le_refl _, Nat.le_refl _, rfl, rfl, ha⟩
  | succ d ih =>
    intro j hj n u ha
    obtain ⟨m, hm, h2⟩ := AccN.split (h.choice j (by omega)) ha
    rcases h2 with h2 | h2
    · exact ⟨0, [], u, m, Nat.zero_le _, by omega, rfl, rfl, h2⟩
    · have hLj : g.sets (g.opt s j).1.L <+: Lf := (opt_sets_prefix rg.grow s K (j + 1) (by omega)).trans hL
      obtain ⟨u1, u2, n', hn', rfl, hr, h3⟩ := rg.fwd Q Lf _ _ hLj (h.copy j (by omega)) m u h2
      rw [← opt_next rg.sized] at h3
      obtain ⟨r, v1, v2, n2, hr2, hn2, rfl, hp, h4⟩ := ih (j + 1) (by omega) n' u2 h3
      exact ⟨r + 1, u1 ++ v1, v2, n2, by omega, by omega, by simp, ⟨u1, v1, rfl, hr, hp⟩, h4⟩

theorem opt_bwd {g : PG} {c : Nat} {R : List UInt8 → Prop} (rg : Recog g c R) (s : St) (K : Nat) (Q : List I) (Lf : List S4) (h : OptIn g s K Q (g.opt s K).1.P.length) (hL : (g.opt s K).1.L <+: Lf) :
    ∀ d j, j + d = K → ∀ r u1 u2, r ≤ d → Pow R r u1 → Acc Q (hasOf Lf) (g.opt s K).1.P.length u2 → Acc Q (hasOf Lf) (g.opt s j).1.P.length (u1 ++ u2) := by
  intro d
  induction d with
  | zero =>
    intro j hj r u1 u2 hr hp ha
    have : j = K := by omega
    subst this
    have : r = 0 := by omega
    subst this
    cases hp
    exact ha
  | succ d ih =>
    intro j hj r u1 u2 hr hp ha
    cases r with
    | zero =>
      cases hp
      exact Acc.splitL (h.choice j (by omega)) ha
    | succ r =>
      obtain ⟨v1, v2, rfl, h1, h2⟩ := hp
      refine Acc.splitR (h.choice j (by omega)) ?_
      have hLj : g.sets (g.opt s j).1.L <+: Lf := (opt_sets_prefix rg.grow s K (j + 1) (by omega)).trans hL
      rw [List.append_assoc]
      refine rg.bwd Q Lf _ _ hLj (h.copy j (by omega)) v1 (v2 ++ u2) h1 ?_
      rw [← opt_next rg.sized]
      exact ih (j + 1) (by omega) r v2 u2 (by omega) h2 ha

theorem getElem?_of_prefix {A Q : List I} (h : A <+: Q) {j : Nat} {i : I} (hj : A[j]? = some i) : Q[j]? = some i := by
  obtain ⟨t, rfl⟩ := h
  rw [List.getElem?_append_left (List.getElem?_eq_some_iff.1 hj).1]
  exact hj

theorem opt_lt {g : PG} {c : Nat} (hsz : g.Sized c) (s : St) {i j : Nat} (h : i < j) : (g.opt s i).1.P.length + 1 + c ≤ (g.opt s j).1.P.length := by
  rw [PG.opt_length hsz, PG.opt_length hsz]
  have := Nat.mul_le_mul_right (c + 1) (show i + 1 ≤ j from h)
  rw [Nat.succ_mul] at this
  omega

/-- The patched program holds them. -/
theorem optIn_patch {g : PG} {c : Nat} (hsz : g.Sized c) (s : St) (K : Nat) (tail : List I) :
    OptIn g s K (patchArgs (g.opt s K).1.P (g.opt s K).2 (g.opt s K).1.P.length ++ tail) (g.opt s K).1.P.length := by
  have hget : ∀ (x : Nat) (i : I), (patchArgs (g.opt s K).1.P (g.opt s K).2 (g.opt s K).1.P.length)[x]? = some i → (patchArgs (g.opt s K).1.P (g.opt s K).2 (g.opt s K).1.P.length ++ tail)[x]? = some i := by
    intro x i hx
    exact getElem?_of_prefix (List.prefix_append _ _) hx
  refine ⟨fun j hj => hget _ _ ?_, fun j hj q i hq => hget _ _ ?_⟩
  · rw [patchArgs_get, if_pos (opt_at hsz s K j hj)]
    have h1 : (g.opt s (j + 1)).1.P[(g.opt s j).1.P.length]? = some ⟨1, 0, (g.opt s j).1.P.length + 1⟩ := by
      simp only [PG.opt, PG.step, St.push]
      rw [List.getElem?_append_left (by simp)]
      simp
    rw [getElem?_of_prefix (opt_prefix s K (j + 1) (by omega)) h1]
    rfl
  · have hql := (List.getElem?_eq_some_iff.1 hq).1
    rw [hsz.code] at hql
    have hno : ¬ (g.opt s j).1.P.length + 1 + q ∈ (g.opt s K).2 := by
      intro hm
      obtain ⟨j', hj', e⟩ := opt_mem s K _ hm
      rcases Nat.lt_trichotomy j j' with h | h | h
      · have := opt_lt hsz s h; omega
      · subst h; omega
      · have := opt_lt hsz s h; omega
    rw [patchArgs_get, if_neg hno]
    have h1 : (g.opt s (j + 1)).1.P[(g.opt s j).1.P.length + 1 + q]? = some i := by
      simp only [PG.opt, PG.step, St.push]
      rw [List.getElem?_append_right (by simp <;> omega)]
      simp only [List.length_append, List.length_cons, List.length_nil, Nat.zero_add]
      have e : (g.opt s j).1.P.length + 1 + q - ((g.opt s j).1.P.length + 1) = q := by omega
      rw [e]
      exact hq
    exact getElem?_of_prefix (opt_prefix s K (j + 1) (by omega)) h1

theorem patch_prefix {g : PG} {c : Nat} (hsz : g.Sized c) (s : St) (K : Nat) (tail : List I) : s.P <+: patchArgs (g.opt s K).1.P (g.opt s K).2 (g.opt s K).1.P.length ++ tail := by
  rw [List.prefix_iff_getElem?]
  intro i hi
  refine getElem?_of_prefix (List.prefix_append _ _) ?_
  have hno : ¬ i ∈ (g.opt s K).2 := by
    intro hm
    obtain ⟨j', hj', e⟩ := opt_mem s K _ hm
    rw [PG.opt_length hsz] at e
    omega
  rw [patchArgs_get, if_neg hno]
  exact getElem?_of_prefix (opt_prefix s K 0 (by omega)) (List.getElem?_eq_getElem hi)

/-- THE BOUNDED REPETITION. -/
theorem optEnd_acc {g : PG} {c : Nat} {R : List UInt8 → Prop} (rg : Recog g c R) (least K : Nat) (u : List UInt8) :
    Acc ((g.optEnd (g.rep ⟨[], []⟩ least) K).P ++ [⟨3, 0, 0⟩]) (hasOf (g.optEnd (g.rep ⟨[], []⟩ least) K).L) 0 u ↔ ∃ r, least ≤ r ∧ r ≤ least + K ∧ Pow R r u := by
  have hP := patch_prefix rg.sized (g.rep ⟨[], []⟩ least) K [⟨3, 0, 0⟩]
  have hL := opt_sets_prefix rg.grow (g.rep ⟨[], []⟩ least) K 0 (by omega)
  have hO := optIn_patch rg.sized (g.rep ⟨[], []⟩ least) K [⟨3, 0, 0⟩]
  have hend : ((g.optEnd (g.rep ⟨[], []⟩ least) K).P ++ [⟨3, 0, 0⟩])[(g.opt (g.rep ⟨[], []⟩ least) K).1.P.length]? = some ⟨3, 0, 0⟩ := by
    have e : (g.optEnd (g.rep ⟨[], []⟩ least) K).P.length = (g.opt (g.rep ⟨[], []⟩ least) K).1.P.length := patchArgs_length _ _ _
    rw [← e]
    simp
  constructor
  · intro h
    obtain ⟨n, hn⟩ := h.fuel
    obtain ⟨u1, u2, n1, _, rfl, hp, h2⟩ := rep_fwd rg ⟨[], []⟩ _ _ least hP hL n u hn
    obtain ⟨r, v1, v2, n2, hr, _, rfl, hq, h3⟩ := opt_fwd rg (g.rep ⟨[], []⟩ least) K _ _ hO (List.prefix_refl _) K 0 (by omega) n1 u2 h2
    have := AccN.mat hend h3
    subst this
    refine ⟨least + r, by omega, by omega, ?_⟩
    simpa using Pow.add hp hq
  · rintro ⟨r, h1, h2, hp⟩
    obtain ⟨d, rfl⟩ : ∃ d, r = least + d := ⟨r - least, by omega⟩
    obtain ⟨u1, u2, rfl, hp1, hp2⟩ : ∃ u1 u2, u = u1 ++ u2 ∧ Pow R least u1 ∧ Pow R d u2 := by
      clear hP hL hO hend h1 h2
      induction least generalizing u with
      | zero => exact ⟨[], u, rfl, rfl, by simpa using hp⟩
      | succ k ih =>
        rw [Nat.succ_add] at hp
        obtain ⟨a, b, rfl, ha, hb⟩ := hp
        obtain ⟨u1, u2, rfl, h3, h4⟩ := ih b hb
        exact ⟨a ++ u1, u2, by simp, ⟨a, u1, rfl, ha, h3⟩, h4⟩
    have a3 := opt_bwd rg (g.rep ⟨[], []⟩ least) K _ _ hO (List.prefix_refl _) K 0 (by omega) d u2 [] (by omega) hp2 (Acc.mat' hend)
    rw [List.append_nil] at a3
    exact rep_bwd rg ⟨[], []⟩ _ _ least hP hL u1 u2 hp1 a3

/-- THE REPETITION WITHOUT END. -/
theorem loopEnd_acc {g : PG} {c : Nat} {R : List UInt8 → Prop} (rg : Recog g c R) (least : Nat) (u : List UInt8) :
    Acc ((g.loopEnd (g.rep ⟨[], []⟩ least)).P ++ [⟨3, 0, 0⟩]) (hasOf (g.loopEnd (g.rep ⟨[], []⟩ least)).L) 0 u ↔ ∃ r, least ≤ r ∧ Pow R r u := by
  obtain ⟨s, hs⟩ : ∃ s, s = g.rep ⟨[], []⟩ least := ⟨_, rfl⟩
  have hlen : (g.loopEnd s).P.length = s.P.length + 1 + c + 1 := by
    simp only [PG.loopEnd]
    rw [setArg_length]
    simp only [St.push, List.length_append, List.length_cons, List.length_nil]
    rw [PG.step_length rg.sized]
    simp [St.push]
  obtain ⟨Q, hQ⟩ : ∃ Q, Q = (g.loopEnd s).P ++ [⟨3, 0, 0⟩] := ⟨_, rfl⟩
  obtain ⟨Lf, hLf⟩ : ∃ Lf, Lf = (g.loopEnd s).L := ⟨_, rfl⟩
  have hget : ∀ (x : Nat), (g.loopEnd s).P[x]? = if s.P.length = x then some ⟨1, s.P.length + 1 + c + 1, s.P.length + 1⟩ else ((g.step (s.push ⟨1, 0, s.P.length + 1⟩)).P ++ [⟨2, 0, s.P.length⟩])[x]? := by
    intro x
    have e : (g.loopEnd s).P = setArg (s.P.length + 1 + c + 1) ((g.step (s.push ⟨1, 0, s.P.length + 1⟩)).P ++ [⟨2, 0, s.P.length⟩]) s.P.length := by
      simp only [PG.loopEnd, St.push]
      congr 1
      simp only [List.length_append, List.length_cons, List.length_nil]
      rw [PG.step_length rg.sized]
      simp
    rw [e, setArg_get]
    split
    · rename_i hx
      subst hx
      have : ((g.step (s.push ⟨1, 0, s.P.length + 1⟩)).P ++ [⟨2, 0, s.P.length⟩])[s.P.length]? = some ⟨1, 0, s.P.length + 1⟩ := by
        simp only [PG.step, St.push, List.append_assoc]
        rw [List.getElem?_append_right (by omega)]
        simp
      rw [this]
      rfl
    · rfl
  have hin : ∀ (x : Nat) (i : I), (g.loopEnd s).P[x]? = some i → Q[x]? = some i := fun x i h => by rw [hQ]; exact getElem?_of_prefix (List.prefix_append _ _) h
  have q0 : Q[s.P.length]? = some ⟨1, s.P.length + 1 + c + 1, s.P.length + 1⟩ := hin _ _ (by rw [hget, if_pos rfl])
  have q1 : Lies Q (s.P.length + 1) (g.code (s.P.length + 1) s.L) := by
    intro j i hj
    have hjl := (List.getElem?_eq_some_iff.1 hj).1
    refine hin _ _ ?_
    rw [hget, if_neg (by omega)]
    simp only [PG.step, St.push]
    rw [List.getElem?_append_left (by simp; omega), List.getElem?_append_right (by simp <;> omega)]
    simp only [List.length_append, List.length_cons, List.length_nil, Nat.zero_add]
    have e : s.P.length + 1 + j - (s.P.length + 1) = j := by omega
    rw [e]
    exact hj
  have q2 : Q[s.P.length + 1 + c]? = some ⟨2, 0, s.P.length⟩ := by
    refine hin _ _ ?_
    rw [hget, if_neg (by omega)]
    have l1 : (g.step (s.push ⟨1, 0, s.P.length + 1⟩)).P.length = s.P.length + 1 + c := by rw [PG.step_length rg.sized]; simp [St.push]
    rw [List.getElem?_append_right (by omega), l1]
    simp
  have q3 : Q[s.P.length + 1 + c + 1]? = some ⟨3, 0, 0⟩ := by
    rw [hQ, ← hlen]
    simp
  have hP : s.P <+: Q := by
    rw [List.prefix_iff_getElem?]
    intro i hi
    refine hin _ _ ?_
    rw [hget, if_neg (by omega)]
    simp only [PG.step, St.push, List.append_assoc]
    rw [List.getElem?_append_left hi]
    exact List.getElem?_eq_getElem hi
  have hLs : g.sets s.L <+: Lf := by rw [hLf]; exact List.prefix_refl _
  have hL : s.L <+: Lf := (rg.grow s.L).trans hLs
  -- the loop
  have fwd : ∀ n u, AccN Q (hasOf Lf) n s.P.length u → ∃ r, Pow R r u := by
    intro n
    induction n using Nat.strongRecOn with
    | _ n ih =>
      intro u h
      obtain ⟨m, hm, h2⟩ := AccN.split q0 h
      rcases h2 with h2 | h2
      · have := AccN.mat q3 h2
        subst this
        exact ⟨0, rfl⟩
      · obtain ⟨u1, u2, n', hn', rfl, hr, h3⟩ := rg.fwd Q Lf _ _ hLs q1 m u h2
        obtain ⟨m2, hm2, h4⟩ := AccN.jump q2 h3
        obtain ⟨r, hp⟩ := ih m2 (by omega) u2 h4
        exact ⟨r + 1, u1, u2, rfl, hr, hp⟩
  have bwd : ∀ r u, Pow R r u → Acc Q (hasOf Lf) s.P.length u := by
    intro r
    induction r with
    | zero => intro u hp; cases hp; exact Acc.splitL q0 (Acc.mat' q3)
    | succ r ih =>
      rintro u ⟨u1, u2, rfl, hr, hp⟩
      exact Acc.splitR q0 (rg.bwd Q Lf _ _ hLs q1 u1 u2 hr (Acc.jump' q2 (ih u2 hp)))
  rw [← hs, ← hQ, ← hLf]
  constructor
  · intro h
    obtain ⟨n, hn⟩ := h.fuel
    obtain ⟨u1, u2, n1, _, rfl, hp, h2⟩ := rep_fwd rg ⟨[], []⟩ Q Lf least (hs ▸ hP) (hs ▸ hL) n u hn
    rw [← hs] at h2
    obtain ⟨r, hq⟩ := fwd n1 u2 h2
    exact ⟨least + r, by omega, Pow.add hp hq⟩
  · rintro ⟨r, h1, hp⟩
    obtain ⟨d, rfl⟩ : ∃ d, r = least + d := ⟨r - least, by omega⟩
    obtain ⟨u1, u2, rfl, hp1, hp2⟩ : ∃ u1 u2, u = u1 ++ u2 ∧ Pow R least u1 ∧ Pow R d u2 := by
      clear fwd bwd hP hL hLs q0 q1 q2 q3 hin hget hQ hLf hlen hs h1
      induction least generalizing u with
      | zero => exact ⟨[], u, rfl, rfl, by simpa using hp⟩
      | succ k ih =>
        rw [Nat.succ_add] at hp
        obtain ⟨a, b, rfl, ha, hb⟩ := hp
        obtain ⟨u1, u2, rfl, h3, h4⟩ := ih b hb
        exact ⟨a ++ u1, u2, by simp, ⟨a, u1, rfl, ha, h3⟩, h4⟩
    have := rep_bwd rg ⟨[], []⟩ Q Lf least (hs ▸ hP) (hs ▸ hL) u1 u2 hp1 (hs ▸ bwd d u2 hp2)
    exact this
end Go.Proofs.Qxb6000456a
