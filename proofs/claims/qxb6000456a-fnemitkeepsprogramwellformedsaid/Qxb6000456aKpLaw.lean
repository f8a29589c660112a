import Derived.Test.Qxb6000456aAltLaw
namespace Go.Proofs.Qxb6000456a
open Go.RowKit
set_option linter.unusedVariables false
set_option linter.unusedSimpArgs false

/-- How many instructions of one kind. -/
def cnt (o : Nat) (P : List I) : Nat := (P.map I.op).count o
theorem cnt_append (o : Nat) (A B : List I) : cnt o (A ++ B) = cnt o A + cnt o B := by simp [cnt]
theorem cnt_nil (o : Nat) : cnt o [] = 0 := rfl
theorem cnt_cons (o : Nat) (i : I) (A : List I) : cnt o (i :: A) = (if i.op = o then 1 else 0) + cnt o A := by
  unfold cnt
  rw [List.map_cons, List.count_cons]
  by_cases h : i.op = o
  · simp [h]; omega
  · simp [h]
theorem cnt_one (o : Nat) (i : I) : cnt o [i] = if i.op = o then 1 else 0 := by rw [cnt_cons, cnt_nil]; simp
theorem setArg_ops (v : Nat) (P : List I) (s : Nat) : (setArg v P s).map I.op = P.map I.op := by
  apply List.ext_getElem?
  intro j
  rw [List.getElem?_map, List.getElem?_map, setArg_get]
  split
  · cases P[j]? <;> rfl
  · rfl
theorem patchArgs_ops (sp : List Nat) (v : Nat) : ∀ P : List I, (patchArgs P sp v).map I.op = P.map I.op := by
  induction sp with
  | nil => intro P; rfl
  | cons x sp ih => intro P; show (patchArgs (setArg v P x) sp v).map I.op = _; rw [ih, setArg_ops]
theorem cnt_setArg (o v : Nat) (P : List I) (s : Nat) : cnt o (setArg v P s) = cnt o P := by unfold cnt; rw [setArg_ops]
theorem cnt_patchArgs (o v : Nat) (P : List I) (sp : List Nat) : cnt o (patchArgs P sp v) = cnt o P := by unfold cnt; rw [patchArgs_ops]

/-- Each byte instruction goes on to the next one. -/
def NxS (P : List I) : Prop := ∀ i q, P[i]? = some q → q.op = 0 → q.next = i + 1

structure Tidy (g : PG) (kb ka : Nat) (S : S4 → Prop) : Prop where
  c0 : ∀ n L, cnt 0 (g.code n L) = kb
  c1 : ∀ n L, cnt 1 (g.code n L) = ka
  c2 : ∀ n L, cnt 2 (g.code n L) = ka
  nx : ∀ n L i q, (g.code n L)[i]? = some q → q.op = 0 → q.next = n + i + 1
  mem : ∀ L x, x ∈ g.sets L ↔ x ∈ L ∨ S x

theorem mem_addSet (L : List S4) (y x : S4) : x ∈ addSet L y ↔ x ∈ L ∨ x = y := by
  unfold addSet
  split
  · rename_i h
    rw [setIdx_lt_iff] at h
    constructor
    · exact .inl
    · rintro (h1 | rfl)
      · exact h1
      · exact h
  · simp
theorem mem_foldSets (xs : List S4) : ∀ L x, x ∈ xs.foldl addSet L ↔ x ∈ L ∨ x ∈ xs := by
  induction xs with
  | nil => intro L x; simp
  | cons y xs ih => intro L x; simp only [List.foldl_cons, ih, mem_addSet, List.mem_cons, or_assoc]
theorem mem_preSets (zs : List (List S4)) : ∀ L x, x ∈ preSets zs L ↔ x ∈ L ∨ ∃ z ∈ zs, x ∈ z := by
  induction zs with
  | nil => intro L x; simp [preSets]
  | cons z zs ih =>
    intro L x
    simp only [preSets, ih, mem_foldSets, List.mem_cons, or_assoc]
    constructor
    · rintro (h | h | ⟨z', h, h'⟩)
      · exact .inl h
      · exact .inr ⟨z, .inl rfl, h⟩
      · exact .inr ⟨z', .inr h, h'⟩
    · rintro (h | ⟨z', rfl | h, h'⟩)
      · exact .inl h
      · exact .inr (.inl h')
      · exact .inr (.inr ⟨z', h, h'⟩)

theorem seqCode_cnt (o : Nat) (xs : List S4) : ∀ n L, cnt o (seqCode xs n L) = if o = 0 then xs.length else 0 := by
  induction xs with
  | nil => intro n L; simp [seqCode, cnt_nil]
  | cons x xs ih =>
    intro n L
    simp only [seqCode, cnt_cons, ih, List.length_cons]
    by_cases h : o = 0
    · subst h; simp; omega
    · simp [h, Ne.symm h]
theorem seqCode_nx (xs : List S4) : ∀ n L i q, (seqCode xs n L)[i]? = some q → q.next = n + i + 1 := by
  induction xs with
  | nil => intro n L i q h; simp [seqCode] at h
  | cons x xs ih =>
    intro n L i q h
    cases i with
    | zero => simp [seqCode] at h; subst h; rfl
    | succ i =>
      simp only [seqCode, List.getElem?_cons_succ] at h
      have := ih (n + 1) (addSet L x) i q h
      omega
theorem seqG_tidy (xs : List S4) : Tidy (seqG xs) xs.length 0 (fun x => x ∈ xs) := by
  refine ⟨fun n L => ?_, fun n L => ?_, fun n L => ?_, fun n L i q h _ => seqCode_nx xs n L i q h, fun L x => mem_foldSets xs L x⟩
  · simpa [seqG] using seqCode_cnt 0 xs n L
  · simpa [seqG] using seqCode_cnt 1 xs n L
  · simpa [seqG] using seqCode_cnt 2 xs n L

/-- The bytes of the alternatives. -/
def lenSum : List (List S4) → Nat
  | [] => 0
  | z :: zs => z.length + lenSum zs
theorem lenSum_append (A B : List (List S4)) : lenSum (A ++ B) = lenSum A + lenSum B := by
  induction A with
  | nil => simp [lenSum]
  | cons z A ih => simp [lenSum, ih]; omega
theorem preLen_eq (zs : List (List S4)) : preLen zs = lenSum zs + 2 * zs.length := by
  induction zs with
  | nil => rfl
  | cons z zs ih => simp [preLen, lenSum, ih]; omega

theorem preCode_cnt (e : Nat) (zs : List (List S4)) : ∀ n L, cnt 0 (preCode e zs n L) = lenSum zs ∧ cnt 1 (preCode e zs n L) = zs.length ∧ cnt 2 (preCode e zs n L) = zs.length := by
  induction zs with
  | nil => intro n L; exact ⟨rfl, rfl, rfl⟩
  | cons z zs ih =>
    intro n L
    obtain ⟨h0, h1, h2⟩ := ih (n + z.length + 2) (z.foldl addSet L)
    simp only [preCode, altBlock, lenSum, List.length_cons, cnt_append, cnt_cons, cnt_nil, seqCode_cnt, h0, h1, h2]
    refine ⟨?_, ?_, ?_⟩ <;> simp <;> omega
theorem preCode_nx (e : Nat) (zs : List (List S4)) : ∀ n L i q, (preCode e zs n L)[i]? = some q → q.op = 0 → q.next = n + i + 1 := by
  induction zs with
  | nil => intro n L i q h; simp [preCode] at h
  | cons z zs ih =>
    intro n L i q h ho
    by_cases hi : i < z.length + 2
    · simp only [preCode] at h
      rw [List.getElem?_append_left (by rw [altBlock_length]; exact hi)] at h
      cases i with
      | zero => simp [altBlock] at h; subst h; cases ho
      | succ i =>
        simp only [altBlock, List.getElem?_cons_succ] at h
        by_cases hi2 : i < z.length
        · rw [List.getElem?_append_left (by rw [seqCode_length]; exact hi2)] at h
          have := seqCode_nx z (n + 1) L i q h
          omega
        · have : i = z.length := by omega
          subst this
          rw [List.getElem?_append_right (by rw [seqCode_length]; exact Nat.le_refl _), seqCode_length] at h
          simp at h; subst h; cases ho
    · simp only [preCode] at h
      rw [List.getElem?_append_right (by rw [altBlock_length]; omega), altBlock_length] at h
      have := ih (n + z.length + 2) (z.foldl addSet L) (i - (z.length + 2)) q h ho
      omega

theorem altG_tidy (zs : List (List S4)) (y : List S4) : Tidy (altG zs y) (lenSum (zs ++ [y])) zs.length (fun x => ∃ z ∈ zs ++ [y], x ∈ z) := by
  refine ⟨fun n L => ?_, fun n L => ?_, fun n L => ?_, fun n L i q h ho => ?_, fun L x => ?_⟩
  · simp only [altG, cnt_append, seqCode_cnt, (preCode_cnt _ zs n L).1, lenSum_append]; simp [lenSum]
  · simp only [altG, cnt_append, seqCode_cnt, (preCode_cnt _ zs n L).2.1]; simp
  · simp only [altG, cnt_append, seqCode_cnt, (preCode_cnt _ zs n L).2.2]; simp
  · simp only [altG] at h
    by_cases hi : i < preLen zs
    · rw [List.getElem?_append_left (by rw [preCode_length]; exact hi)] at h
      exact preCode_nx _ zs n L i q h ho
    · rw [List.getElem?_append_right (by rw [preCode_length]; omega), preCode_length] at h
      have := seqCode_nx y _ _ _ q h
      omega
  · simp only [altG, mem_foldSets, mem_preSets]
    constructor
    · rintro ((h | ⟨z, h, h'⟩) | h)
      · exact .inl h
      · exact .inr ⟨z, by simp [h], h'⟩
      · exact .inr ⟨y, by simp, h⟩
    · rintro (h | ⟨z, h, h'⟩)
      · exact .inl (.inl h)
      · rcases List.mem_append.1 h with h | h
        · exact .inl (.inr ⟨z, h, h'⟩)
        · simp at h; subst h; exact .inr h'

/-! ### repeated -/
theorem nx_step {g : PG} {kb ka : Nat} {S : S4 → Prop} (t : Tidy g kb ka S) {s : St} (h : NxS s.P) : NxS (g.step s).P := by
  intro i q hq ho
  simp only [PG.step] at hq
  by_cases hi : i < s.P.length
  · rw [List.getElem?_append_left hi] at hq; exact h i q hq ho
  · rw [List.getElem?_append_right (by omega)] at hq
    have := t.nx s.P.length s.L _ q hq ho
    omega
theorem nx_push {s : St} (h : NxS s.P) {i : I} (hi : i.op ≠ 0) : NxS (s.push i).P := by
  intro j q hq ho
  simp only [St.push] at hq
  by_cases hj : j < s.P.length
  · rw [List.getElem?_append_left hj] at hq; exact h j q hq ho
  · rw [List.getElem?_append_right (by omega)] at hq
    have := List.mem_of_getElem? hq
    simp at this; subst this; exact (hi ho).elim
theorem nx_setArg {P : List I} (h : NxS P) (v s : Nat) : NxS (setArg v P s) := by
  intro j q hq ho
  rw [setArg_get] at hq
  split at hq
  · cases hp : P[j]? with
    | none => rw [hp] at hq; cases hq
    | some i => rw [hp] at hq; simp at hq; subst hq; exact h j i hp ho
  · exact h j q hq ho
theorem nx_patchArgs (sp : List Nat) (v : Nat) : ∀ {P : List I}, NxS P → NxS (patchArgs P sp v) := by
  induction sp with
  | nil => intro P h; exact h
  | cons x sp ih => intro P h; exact ih (nx_setArg h v x)

theorem rep_tidy {g : PG} {kb ka : Nat} {S : S4 → Prop} (t : Tidy g kb ka S) (s : St) (k : Nat) :
    cnt 0 (g.rep s k).P = cnt 0 s.P + k * kb ∧ cnt 1 (g.rep s k).P = cnt 1 s.P + k * ka ∧ cnt 2 (g.rep s k).P = cnt 2 s.P + k * ka ∧ (NxS s.P → NxS (g.rep s k).P) ∧ ∀ x, x ∈ (g.rep s k).L ↔ x ∈ s.L ∨ (0 < k ∧ S x) := by
  induction k with
  | zero => simp [PG.rep]
  | succ k ih =>
    obtain ⟨h0, h1, h2, h3, h4⟩ := ih
    simp only [PG.rep]
    refine ⟨?_, ?_, ?_, fun h => nx_step t (h3 h), fun x => ?_⟩
    · simp only [PG.step, cnt_append, t.c0, h0, Nat.succ_mul]; omega
    · simp only [PG.step, cnt_append, t.c1, h1, Nat.succ_mul]; omega
    · simp only [PG.step, cnt_append, t.c2, h2, Nat.succ_mul]; omega
    · simp only [PG.step, t.mem, h4]
      constructor
      · rintro ((h | ⟨_, h⟩) | h)
        · exact .inl h
        · exact .inr ⟨by omega, h⟩
        · exact .inr ⟨by omega, h⟩
      · rintro (h | ⟨_, h⟩)
        · exact .inl (.inl h)
        · exact .inr h
theorem opt_tidy {g : PG} {kb ka : Nat} {S : S4 → Prop} (t : Tidy g kb ka S) (s : St) (k : Nat) :
    cnt 0 (g.opt s k).1.P = cnt 0 s.P + k * kb ∧ cnt 1 (g.opt s k).1.P = cnt 1 s.P + k * ka + k ∧ cnt 2 (g.opt s k).1.P = cnt 2 s.P + k * ka ∧ (NxS s.P → NxS (g.opt s k).1.P) ∧ ∀ x, x ∈ (g.opt s k).1.L ↔ x ∈ s.L ∨ (0 < k ∧ S x) := by
  induction k with
  | zero => simp [PG.opt]
  | succ k ih =>
    obtain ⟨h0, h1, h2, h3, h4⟩ := ih
    simp only [PG.opt]
    refine ⟨?_, ?_, ?_, fun h => nx_step t (nx_push (h3 h) (by simp)), fun x => ?_⟩
    · simp only [PG.step, St.push, cnt_append, cnt_one, t.c0, h0, Nat.succ_mul]; simp; omega
    · simp only [PG.step, St.push, cnt_append, cnt_one, t.c1, h1, Nat.succ_mul]; simp; omega
    · simp only [PG.step, St.push, cnt_append, cnt_one, t.c2, h2, Nat.succ_mul]; simp; omega
    · simp only [PG.step, St.push, t.mem, h4]
      constructor
      · rintro ((h | ⟨_, h⟩) | h)
        · exact .inl h
        · exact .inr ⟨by omega, h⟩
        · exact .inr ⟨by omega, h⟩
      · rintro (h | ⟨_, h⟩)
        · exact .inl (.inl h)
        · exact .inr h

/-- What the law's checks ask of the program. -/
structure KpSt (st : St) (nb ns nj : Nat) (S : S4 → Prop) : Prop where
  c0 : cnt 0 st.P = nb
  c1 : cnt 1 st.P = ns
  c2 : cnt 2 st.P = nj
  ok : st.Ok
  nx : NxS st.P
  mem : ∀ x, x ∈ st.L ↔ S x

theorem repeat_kp {g : PG} {c kb ka : Nat} {S : S4 → Prop} (hg : g.Good c) (t : Tidy g kb ka S) (least : Nat) (most : Int) (hm : most = -1 ∨ (least : Int) ≤ most) (copies : Nat) (hc : (copies : Int) = if most = -1 then (least : Int) + 1 else most) :
    KpSt (g.repeat ⟨[], []⟩ least most) (copies * kb) (copies * ka + (if most = -1 then 1 else (most - least).toNat)) (copies * ka + (if most = -1 then 1 else 0)) (fun x => 0 < copies ∧ S x) := by
  obtain ⟨r0, r1, r2, r3, r4⟩ := rep_tidy t ⟨[], []⟩ least
  have hn : NxS (⟨[], []⟩ : St).P := fun i q h => by simp at h
  have hok := repeat_ok (s := ⟨[], []⟩) (fun i hi => by cases hi) hg least most
  simp only [cnt_nil, Nat.zero_add, List.not_mem_nil, false_or] at r0 r1 r2 r4
  by_cases h : most = -1
  · subst h
    rw [if_pos rfl] at hc ⊢
    rw [if_pos rfl]
    have hcc : copies = least + 1 := by omega
    subst hcc
    have e : g.repeat ⟨[], []⟩ least (-1) = g.loopEnd (g.rep ⟨[], []⟩ least) := by simp [PG.repeat]
    rw [e] at hok ⊢
    refine ⟨?_, ?_, ?_, hok, ?_, fun x => ?_⟩
    · simp only [PG.loopEnd, cnt_setArg, PG.step, St.push, cnt_append, cnt_one, t.c0, r0, Nat.succ_mul]; simp
    · simp only [PG.loopEnd, cnt_setArg, PG.step, St.push, cnt_append, cnt_one, t.c1, r1, Nat.succ_mul]; simp; omega
    · simp only [PG.loopEnd, cnt_setArg, PG.step, St.push, cnt_append, cnt_one, t.c2, r2, Nat.succ_mul]; simp
    · simp only [PG.loopEnd]
      exact nx_setArg (nx_push (nx_step t (nx_push (r3 hn) (by simp))) (by simp)) _ _
    · simp only [PG.loopEnd, PG.step, St.push, t.mem, r4]
      constructor
      · rintro (⟨_, h⟩ | h)
        · exact ⟨by omega, h⟩
        · exact ⟨by omega, h⟩
      · rintro ⟨_, h⟩; exact .inr h
  · rw [if_neg h] at hc ⊢
    rw [if_neg h]
    obtain ⟨K, hK⟩ : ∃ K : Nat, (K : Int) = most - least := ⟨(most - least).toNat, by omega⟩
    have hKt : (most - (least : Int)).toNat = K := by omega
    have hcc : copies = least + K := by omega
    subst hcc
    have e : g.repeat ⟨[], []⟩ least most = g.optEnd (g.rep ⟨[], []⟩ least) K := by simp [PG.repeat, h, hKt]
    rw [e] at hok ⊢
    rw [hKt]
    obtain ⟨o0, o1, o2, o3, o4⟩ := opt_tidy t (g.rep ⟨[], []⟩ least) K
    refine ⟨?_, ?_, ?_, hok, ?_, fun x => ?_⟩
    · simp only [PG.optEnd, cnt_patchArgs, o0, r0, Nat.add_mul]
    · simp only [PG.optEnd, cnt_patchArgs, o1, r1, Nat.add_mul]
    · simp only [PG.optEnd, cnt_patchArgs, o2, r2, Nat.add_mul]; omega
    · exact nx_patchArgs _ _ (o3 (r3 hn))
    · simp only [PG.optEnd, o4, r4]
      constructor
      · rintro (⟨_, h⟩ | ⟨_, h⟩)
        · exact ⟨by omega, h⟩
        · exact ⟨by omega, h⟩
      · rintro ⟨h1, h⟩
        by_cases hl : 0 < least
        · exact .inl ⟨hl, h⟩
        · exact .inr ⟨by omega, h⟩
end Go.Proofs.Qxb6000456a
