import Derived.Test.Qxb6000456aGen
namespace Go.Proofs.Qxb6000456a
open Go.RowKit
set_option linter.unusedVariables false
set_option linter.unusedSimpArgs false

/-- Acceptance within n steps. -/
def AccN (Q : List I) (hs : Nat → UInt8 → Bool) : Nat → Nat → List UInt8 → Prop
  | 0, _, _ => False
  | n + 1, p, u => ∃ i, Q[p]? = some i ∧ ((i.op = 3 ∧ u = []) ∨ (i.op = 0 ∧ ∃ c u', u = c :: u' ∧ hs i.arg c = true ∧ AccN Q hs n i.next u') ∨
      (i.op = 1 ∧ (AccN Q hs n i.arg u ∨ AccN Q hs n i.next u)) ∨ (i.op = 2 ∧ AccN Q hs n i.next u))

theorem AccN.acc {Q : List I} {hs : Nat → UInt8 → Bool} : ∀ (n p : Nat) (u : List UInt8), AccN Q hs n p u → Acc Q hs p u := by
  intro n
  induction n with
  | zero => intro p u h; exact h.elim
  | succ n ih =>
    rintro p u ⟨i, hi, h⟩
    have R := Acc.rules Q hs
    rcases h with ⟨h1, rfl⟩ | ⟨h1, c, u', rfl, h2, h3⟩ | ⟨h1, h2⟩ | ⟨h1, h2⟩
    · exact R.mat p i hi h1
    · exact R.byte p i c u' hi h1 h2 (ih _ _ h3)
    · rcases h2 with h2 | h2
      · exact R.eps p i.arg u ⟨i, hi, .inl ⟨h1, .inl rfl⟩⟩ (ih _ _ h2)
      · exact R.eps p i.next u ⟨i, hi, .inl ⟨h1, .inr rfl⟩⟩ (ih _ _ h2)
    · exact R.eps p i.next u ⟨i, hi, .inr ⟨h1, rfl⟩⟩ (ih _ _ h2)

theorem Acc.fuel {Q : List I} {hs : Nat → UInt8 → Bool} {p : Nat} {u : List UInt8} (h : Acc Q hs p u) : ∃ n, AccN Q hs n p u := by
  refine Acc.ind (C := fun p u => ∃ n, AccN Q hs n p u) ?_ ?_ ?_ h
  · intro p i h1 h2; exact ⟨1, i, h1, .inl ⟨h2, rfl⟩⟩
  · rintro p i c u h1 h2 h3 _ ⟨n, hn⟩; exact ⟨n + 1, i, h1, .inr (.inl ⟨h2, c, u, rfl, h3, hn⟩)⟩
  · rintro p q u ⟨i, hi, h⟩ _ ⟨n, hn⟩
    rcases h with ⟨h1, rfl | rfl⟩ | ⟨h1, rfl⟩
    · exact ⟨n + 1, i, hi, .inr (.inr (.inl ⟨h1, .inl hn⟩))⟩
    · exact ⟨n + 1, i, hi, .inr (.inr (.inl ⟨h1, .inr hn⟩))⟩
    · exact ⟨n + 1, i, hi, .inr (.inr (.inr ⟨h1, hn⟩))⟩

section
variable {Q : List I} {hs : Nat → UInt8 → Bool} {p : Nat} {u : List UInt8}
theorem AccN.byte {k t n : Nat} (hi : Q[p]? = some ⟨0, k, t⟩) (h : AccN Q hs n p u) : ∃ m c u', n = m + 1 ∧ u = c :: u' ∧ hs k c = true ∧ AccN Q hs m t u' := by
  cases n with
  | zero => exact h.elim
  | succ n =>
    obtain ⟨i, hi', h⟩ := h
    rw [hi] at hi'
    cases hi'
    rcases h with ⟨h1, _⟩ | ⟨_, c, u', h1, h2, h3⟩ | ⟨h1, _⟩ | ⟨h1, _⟩
    · cases h1
    · exact ⟨n, c, u', rfl, h1, h2, h3⟩
    · cases h1
    · cases h1
theorem AccN.split {a t n : Nat} (hi : Q[p]? = some ⟨1, a, t⟩) (h : AccN Q hs n p u) : ∃ m, n = m + 1 ∧ (AccN Q hs m a u ∨ AccN Q hs m t u) := by
  cases n with
  | zero => exact h.elim
  | succ n =>
    obtain ⟨i, hi', h⟩ := h
    rw [hi] at hi'
    cases hi'
    rcases h with ⟨h1, _⟩ | ⟨h1, _⟩ | ⟨_, h1⟩ | ⟨h1, _⟩
    · cases h1
    · cases h1
    · exact ⟨n, rfl, h1⟩
    · cases h1
theorem AccN.jump {a t n : Nat} (hi : Q[p]? = some ⟨2, a, t⟩) (h : AccN Q hs n p u) : ∃ m, n = m + 1 ∧ AccN Q hs m t u := by
  cases n with
  | zero => exact h.elim
  | succ n =>
    obtain ⟨i, hi', h⟩ := h
    rw [hi] at hi'
    cases hi'
    rcases h with ⟨h1, _⟩ | ⟨h1, _⟩ | ⟨h1, _⟩ | ⟨_, h1⟩
    · cases h1
    · cases h1
    · cases h1
    · exact ⟨n, rfl, h1⟩
theorem AccN.mat {a t n : Nat} (hi : Q[p]? = some ⟨3, a, t⟩) (h : AccN Q hs n p u) : u = [] := by
  cases n with
  | zero => exact h.elim
  | succ n =>
    obtain ⟨i, hi', h⟩ := h
    rw [hi] at hi'
    cases hi'
    rcases h with ⟨_, h1⟩ | ⟨h1, _⟩ | ⟨h1, _⟩ | ⟨h1, _⟩
    · exact h1
    · cases h1
    · cases h1
    · cases h1
theorem Acc.byte' {k t : Nat} {c : UInt8} (hi : Q[p]? = some ⟨0, k, t⟩) (hc : hs k c = true) (h : Acc Q hs t u) : Acc Q hs p (c :: u) := (Acc.rules Q hs).byte p _ c u hi rfl hc h
theorem Acc.splitL {a t : Nat} (hi : Q[p]? = some ⟨1, a, t⟩) (h : Acc Q hs a u) : Acc Q hs p u := (Acc.rules Q hs).eps p a u ⟨_, hi, .inl ⟨rfl, .inl rfl⟩⟩ h
theorem Acc.splitR {a t : Nat} (hi : Q[p]? = some ⟨1, a, t⟩) (h : Acc Q hs t u) : Acc Q hs p u := (Acc.rules Q hs).eps p t u ⟨_, hi, .inl ⟨rfl, .inr rfl⟩⟩ h
theorem Acc.jump' {a t : Nat} (hi : Q[p]? = some ⟨2, a, t⟩) (h : Acc Q hs t u) : Acc Q hs p u := (Acc.rules Q hs).eps p t u ⟨_, hi, .inr ⟨rfl, rfl⟩⟩ h
theorem Acc.mat' {a t : Nat} (hi : Q[p]? = some ⟨3, a, t⟩) : Acc Q hs p [] := (Acc.rules Q hs).mat p _ hi rfl
end

/-- Code 'cd' lies in Q from a on. -/
def Lies (Q : List I) (a : Nat) (cd : List I) : Prop := ∀ j i, cd[j]? = some i → Q[a + j]? = some i

/-- Part g (of c instructions) recognises the language R. -/
structure Recog (g : PG) (c : Nat) (R : List UInt8 → Prop) : Prop where
  sized : g.Sized c
  grow : ∀ L, L <+: g.sets L
  fwd : ∀ (Q : List I) (Lf : List S4) (a : Nat) (L : List S4), g.sets L <+: Lf → Lies Q a (g.code a L) → ∀ n u, AccN Q (hasOf Lf) n a u → ∃ u1 u2 n', n' ≤ n ∧ u = u1 ++ u2 ∧ R u1 ∧ AccN Q (hasOf Lf) n' (a + c) u2
  bwd : ∀ (Q : List I) (Lf : List S4) (a : Nat) (L : List S4), g.sets L <+: Lf → Lies Q a (g.code a L) → ∀ u1 u2, R u1 → Acc Q (hasOf Lf) (a + c) u2 → Acc Q (hasOf Lf) a (u1 ++ u2)

/-- r words of R behind one another. -/
def Pow (R : List UInt8 → Prop) : Nat → List UInt8 → Prop
  | 0, u => u = []
  | r + 1, u => ∃ u1 u2, u = u1 ++ u2 ∧ R u1 ∧ Pow R r u2

theorem Pow.add {R : List UInt8 → Prop} {r q : Nat} {u v : List UInt8} (hu : Pow R r u) (hv : Pow R q v) : Pow R (r + q) (u ++ v) := by
  induction r generalizing u with
  | zero => cases hu; simpa using hv
  | succ r ih =>
    obtain ⟨u1, u2, rfl, h1, h2⟩ := hu
    rw [Nat.succ_add]
    exact ⟨u1, u2 ++ v, by simp, h1, ih h2⟩

/-! ### prefixes -/
theorem PG.rep_prefix {g : PG} (s : St) (k : Nat) : ∀ j, j ≤ k → (g.rep s j).P <+: (g.rep s k).P := by
  induction k with
  | zero => intro j hj; have : j = 0 := by omega
            subst this; exact List.prefix_refl _
  | succ k ih =>
    intro j hj
    rcases Nat.lt_or_ge j (k + 1) with h | h
    · exact (ih j (by omega)).trans (List.prefix_append _ _)
    · have : j = k + 1 := by omega
      subst this; exact List.prefix_refl _
theorem PG.rep_sets_prefix {g : PG} (hg : ∀ L, L <+: g.sets L) (s : St) (k : Nat) : ∀ j, j ≤ k → (g.rep s j).L <+: (g.rep s k).L := by
  induction k with
  | zero => intro j hj; have : j = 0 := by omega
            subst this; exact List.prefix_refl _
  | succ k ih =>
    intro j hj
    rcases Nat.lt_or_ge j (k + 1) with h | h
    · exact (ih j (by omega)).trans (hg _)
    · have : j = k + 1 := by omega
      subst this; exact List.prefix_refl _

theorem lies_of_prefix {A B Q : List I} (h : A <+: Q) (cd : List I) (e : A = B ++ cd) : Lies Q B.length cd := by
  intro j i hj
  obtain ⟨t, rfl⟩ := h
  subst e
  have hl := (List.getElem?_eq_some_iff.1 hj).1
  rw [List.getElem?_append_left (by simp; omega), List.getElem?_append_right (by omega)]
  simpa using hj

/-- k copies: from the first's place to behind the last. -/
theorem rep_fwd {g : PG} {c : Nat} {R : List UInt8 → Prop} (rg : Recog g c R) (s : St) (Q : List I) (Lf : List S4) : ∀ (k : Nat), (g.rep s k).P <+: Q → (g.rep s k).L <+: Lf →
    ∀ n u, AccN Q (hasOf Lf) n s.P.length u → ∃ u1 u2 n', n' ≤ n ∧ u = u1 ++ u2 ∧ Pow R k u1 ∧ AccN Q (hasOf Lf) n' (g.rep s k).P.length u2 := by
  intro k
  induction k with
  | zero => intro _ _ n u h; exact ⟨[], u, n, Nat.le_refl _, rfl, rfl, h⟩
  | succ k ih =>
    intro hP hL n u h
    have hP' := (PG.rep_prefix (g := g) s (k + 1) k (by omega)).trans hP
    have hL' := (PG.rep_sets_prefix rg.grow s (k + 1) k (by omega)).trans hL
    obtain ⟨u1, u2, n', hn', rfl, hp, h2⟩ := ih hP' hL' n u h
    obtain ⟨v1, v2, n2, hn2, rfl, hr, h3⟩ := rg.fwd Q Lf (g.rep s k).P.length (g.rep s k).L hL (lies_of_prefix hP _ rfl) n' u2 h2
    refine ⟨u1 ++ v1, v2, n2, by omega, by simp, ?_, ?_⟩
    · have hq : Pow R 1 v1 := ⟨v1, [], by simp, hr, rfl⟩
      exact Pow.add hp hq
    · rw [PG.rep, PG.step_length rg.sized]; exact h3

theorem rep_bwd {g : PG} {c : Nat} {R : List UInt8 → Prop} (rg : Recog g c R) (s : St) (Q : List I) (Lf : List S4) : ∀ (k : Nat), (g.rep s k).P <+: Q → (g.rep s k).L <+: Lf →
    ∀ u1 u2, Pow R k u1 → Acc Q (hasOf Lf) (g.rep s k).P.length u2 → Acc Q (hasOf Lf) s.P.length (u1 ++ u2) := by
  intro k
  induction k with
  | zero => intro _ _ u1 u2 h1 h2; cases h1; exact h2
  | succ k ih =>
    intro hP hL u1 u2 h1 h2
    have hP' := (PG.rep_prefix (g := g) s (k + 1) k (by omega)).trans hP
    have hL' := (PG.rep_sets_prefix rg.grow s (k + 1) k (by omega)).trans hL
    obtain ⟨v1, v2, rfl, hv1, hv2⟩ : ∃ v1 v2, u1 = v1 ++ v2 ∧ Pow R k v1 ∧ R v2 := by
      clear ih hP hL h2 hP' hL'
      induction k generalizing u1 with
      | zero =>
        obtain ⟨a, b, rfl, ha, hb⟩ := h1
        cases hb
        exact ⟨[], a, by simp, rfl, ha⟩
      | succ k ih =>
        obtain ⟨a, b, rfl, ha, hb⟩ := h1
        obtain ⟨v1, v2, rfl, h3, h4⟩ := ih b hb
        exact ⟨a ++ v1, v2, by simp, ⟨a, v1, rfl, ha, h3⟩, h4⟩
    rw [PG.rep, PG.step_length rg.sized] at h2
    have h3 := rg.bwd Q Lf (g.rep s k).P.length (g.rep s k).L hL (lies_of_prefix hP _ rfl) v2 u2 hv2 h2
    have := ih hP' hL' v1 (v2 ++ u2) hv1 h3
    simpa using this
end Go.Proofs.Qxb6000456a
