import Derived.KernelRfl
namespace Go.Proofs.Qxb6000456a
set_option linter.unusedVariables false

/-- One instruction: op 0 byte, 1 split, 2 jump, 3 match. -/
structure I where
  op : Nat
  arg : Nat
  next : Nat

/-- One step that reads nothing. -/
def eps (P : List I) (p q : Nat) : Prop :=
  ∃ i, P[p]? = some i ∧ ((i.op = 1 ∧ (q = i.arg ∨ q = i.next)) ∨ (i.op = 2 ∧ q = i.next))

/-- What is met from p without reading: the least set. -/
def epsStar (P : List I) (p q : Nat) : Prop :=
  ∀ C : Nat → Prop, C p → (∀ a b, C a → eps P a b → C b) → C q

theorem epsStar.refl (P : List I) (p : Nat) : epsStar P p p := fun _ h _ => h
theorem epsStar.step {P : List I} {p a b : Nat} (h : epsStar P p a) (e : eps P a b) : epsStar P p b := fun C h0 hs => hs a b (h C h0 hs) e

/-- Acceptance from p on u: the least relation. 'has k c': set k holds byte c. -/
structure Rules (P : List I) (has : Nat → UInt8 → Bool) (C : Nat → List UInt8 → Prop) : Prop where
  mat : ∀ p i, P[p]? = some i → i.op = 3 → C p []
  byte : ∀ p i c u, P[p]? = some i → i.op = 0 → has i.arg c = true → C i.next u → C p (c :: u)
  eps : ∀ p q u, eps P p q → C q u → C p u

def Acc (P : List I) (has : Nat → UInt8 → Bool) (p : Nat) (u : List UInt8) : Prop :=
  ∀ C : Nat → List UInt8 → Prop, Rules P has C → C p u

theorem Acc.rules (P : List I) (has : Nat → UInt8 → Bool) : Rules P has (Acc P has) :=
  ⟨fun p i h1 h2 C R => R.mat p i h1 h2, fun p i c u h1 h2 h3 h4 C R => R.byte p i c u h1 h2 h3 (h4 C R), fun p q u h1 h2 C R => R.eps p q u h1 (h2 C R)⟩

/-- Induction with the fact itself carried along. -/
theorem Acc.ind {P : List I} {has : Nat → UInt8 → Bool} (C : Nat → List UInt8 → Prop)
    (mat : ∀ p i, P[p]? = some i → i.op = 3 → C p [])
    (byte : ∀ p i c u, P[p]? = some i → i.op = 0 → has i.arg c = true → Acc P has i.next u → C i.next u → C p (c :: u))
    (ep : ∀ p q u, Go.Proofs.Qxb6000456a.eps P p q → Acc P has q u → C q u → C p u) {p : Nat} {u : List UInt8} (h : Acc P has p u) : C p u := by
  have R : Rules P has (fun p u => Acc P has p u ∧ C p u) := by
    refine ⟨fun p i h1 h2 => ⟨(Acc.rules P has).mat p i h1 h2, mat p i h1 h2⟩, fun p i c u h1 h2 h3 h4 => ⟨(Acc.rules P has).byte p i c u h1 h2 h3 h4.1, byte p i c u h1 h2 h3 h4.1 h4.2⟩,
      fun p q u h1 h2 => ⟨(Acc.rules P has).eps p q u h1 h2.1, ep p q u h1 h2.1 h2.2⟩⟩
  exact (h _ R).2

/-- A set of places closed under the steps that read nothing. -/
def Closed (P : List I) (D : List Nat) : Prop := ∀ a b, a ∈ D → eps P a b → b ∈ D

/-- One reading step on sets: what the matcher's round does. 'E': the set behind byte c. -/
structure Stepped (P : List I) (has : Nat → UInt8 → Bool) (c : UInt8) (D E : List Nat) : Prop where
  closed : Closed P E
  got : ∀ p i, p ∈ D → P[p]? = some i → i.op = 0 → has i.arg c = true → i.next ∈ E
  only : ∀ q ∈ E, ∃ p i, p ∈ D ∧ P[p]? = some i ∧ i.op = 0 ∧ has i.arg c = true ∧ epsStar P i.next q

theorem Acc.back {P : List I} {has : Nat → UInt8 → Bool} {p q : Nat} {u : List UInt8} (h : epsStar P p q) (a : Acc P has q u) : Acc P has p u := by
  have := h (fun x => Acc P has x u → Acc P has p u) (fun h => h) (fun a b ha e hb => ha ((Acc.rules P has).eps a b u e hb))
  exact this a

/-- The matcher's loop: D is the set behind the bytes read; u is what is left. -/
structure Track (P : List I) (has : Nat → UInt8 → Bool) (s : List UInt8) (D : List Nat) (u : List UInt8) : Prop where
  closed : Closed P D
  sound : ∀ q ∈ D, Acc P has q u → Acc P has 0 s
  full : Acc P has 0 s → ∃ q ∈ D, Acc P has q u

theorem Track.start {P : List I} {has : Nat → UInt8 → Bool} {s : List UInt8} {D : List Nat} (hc : Closed P D) (h0 : 0 ∈ D) (ho : ∀ q ∈ D, epsStar P 0 q) : Track P has s D s :=
  ⟨hc, fun q hq a => Acc.back (ho q hq) a, fun a => ⟨0, h0, a⟩⟩

theorem Track.step {P : List I} {has : Nat → UInt8 → Bool} {s : List UInt8} {D E : List Nat} {c : UInt8} {u : List UInt8} (h : Track P has s D (c :: u)) (hs : Stepped P has c D E) : Track P has s E u := by
  refine ⟨hs.closed, fun q hq a => ?_, fun a => ?_⟩
  · obtain ⟨p, i, hp, hi, ho, hh, he⟩ := hs.only q hq
    exact h.sound p hp ((Acc.rules P has).byte p i c u hi ho hh (Acc.back he a))
  · obtain ⟨q, hq, aq⟩ := h.full a
    have key : ∀ p v, Acc P has p v → p ∈ D → v = c :: u → ∃ q ∈ E, Acc P has q u := by
      intro p v av
      refine Acc.ind (C := fun p v => p ∈ D → v = c :: u → ∃ q ∈ E, Acc P has q u) ?_ ?_ ?_ av
      · intro p i _ _ _ e; cases e
      · intro p i c' u' h1 h2 h3 h4 _ hp e
        cases e
        exact ⟨i.next, hs.got p i hp h1 h2 h3, h4⟩
      · intro p q v he _ ih hp e
        exact ih (h.closed p q hp he) e
    exact key q _ aq hq rfl

theorem Track.empty {P : List I} {has : Nat → UInt8 → Bool} {s : List UInt8} {u : List UInt8} (h : Track P has s [] u) : ¬ Acc P has 0 s := fun a => by
  obtain ⟨q, hq, _⟩ := h.full a
  cases hq

theorem Track.done {P : List I} {has : Nat → UInt8 → Bool} {s : List UInt8} {D : List Nat} (h : Track P has s D []) : Acc P has 0 s ↔ ∃ p i, p ∈ D ∧ P[p]? = some i ∧ i.op = 3 := by
  constructor
  · intro a
    obtain ⟨q, hq, aq⟩ := h.full a
    have key : ∀ p v, Acc P has p v → p ∈ D → v = [] → ∃ p i, p ∈ D ∧ P[p]? = some i ∧ i.op = 3 := by
      intro p v av
      refine Acc.ind (C := fun p v => p ∈ D → v = [] → ∃ p i, p ∈ D ∧ P[p]? = some i ∧ i.op = 3) ?_ ?_ ?_ av
      · intro p i h1 h2 hp _; exact ⟨p, i, hp, h1, h2⟩
      · intro p i c' u' h1 h2 h3 h4 _ hp e; cases e
      · intro p q v he _ ih hp e
        exact ih (h.closed p q hp he) e
    exact key q _ aq hq rfl
  · rintro ⟨p, i, hp, h1, h2⟩
    exact h.sound p hp ((Acc.rules P has).mat p i h1 h2)

theorem Stepped.start (P : List I) (has : Nat → UInt8 → Bool) (c : UInt8) : Stepped P has c [] [] := by
  refine ⟨fun a b h => ?_, fun p i h => ?_, fun q h => ?_⟩ <;> cases h

theorem Stepped.miss {P : List I} {has : Nat → UInt8 → Bool} {c : UInt8} {D E : List Nat} {x : Nat} {i : I} (h : Stepped P has c D E) (hi : P[x]? = some i) (hm : ¬ (i.op = 0 ∧ has i.arg c = true)) : Stepped P has c (D ++ [x]) E := by
  refine ⟨h.closed, fun p j hp hj h0 hh => ?_, fun q hq => ?_⟩
  · rcases List.mem_append.1 hp with hp | hp
    · exact h.got p j hp hj h0 hh
    · simp at hp
      subst hp
      rw [hi] at hj
      cases hj
      exact (hm ⟨h0, hh⟩).elim
  · obtain ⟨p, j, hp, r⟩ := h.only q hq
    exact ⟨p, j, by simp [hp], r⟩

theorem Stepped.hit {P : List I} {has : Nat → UInt8 → Bool} {c : UInt8} {D E E' : List Nat} {x : Nat} {i : I} (h : Stepped P has c D E) (hi : P[x]? = some i) (h0 : i.op = 0) (hh : has i.arg c = true)
    (hc : Closed P E') (hn : i.next ∈ E') (hsub : ∀ q ∈ E, q ∈ E') (ho : ∀ q ∈ E', q ∈ E ∨ epsStar P i.next q) : Stepped P has c (D ++ [x]) E' := by
  refine ⟨hc, fun p j hp hj h0 hh => ?_, fun q hq => ?_⟩
  · rcases List.mem_append.1 hp with hp | hp
    · exact hsub _ (h.got p j hp hj h0 hh)
    · simp at hp
      subst hp
      rw [hi] at hj
      cases hj
      exact hn
  · rcases ho q hq with hq | hq
    · obtain ⟨p, j, hp, r⟩ := h.only q hq
      exact ⟨p, j, by simp [hp], r⟩
    · exact ⟨x, i, by simp, hi, h0, hh, hq⟩

theorem Track.fin {P : List I} {has : Nat → UInt8 → Bool} {s : List UInt8} {D : List Nat} {u : List UInt8} (h : Track P has s D u) (hu : u = [] ∨ D = []) : Acc P has 0 s ↔ ∃ p i, p ∈ D ∧ P[p]? = some i ∧ i.op = 3 := by
  rcases hu with rfl | rfl
  · exact h.done
  · exact ⟨fun a => (h.empty a).elim, fun ⟨p, i, hp, _⟩ => by cases hp⟩

/-! ### follow: the stack S (its top is its last), the set D, begun at D0 and pc -/
structure Fol (P : List I) (D0 : List Nat) (pc : Nat) (D S : List Nat) : Prop where
  old : ∀ x ∈ D0, x ∈ D
  top : pc ∈ D ∨ pc ∈ S
  only : ∀ x ∈ D, x ∈ D0 ∨ epsStar P pc x
  stk : ∀ x ∈ S, epsStar P pc x
  next : ∀ a b, a ∈ D → eps P a b → b ∈ D ∨ b ∈ S

theorem Fol.start {P : List I} {D0 : List Nat} {pc : Nat} (hc : Closed P D0) : Fol P D0 pc D0 [pc] :=
  ⟨fun x h => h, .inr (by simp), fun x h => .inl h, fun x h => by simp at h; subst h; exact epsStar.refl P _, fun a b ha e => .inl (hc a b ha e)⟩

/-- The top is a member already. -/
theorem Fol.skip {P : List I} {D0 : List Nat} {pc x : Nat} {D S : List Nat} (h : Fol P D0 pc D (S ++ [x])) (hx : x ∈ D) : Fol P D0 pc D S := by
  refine ⟨h.old, ?_, h.only, fun y hy => h.stk y (by simp [hy]), fun a b ha e => ?_⟩
  · rcases h.top with h1 | h1
    · exact .inl h1
    · simp at h1
      rcases h1 with h1 | rfl
      · exact .inr h1
      · exact .inl hx
  · rcases h.next a b ha e with h1 | h1
    · exact .inl h1
    · simp at h1
      rcases h1 with h1 | rfl
      · exact .inr h1
      · exact .inl hx

/-- The top is new; T: all that it goes on to. -/
theorem Fol.take {P : List I} {D0 : List Nat} {pc x : Nat} {D S T : List Nat} (h : Fol P D0 pc D (S ++ [x])) (hT : ∀ b, eps P x b → b ∈ T) (hT' : ∀ b ∈ T, eps P x b) : Fol P D0 pc (D ++ [x]) (S ++ T) := by
  have hx : epsStar P pc x := h.stk x (by simp)
  refine ⟨fun y hy => by simp [h.old y hy], ?_, ?_, ?_, ?_⟩
  · rcases h.top with h1 | h1
    · exact .inl (by simp [h1])
    · simp at h1
      rcases h1 with h1 | rfl
      · exact .inr (by simp [h1])
      · exact .inl (by simp)
  · intro y hy
    simp at hy
    rcases hy with hy | rfl
    · exact h.only y hy
    · exact .inr hx
  · intro y hy
    simp at hy
    rcases hy with hy | hy
    · exact h.stk y (by simp [hy])
    · exact hx.step (hT' y hy)
  · intro a b ha e
    simp at ha
    rcases ha with ha | rfl
    · rcases h.next a b ha e with h1 | h1
      · exact .inl (by simp [h1])
      · simp at h1
        rcases h1 with h1 | rfl
        · exact .inr (by simp [h1])
        · exact .inl (by simp)
    · exact .inr (by simp [hT b e])

theorem Fol.done {P : List I} {D0 : List Nat} {pc : Nat} {D : List Nat} (h : Fol P D0 pc D []) : Closed P D ∧ pc ∈ D ∧ (∀ x ∈ D0, x ∈ D) ∧ (∀ x ∈ D, x ∈ D0 ∨ epsStar P pc x) :=
  ⟨fun a b ha e => (h.next a b ha e).elim id (fun h => by cases h), h.top.elim id (fun h => by cases h), h.old, h.only⟩
end Go.Proofs.Qxb6000456a
