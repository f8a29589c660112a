import Derived.Test.Qxb6600238aSrt2
set_option linter.unusedVariables false
set_option linter.unusedSimpArgs false
set_option linter.unusedSectionVars false
namespace Go.Proofs.Qxb6600238a
open Go.Sort
variable {α κ : Type} [Inhabited α] [DecidableEq κ]

/-- Up to c the blocks of 2 * bs, from c on the blocks of bs are sorted. -/
def BlkS (lt : α → α → Bool) (bs c : Nat) (d : Array α) : Prop :=
  (∀ i j, i < j → j < c → i / (2 * bs) = j / (2 * bs) → lt d[j]! d[i]! = false) ∧
  (∀ i j, c ≤ i → i < j → j < d.size → i / bs = j / bs → lt d[j]! d[i]! = false)

/-- The blocks of bs below c are sorted. -/
def BlkI (lt : α → α → Bool) (bs c : Nat) (d : Array α) : Prop := ∀ i j, i < j → j < c → i / bs = j / bs → lt d[j]! d[i]! = false

theorem div_block {bs i q : Nat} (hbs : 0 < bs) : i / bs = q ↔ q * bs ≤ i ∧ i < q * bs + bs := by
  constructor
  · rintro rfl
    have h1 := Nat.div_mul_le_self i bs
    have h2 := Nat.lt_mul_div_succ i hbs
    rw [Nat.mul_add, Nat.mul_one, Nat.mul_comm] at h2
    exact ⟨h1, h2⟩
  · rintro ⟨h1, h2⟩
    exact Nat.div_eq_of_lt_le h1 (by rw [Nat.add_mul, Nat.one_mul]; exact h2)

/-- One block of insertion sort more. -/
theorem BlkI.step {lt : α → α → Bool} {key : α → κ} {bs q c : Nat} {d d' : Array α} (hbs : 0 < bs) (h : BlkI lt bs (q * bs) d) (hc : c ≤ q * bs + bs) (hqc : q * bs ≤ c) (g : Good lt key (q * bs) c d d') : BlkI lt bs c d' := by
  intro i j hij hj e
  by_cases h1 : q * bs ≤ i
  · exact g.2.2 i j h1 hij hj
  · have hj' : j < q * bs := by
      have a1 := (div_block (i := i) hbs).1 rfl
      have a2 := (div_block (i := j) hbs).1 rfl
      rw [← e] at a2
      have : i / bs < q := by
        apply Nat.lt_of_not_le
        intro hh
        have := Nat.mul_le_mul_right bs hh
        omega
      have := Nat.mul_le_mul_right bs (show i / bs + 1 ≤ q from this)
      rw [Nat.add_mul, Nat.one_mul] at this
      omega
    rw [g.1.2.1 i (.inl (by omega)), g.1.2.1 j (.inl hj')]
    exact h i j hij hj' e

theorem BlkI.start {lt : α → α → Bool} {bs : Nat} {d : Array α} (h : BlkI lt bs d.size d) : BlkS lt bs 0 d := ⟨fun i j _ hj => by omega, fun i j _ hij hj e => h i j hij hj e⟩

/-- Before a merge: both halves are sorted. -/
theorem BlkS.halves {lt : α → α → Bool} {bs q c : Nat} {d : Array α} (hbs : 0 < bs) (h : BlkS lt bs (q * (2 * bs)) d) (hc : c ≤ q * (2 * bs) + 2 * bs) (hcs : c ≤ d.size) :
    SortedIn lt (q * (2 * bs)) (q * (2 * bs) + bs) d ∨ d.size < q * (2 * bs) + bs := by
  rcases Nat.lt_or_ge d.size (q * (2 * bs) + bs) with h' | h'
  · exact .inr h'
  · refine .inl fun i j hi hij hj => h.2 i j hi hij (by omega) ?_
    have e : q * (2 * bs) = (q * 2) * bs := by rw [Nat.mul_assoc]
    rw [(div_block (q := q * 2) hbs).2 ⟨by omega, by omega⟩, (div_block (q := q * 2) hbs).2 ⟨by omega, by omega⟩]
theorem BlkS.half1 {lt : α → α → Bool} {bs q : Nat} {d : Array α} (hbs : 0 < bs) (h : BlkS lt bs (q * (2 * bs)) d) (hs : q * (2 * bs) + bs ≤ d.size) : SortedIn lt (q * (2 * bs)) (q * (2 * bs) + bs) d := by
  intro i j hi hij hj
  have e : q * (2 * bs) = (q * 2) * bs := by rw [Nat.mul_assoc]
  exact h.2 i j hi hij (by omega) (by rw [(div_block (q := q * 2) hbs).2 ⟨by omega, by omega⟩, (div_block (q := q * 2) hbs).2 ⟨by omega, by omega⟩])
theorem BlkS.half2 {lt : α → α → Bool} {bs q c : Nat} {d : Array α} (hbs : 0 < bs) (h : BlkS lt bs (q * (2 * bs)) d) (hc : c ≤ q * (2 * bs) + 2 * bs) (hs : c ≤ d.size) : SortedIn lt (q * (2 * bs) + bs) c d := by
  intro i j hi hij hj
  have e : q * (2 * bs) = (q * 2) * bs := by rw [Nat.mul_assoc]
  have e2 : (q * 2 + 1) * bs = q * 2 * bs + bs := by rw [Nat.add_mul, Nat.one_mul]
  exact h.2 i j (by omega) hij (by omega) (by rw [(div_block (q := q * 2 + 1) hbs).2 ⟨by omega, by omega⟩, (div_block (q := q * 2 + 1) hbs).2 ⟨by omega, by omega⟩])
theorem BlkS.all {lt : α → α → Bool} {bs q c : Nat} {d : Array α} (hbs : 0 < bs) (h : BlkS lt bs (q * (2 * bs)) d) (hc : c ≤ q * (2 * bs) + bs) (hs : c ≤ d.size) : SortedIn lt (q * (2 * bs)) c d := by
  intro i j hi hij hj
  have e : q * (2 * bs) = (q * 2) * bs := by rw [Nat.mul_assoc]
  exact h.2 i j hi hij (by omega) (by rw [(div_block (q := q * 2) hbs).2 ⟨by omega, by omega⟩, (div_block (q := q * 2) hbs).2 ⟨by omega, by omega⟩])

/-- Behind a merge of one whole pair of blocks. -/
theorem BlkS.step {lt : α → α → Bool} {key : α → κ} {bs q c : Nat} {d d' : Array α} (hbs : 0 < bs) (h : BlkS lt bs (q * (2 * bs)) d) (hc : c ≤ q * (2 * bs) + 2 * bs) (hqc : q * (2 * bs) ≤ c) (g : Good lt key (q * (2 * bs)) c d d') : BlkS lt bs c d' := by
  have hI : BlkI lt (2 * bs) (q * (2 * bs)) d := h.1
  refine ⟨BlkI.step (by omega) hI hc hqc g, ?_⟩
  intro i j hi hij hj e
  rw [g.1.2.1 i (.inr hi), g.1.2.1 j (.inr (by omega))]
  exact h.2 i j (by omega) hij (by rw [← g.1.1]; exact hj) e

theorem BlkS.done {lt : α → α → Bool} {bs : Nat} {d : Array α} (h : BlkS lt bs d.size d) : BlkS lt (2 * bs) 0 d := ⟨fun i j _ hj => by omega, fun i j _ hij hj e => h.1 i j hij hj e⟩
theorem BlkS.sorted {lt : α → α → Bool} {bs : Nat} {d : Array α} (h : BlkS lt bs 0 d) (hbs : d.size ≤ bs) : SortedIn lt 0 d.size d := by
  intro i j hi hij hj
  exact h.2 i j (by omega) hij hj (by rw [Nat.div_eq_of_lt (by omega), Nat.div_eq_of_lt (by omega)])
end Go.Proofs.Qxb6600238a
