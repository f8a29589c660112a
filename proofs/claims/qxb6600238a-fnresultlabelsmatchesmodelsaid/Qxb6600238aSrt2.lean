import Derived.Test.Qxb6600238aSrt
set_option linter.unusedVariables false
set_option linter.unusedSimpArgs false
set_option linter.unusedSectionVars false
namespace Go.Proofs.Qxb6600238a
open Go.Sort
variable {α κ : Type} [Inhabited α] [DecidableEq κ]

theorem sorted_le {lt : α → α → Bool} (hS : SWO lt) {a b : Nat} {d : Array α} (h : SortedIn lt a b d) {i j : Nat} (h1 : a ≤ i) (h2 : i ≤ j) (h3 : j < b) : lt d[j]! d[i]! = false := by
  rcases Nat.lt_or_ge i j with h' | h'
  · exact h i j h1 h' h3
  · have : i = j := by omega
    subst this; exact hS.irrefl _
theorem lt_of_not {lt : α → α → Bool} (hS : SWO lt) {x y z : α} (h1 : lt x z = true) (h2 : lt x y = false) : lt y z = true := by
  cases h : lt y z with
  | true => rfl
  | false => rw [hS.ntrans x y z h2 h] at h1; cases h1
theorem lt_of_not' {lt : α → α → Bool} (hS : SWO lt) {x y z : α} (h1 : lt x z = true) (h2 : lt y z = false) : lt x y = true := by
  cases h : lt x y with
  | true => rfl
  | false => rw [hS.ntrans x y z h h2] at h1; cases h1

/-- What a merge leaves: a permutation in place, sorted, no two of one key out of their order. -/
def Good (lt : α → α → Bool) (key : α → κ) (a b : Nat) (d d' : Array α) : Prop :=
  PermIn a b d d' ∧ Stab key d.toList d'.toList ∧ SortedIn lt a b d'

theorem merge_left {lt : α → α → Bool} {key : α → κ} (hS : SWO lt) (hk : ∀ x y, lt x y = true → key x ≠ key y) (d : Array α) (a b i : Nat) (h1 : a + 1 ≤ i) (h2 : i ≤ b) (h3 : b ≤ d.size)
    (hB : SortedIn lt (a + 1) b d) (hi1 : i = a + 1 ∨ lt d[i - 1]! d[a]! = true) (hi2 : i = b ∨ lt d[i]! d[a]! = false) : Good lt key a b d (bubF (i - 1 - a) d a) := by
  have L1 : ∀ t, a + 1 ≤ t → t < i → lt d[t]! d[a]! = true := by
    intro t t1 t2
    rcases hi1 with e | e
    · omega
    · exact lt_of_not hS e (sorted_le hS hB t1 (by omega) (by omega))
  have L2 : ∀ t, i ≤ t → t < b → lt d[t]! d[a]! = false := by
    intro t t1 t2
    rcases hi2 with e | e
    · omega
    · exact hS.ntrans _ _ _ (sorted_le hS hB (by omega) t1 t2) e
  have R : Rot a (a + 1) i d (bubF (i - 1 - a) d a) := by
    have := bubF_rot (i - 1 - a) d a (by omega)
    rwa [show a + 1 + (i - 1 - a) = i by omega] at this
  refine ⟨permIn_mono d _ a i a b (Nat.le_refl _) h2 h3 (R.perm (by omega) h1 (by omega)), R.stab (by omega) h1 (by omega) key (fun p q p1 p2 q1 q2 => ?_), ?_⟩
  · have : p = a := by omega
    subst this
    exact (hk _ _ (L1 q q1 q2)).symm
  · intro p q p1 p2 q1
    rw [R.2 p, R.2 q]
    have e1 : a + 1 - a = 1 := by omega
    rw [e1]
    by_cases c1 : q < a + (i - (a + 1))
    · rw [if_pos (by omega), if_pos (by omega)]
      exact hB _ _ (by omega) (by omega) (by omega)
    · by_cases c2 : q < i
      · have hq : q - (i - (a + 1)) = a := by omega
        rw [if_neg (by omega), if_pos (by omega), if_pos (by omega), hq]
        exact hS.asymmA (L1 _ (by omega) (by omega))
      · rw [if_neg (show ¬ (a ≤ q ∧ q < a + (i - (a + 1))) by omega), if_neg (show ¬ (a + (i - (a + 1)) ≤ q ∧ q < i) by omega)]
        by_cases c3 : p < a + (i - (a + 1))
        · rw [if_pos (by omega)]
          exact hB _ _ (by omega) (by omega) (by omega)
        · by_cases c4 : p < i
          · have hp : p - (i - (a + 1)) = a := by omega
            rw [if_neg (by omega), if_pos (by omega), hp]
            exact L2 q (by omega) q1
          · rw [if_neg (by omega), if_neg (by omega)]
            exact hB _ _ (by omega) p2 q1

theorem merge_right {lt : α → α → Bool} {key : α → κ} (hS : SWO lt) (hk : ∀ x y, lt x y = true → key x ≠ key y) (d : Array α) (a m i : Nat) (h1 : a ≤ i) (h2 : i ≤ m) (h3 : m < d.size)
    (hA : SortedIn lt a m d) (hi1 : i = a ∨ lt d[m]! d[i - 1]! = false) (hi2 : i = m ∨ lt d[m]! d[i]! = true) : Good lt key a (m + 1) d (bubB (m - i) d m) := by
  have L1 : ∀ t, a ≤ t → t < i → lt d[m]! d[t]! = false := by
    intro t t1 t2
    rcases hi1 with e | e
    · omega
    · exact hS.ntrans _ _ _ e (sorted_le hS hA t1 (by omega) (by omega))
  have L2 : ∀ t, i ≤ t → t < m → lt d[m]! d[t]! = true := by
    intro t t1 t2
    rcases hi2 with e | e
    · omega
    · exact lt_of_not' hS e (sorted_le hS hA h1 t1 t2)
  have R : Rot i m (m + 1) d (bubB (m - i) d m) := by
    have := bubB_rot (m - i) d m (by omega) h3
    rwa [show m - (m - i) = i by omega] at this
  refine ⟨permIn_mono d _ i (m + 1) a (m + 1) h1 (Nat.le_refl _) h3 (R.perm h2 (by omega) h3), R.stab h2 (by omega) h3 key (fun p q p1 p2 q1 q2 => ?_), ?_⟩
  · have : q = m := by omega
    subst this
    exact (hk _ _ (L2 p p1 p2)).symm
  · intro p q p1 p2 q1
    rw [R.2 p, R.2 q]
    have e1 : m + 1 - m = 1 := by omega
    rw [e1]
    by_cases c1 : q < i
    · rw [if_neg (by omega), if_neg (by omega), if_neg (by omega), if_neg (by omega)]
      exact hA _ _ p1 p2 (by omega)
    · by_cases c2 : q < i + 1
      · have hq : q + (m - i) = m := by omega
        rw [if_pos (by omega), if_neg (by omega), if_neg (by omega), hq]
        exact L1 p p1 (by omega)
      · rw [if_neg (show ¬ (i ≤ q ∧ q < i + 1) by omega), if_pos (show i + 1 ≤ q ∧ q < m + 1 by omega)]
        by_cases c3 : p < i
        · rw [if_neg (by omega), if_neg (by omega)]
          exact hA _ _ p1 (by omega) (by omega)
        · by_cases c4 : p < i + 1
          · have hp : p + (m - i) = m := by omega
            rw [if_pos (by omega), hp]
            exact hS.asymmA (L2 _ (by omega) (by omega))
          · rw [if_neg (by omega), if_pos (by omega)]
            exact hA _ _ (by omega) (by omega) (by omega)

theorem rot_none (d : Array α) (s m e : Nat) (hsm : s ≤ m) (hme : m ≤ e) (h : ¬ (s < m ∧ m < e)) : Rot s m e d d := by
  refine ⟨rfl, fun t => ?_⟩
  repeat' split
  all_goals first | rfl | (congr 1; omega)

/-- What stands ahead of the two inner merges. -/
theorem merge_parts {lt : α → α → Bool} (d d1 : Array α) (a m b s e mid : Nat) (h1 : a ≤ s) (h2 : s ≤ m) (h3 : m ≤ e) (h4 : e ≤ b) (hmid : mid = s + (e - m)) (hA : SortedIn lt a m d) (hB : SortedIn lt m b d) (R : Rot s m e d d1) :
    SortedIn lt a s d1 ∧ SortedIn lt s mid d1 ∧ SortedIn lt mid e d1 ∧ SortedIn lt e b d1 := by
  refine ⟨?_, ?_, ?_, ?_⟩ <;> intro p q p1 p2 q1 <;> rw [R.2 p, R.2 q]
  · rw [if_neg (by omega), if_neg (by omega), if_neg (by omega), if_neg (by omega)]; exact hA _ _ p1 p2 (by omega)
  · rw [if_pos (by omega), if_pos (by omega)]; exact hB _ _ (by omega) (by omega) (by omega)
  · rw [if_neg (by omega), if_pos (by omega), if_neg (by omega), if_pos (by omega)]; exact hA _ _ (by omega) (by omega) (by omega)
  · rw [if_neg (by omega), if_neg (by omega), if_neg (by omega), if_neg (by omega)]; exact hB _ _ (by omega) p2 q1

theorem merge_gen {lt : α → α → Bool} {key : α → κ} (hS : SWO lt) (hk : ∀ x y, lt x y = true → key x ≠ key y) (d d1 d2 d3 : Array α) (a m b s e mid : Nat) (h1 : a ≤ s) (h2 : s ≤ m) (h3 : m ≤ e) (h4 : e ≤ b) (hb : b ≤ d.size) (hmid : mid = s + (e - m))
    (hA : SortedIn lt a m d) (hB : SortedIn lt m b d) (R : Rot s m e d d1)
    (c1 : s < m → m < e → lt d[e - 1]! d[s]! = true) (c2 : a < s → e < b → lt d[e]! d[s - 1]! = false)
    (gl : Good lt key a mid d1 d2) (gr : Good lt key mid b d2 d3) : Good lt key a b d d3 := by
  have hs1 : d1.size = d.size := R.1
  have hs2 : d2.size = d1.size := gl.1.1
  have X : ∀ p, a ≤ p → p < mid → ∀ q, mid ≤ q → q < b → lt d1[q]! d1[p]! = false := by
    intro p p1 p2 q q1 q2
    rw [R.2 p, R.2 q]
    by_cases cp : p < s
    · rw [if_neg (show ¬ (s ≤ p ∧ p < s + (e - m)) by omega), if_neg (show ¬ (s + (e - m) ≤ p ∧ p < e) by omega)]
      by_cases cq : q < e
      · rw [if_neg (by omega), if_pos (by omega)]
        exact hA _ _ p1 (by omega) (by omega)
      · rw [if_neg (by omega), if_neg (by omega)]
        have k := c2 (by omega) (by omega)
        exact hS.ntrans _ _ _ (hS.ntrans _ _ _ (sorted_le hS hB h3 (by omega) q2) k) (sorted_le hS hA p1 (by omega) (by omega))
    · rw [if_pos (show s ≤ p ∧ p < s + (e - m) by omega)]
      by_cases cq : q < e
      · rw [if_neg (by omega), if_pos (by omega)]
        have k := c1 (by omega) (by omega)
        apply hS.asymmA
        have k2 : lt d[p + (m - s)]! d[s]! = true := lt_of_not hS k (sorted_le hS hB (by omega) (by omega) (by omega))
        exact lt_of_not' hS k2 (sorted_le hS hA (by omega) (by omega) (by omega))
      · rw [if_neg (by omega), if_neg (by omega)]
        exact hB _ _ (by omega) (by omega) q2
  have X2 : ∀ p, a ≤ p → p < mid → ∀ q, mid ≤ q → q < b → lt d2[q]! d2[p]! = false := by
    intro p p1 p2 q q1 q2
    rw [gl.1.2.1 q (.inr q1)]
    exact permIn_all d1 d2 a mid (fun y => lt d1[q]! y = false) (by omega) gl.1 (fun i i1 i2 => X i i1 i2 q q1 q2) p p1 p2
  have X3 : ∀ p, a ≤ p → p < mid → ∀ q, mid ≤ q → q < b → lt d3[q]! d3[p]! = false := by
    intro p p1 p2 q q1 q2
    rw [gr.1.2.1 p (.inl p2)]
    exact permIn_all d2 d3 mid b (fun y => lt y d2[p]! = false) (by omega) gr.1 (fun i i1 i2 => X2 p p1 p2 i i1 i2) q q1 q2
  refine ⟨?_, ?_, ?_⟩
  · refine permIn_trans d d1 d3 a b (permIn_mono d d1 s e a b h1 h4 hb (R.perm h2 h3 (by omega))) ?_
    refine permIn_trans d1 d2 d3 a b (permIn_mono d1 d2 a mid a b (Nat.le_refl _) (by omega) (by omega) gl.1) ?_
    exact permIn_mono d2 d3 mid b a b (by omega) (Nat.le_refl _) (by omega) gr.1
  · refine (R.stab h2 h3 (by omega) key (fun p q p1 p2 q1 q2 => ?_)).trans (gl.2.1.trans gr.2.1)
    have k := c1 (by omega) (by omega)
    have k2 : lt d[q]! d[s]! = true := lt_of_not hS k (sorted_le hS hB q1 (by omega) (by omega))
    have k3 : lt d[q]! d[p]! = true := lt_of_not' hS k2 (sorted_le hS hA (by omega) (by omega) p2)
    exact (hk _ _ k3).symm
  · intro p q p1 p2 q1
    by_cases cq : q < mid
    · rw [gr.1.2.1 p (.inl (by omega)), gr.1.2.1 q (.inl cq)]
      exact gl.2.2 p q p1 p2 cq
    · by_cases cp : p < mid
      · exact X3 p p1 cp q (by omega) q1
      · exact gr.2.2 p q (by omega) p2 q1

theorem good_self {lt : α → α → Bool} {key : α → κ} (d : Array α) (a b : Nat) (h : SortedIn lt a b d) : Good lt key a b d d := ⟨permIn_refl d a b, Stab.refl _ _, h⟩

/-! ### the insertion sort keeps those of one key in their order -/
theorem swp_stab {key : α → κ} (d : Array α) (j : Nat) (hj : j + 1 < d.size) (h : key d[j + 1]! ≠ key d[j]!) : Stab key d.toList (swp d (j + 1) j).toList := by
  have R : Rot j (j + 1) (j + 2) d (swp d (j + 1) j) := by
    refine ⟨size_swp _ _ _, fun t => ?_⟩
    rw [swp_get d (by omega) (by omega)]
    repeat' split
    all_goals first | (exfalso; omega) | rfl | (congr 1; omega)
  refine R.stab (by omega) (by omega) (by omega) key (fun p q p1 p2 q1 q2 => ?_)
  have e1 : p = j := by omega
  have e2 : q = j + 1 := by omega
  subst e1; subst e2
  exact h.symm
theorem insInner_stab {lt : α → α → Bool} {key : α → κ} (hk : ∀ x y, lt x y = true → key x ≠ key y) (a : Nat) : ∀ (j : Nat) (d : Array α), j < d.size → Stab key d.toList (insInner lt a j d).toList ∧ (insInner lt a j d).size = d.size
  | 0, d, h => ⟨Stab.refl _ _, rfl⟩
  | j + 1, d, h => by
    unfold insInner
    split
    · rename_i hc
      simp only [Bool.and_eq_true] at hc
      have ih := insInner_stab hk a j (swp d (j + 1) j) (by rw [size_swp]; omega)
      exact ⟨(swp_stab d j h (hk _ _ hc.2)).trans ih.1, ih.2.trans (size_swp _ _ _)⟩
    · exact ⟨Stab.refl _ _, rfl⟩
theorem insOuter_stab {lt : α → α → Bool} {key : α → κ} (hk : ∀ x y, lt x y = true → key x ≠ key y) (a b : Nat) : ∀ (n i : Nat) (d : Array α), b - i ≤ n → b ≤ d.size → Stab key d.toList (insOuter lt a b i d).toList := by
  intro n
  induction n with
  | zero =>
    intro i d h1 h2
    rw [insOuter_stop _ _ _ _ _ (by omega)]
    exact Stab.refl _ _
  | succ n ih =>
    intro i d h1 h2
    by_cases hi : i < b
    · rw [insOuter_go _ _ _ _ _ hi]
      have q := insInner_stab hk a i d (by omega)
      exact q.1.trans (ih (i + 1) _ (by omega) (by rw [q.2]; exact h2))
    · rw [insOuter_stop _ _ _ _ _ hi]
      exact Stab.refl _ _
theorem ins_good {lt : α → α → Bool} {key : α → κ} (hS : SWO lt) (hk : ∀ x y, lt x y = true → key x ≠ key y) (d : Array α) (a b : Nat) (hab : a ≤ b) (hb : b ≤ d.size) : Good lt key a b d (insertionSort lt d a b) := by
  obtain ⟨h1, h2⟩ := insertionSort_holds hS d a b hab hb
  exact ⟨h1, insOuter_stab hk a b _ _ _ (Nat.le_refl _) hb, h2⟩
end Go.Proofs.Qxb6600238a
