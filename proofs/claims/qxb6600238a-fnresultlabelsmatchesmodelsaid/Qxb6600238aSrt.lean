import Derived.Test.Qxb6600238aRows
import Derived.Sort.LotA
import Derived.Sort.Lot0
import Derived.Sort.WalkA
set_option linter.unusedVariables false
set_option linter.unusedSimpArgs false
set_option linter.unusedSectionVars false
namespace Go.Proofs.Qxb6600238a
open Go.Sort
variable {α κ : Type} [Inhabited α] [DecidableEq κ]

/-- Those of one key, in their order. -/
def ofKey (key : α → κ) (x : κ) (l : List α) : List α := l.filter (fun y => decide (key y = x))
/-- For each key, those of the key are the same, in the same order. -/
def Stab (key : α → κ) (l l' : List α) : Prop := ∀ x, ofKey key x l' = ofKey key x l
theorem Stab.refl (key : α → κ) (l : List α) : Stab key l l := fun _ => rfl
theorem Stab.trans {key : α → κ} {l1 l2 l3 : List α} (h1 : Stab key l1 l2) (h2 : Stab key l2 l3) : Stab key l1 l3 := fun x => (h2 x).trans (h1 x)
theorem ofKey_append (key : α → κ) (x : κ) (l1 l2 : List α) : ofKey key x (l1 ++ l2) = ofKey key x l1 ++ ofKey key x l2 := by simp [ofKey]
theorem ofKey_nil_of (key : α → κ) (x : κ) (l : List α) (h : ∀ y ∈ l, key y ≠ x) : ofKey key x l = [] := by
  unfold ofKey
  rw [List.filter_eq_nil_iff]
  intro y hy
  simpa using h y hy
/-- Two stretches that share no key change places. -/
theorem stab_blocks (key : α → κ) (p u v q : List α) (h : ∀ y ∈ u, ∀ z ∈ v, key y ≠ key z) : Stab key (p ++ u ++ v ++ q) (p ++ v ++ u ++ q) := by
  intro x
  simp only [ofKey_append]
  by_cases hu : ∃ y ∈ u, key y = x
  · obtain ⟨y, hy, hx⟩ := hu
    have : ofKey key x v = [] := ofKey_nil_of key x v (fun z hz e => h y hy z hz (hx.trans e.symm))
    rw [this]; simp
  · have : ofKey key x u = [] := ofKey_nil_of key x u (fun y hy e => hu ⟨y, hy, e⟩)
    rw [this]; simp

theorem get!_eq (d : Array α) (t : Nat) : d[t]! = (d.toList[t]?).getD default := by
  rw [getElem!_def]; simp; cases d[t]? <;> rfl
theorem get!_list (d : Array α) (t : Nat) (h : t < d.size) : d.toList[t]? = some d[t]! := by
  rw [getElem!_pos d t h]; simp [h]
theorem toList_eq_of (d : Array α) (l : List α) (hs : d.size = l.length) (h : ∀ t, t < d.size → l[t]? = some d[t]!) : d.toList = l := by
  apply List.ext_getElem?
  intro t
  by_cases ht : t < d.size
  · rw [h t ht, get!_list d t ht]
  · rw [List.getElem?_eq_none (by simp; omega), List.getElem?_eq_none (by omega)]

theorem swp_comm (d : Array α) (i j : Nat) (hi : i < d.size) (hj : j < d.size) : swp d i j = swp d j i := by
  apply Array.ext (by simp [swp])
  intro t h1 h2
  have e1 := swp_get d hi hj t
  have e2 := swp_get d hj hi t
  rw [getElem!_pos _ t h1] at e1
  rw [getElem!_pos _ t h2] at e2
  rw [e1, e2]
  by_cases a : t = i
  · by_cases b : t = j
    · subst a; subst b; simp
    · simp [a, b]; intro c; subst c; exact absurd a b
  · by_cases b : t = j
    · simp [a, b]; intro c; subst c; exact absurd b a
    · simp [a, b]

/-- The stretch [s, m) and the stretch [m, e) have changed places. -/
def Rot (s m e : Nat) (d d' : Array α) : Prop :=
  d'.size = d.size ∧ ∀ t, d'[t]! = if s ≤ t ∧ t < s + (e - m) then d[t + (m - s)]! else if s + (e - m) ≤ t ∧ t < e then d[t - (e - m)]! else d[t]!

theorem Rot.lists {s m e : Nat} {d d' : Array α} (h : Rot s m e d d') (hsm : s ≤ m) (hme : m ≤ e) (he : e ≤ d.size) :
    d.toList = d.toList.take s ++ (d.toList.drop s).take (m - s) ++ (d.toList.drop m).take (e - m) ++ d.toList.drop e ∧
    d'.toList = d.toList.take s ++ (d.toList.drop m).take (e - m) ++ (d.toList.drop s).take (m - s) ++ d.toList.drop e := by
  have hl : d.toList.length = d.size := by simp
  have L1 : (d.toList.take s).length = s := by rw [List.length_take]; omega
  have L2 : ((d.toList.drop s).take (m - s)).length = m - s := by rw [List.length_take, List.length_drop]; omega
  have L3 : ((d.toList.drop m).take (e - m)).length = e - m := by rw [List.length_take, List.length_drop]; omega
  have L4 : (d.toList.drop e).length = d.size - e := by rw [List.length_drop]; omega
  constructor
  · apply toList_eq_of
    · simp only [List.length_append, L1, L2, L3, L4]; omega
    · intro t ht
      rw [← get!_list d t ht]
      simp only [List.getElem?_append, List.length_append, L1, L2, L3, List.getElem?_take, List.getElem?_drop]
      repeat' split
      all_goals first | (exfalso; omega) | rfl | (congr 1; omega)
  · apply toList_eq_of
    · rw [h.1]; simp only [List.length_append, L1, L2, L3, L4]; omega
    · intro t ht
      rw [h.1] at ht
      rw [h.2 t]
      simp only [List.getElem?_append, List.length_append, L1, L2, L3, List.getElem?_take, List.getElem?_drop]
      repeat' split
      all_goals first | (exfalso; omega) | (rw [← get!_list d _ (by omega)]; congr 1; omega) | (rw [← get!_list d _ (by omega)])

theorem mem_stretch (d : Array α) (s m : Nat) (hm : m ≤ d.size) (y : α) (h : y ∈ (d.toList.drop s).take (m - s)) : ∃ t, s ≤ t ∧ t < m ∧ y = d[t]! := by
  obtain ⟨i, hi, e⟩ := List.mem_iff_getElem.1 h
  have hi' : i < m - s := by rw [List.length_take] at hi; omega
  refine ⟨s + i, by omega, by omega, ?_⟩
  rw [List.getElem_take, List.getElem_drop] at e
  rw [← e, getElem!_pos d (s + i) (by omega)]
  simp

theorem Rot.perm {s m e : Nat} {d d' : Array α} (h : Rot s m e d d') (hsm : s ≤ m) (hme : m ≤ e) (he : e ≤ d.size) : PermIn s e d d' := by
  refine ⟨h.1, ?_, ?_⟩
  · intro i hi
    rw [h.2 i, if_neg (by omega), if_neg (by omega)]
  · obtain ⟨h1, h2⟩ := h.lists hsm hme he
    have hl : d.toList.length = d.size := by simp
    have e1 : (d'.extract s e).toList = (d.toList.drop m).take (e - m) ++ (d.toList.drop s).take (m - s) := by
      rw [Array.toList_extract, List.extract_eq_take_drop, h2]
      rw [List.append_assoc, List.append_assoc, List.drop_append_of_le_length (by rw [List.length_take]; omega), List.drop_of_length_le (by rw [List.length_take]; omega), List.nil_append, ← List.append_assoc]
      rw [List.take_append_of_le_length (by simp only [List.length_append, List.length_take, List.length_drop]; omega), List.take_of_length_le (by simp only [List.length_append, List.length_take, List.length_drop]; omega)]
    have e2 : (d.extract s e).toList = (d.toList.drop s).take (m - s) ++ (d.toList.drop m).take (e - m) := by
      rw [Array.toList_extract, List.extract_eq_take_drop]
      have : (d.toList.drop s).take (e - s) = (d.toList.drop s).take ((m - s) + (e - m)) := by congr 1; omega
      rw [this, List.take_add, List.drop_drop]
      congr 3; omega
    rw [e1, e2]
    exact List.perm_append_comm

theorem Rot.stab {s m e : Nat} {d d' : Array α} (h : Rot s m e d d') (hsm : s ≤ m) (hme : m ≤ e) (he : e ≤ d.size) (key : α → κ)
    (hk : ∀ i j, s ≤ i → i < m → m ≤ j → j < e → key d[i]! ≠ key d[j]!) : Stab key d.toList d'.toList := by
  obtain ⟨h1, h2⟩ := h.lists hsm hme he
  rw [h2]
  have := stab_blocks key (d.toList.take s) ((d.toList.drop s).take (m - s)) ((d.toList.drop m).take (e - m)) (d.toList.drop e) (by
    intro y hy z hz
    obtain ⟨i, a1, a2, rfl⟩ := mem_stretch d s m (by omega) y hy
    obtain ⟨j, b1, b2, rfl⟩ := mem_stretch d m e he z hz
    exact hk i j a1 a2 b1 b2)
  rw [← h1] at this
  exact this

/-! ### swapRange, rotate -/
def swpR (d : Array α) (a b : Nat) : Nat → Array α
  | 0 => d
  | n + 1 => swp (swpR d a b n) (a + n) (b + n)
theorem swpR_size (d : Array α) (a b : Nat) : ∀ n, (swpR d a b n).size = d.size
  | 0 => rfl
  | n + 1 => by rw [swpR, size_swp]; exact swpR_size d a b n
theorem swpR_get (d : Array α) (a b : Nat) : ∀ n, a + n ≤ b → b + n ≤ d.size → ∀ t, (swpR d a b n)[t]! = if a ≤ t ∧ t < a + n then d[t + (b - a)]! else if b ≤ t ∧ t < b + n then d[t - (b - a)]! else d[t]!
  | 0, _, _, t => by rw [swpR, if_neg (by omega), if_neg (by omega)]
  | n + 1, h1, h2, t => by
    have ih := swpR_get d a b n (by omega) (by omega)
    rw [swpR, swp_get _ (by rw [swpR_size]; omega) (by rw [swpR_size]; omega)]
    simp only [ih]
    repeat' split
    all_goals first | (exfalso; omega) | rfl | (congr 1; omega)

/-- rotateCmpFunc's loop. -/
def rotF : Nat → Array α → Nat → Nat → Nat → Array α
  | 0, d, _, _, _ => d
  | f + 1, d, m, i, j => if i = j then swpR d (m - i) m i else if j < i then rotF f (swpR d (m - i) m j) m (i - j) j else rotF f (swpR d (m - i) (m + j - i) i) m i (j - i)
theorem rotF_rot : ∀ (f : Nat) (d : Array α) (m i j : Nat), 0 < i → 0 < j → i ≤ m → m + j ≤ d.size → i + j ≤ f → Rot (m - i) m (m + j) d (rotF f d m i j)
  | 0, d, m, i, j, h1, h2, _, _, hf => by omega
  | f + 1, d, m, i, j, h1, h2, h3, h4, hf => by
    unfold rotF
    by_cases hij : i = j
    · subst hij
      rw [if_pos rfl]
      refine ⟨swpR_size _ _ _ _, fun t => ?_⟩
      rw [swpR_get d (m - i) m i (by omega) (by omega) t]
      repeat' split
      all_goals first | (exfalso; omega) | rfl | (congr 1; omega)
    · rw [if_neg hij]
      by_cases hji : j < i
      · rw [if_pos hji]
        obtain ⟨q1, q2⟩ := rotF_rot f (swpR d (m - i) m j) m (i - j) j (by omega) h2 (by omega) (by rw [swpR_size]; omega) (by omega)
        refine ⟨q1.trans (swpR_size _ _ _ _), fun t => ?_⟩
        rw [q2 t]
        simp only [swpR_get d (m - i) m j (by omega) (by omega)]
        repeat' split
        all_goals first | (exfalso; omega) | rfl | (congr 1; omega)
      · rw [if_neg hji]
        obtain ⟨q1, q2⟩ := rotF_rot f (swpR d (m - i) (m + j - i) i) m i (j - i) h1 (by omega) (by omega) (by rw [swpR_size]; omega) (by omega)
        refine ⟨q1.trans (swpR_size _ _ _ _), fun t => ?_⟩
        rw [q2 t]
        simp only [swpR_get d (m - i) (m + j - i) i (by omega) (by omega)]
        repeat' split
        all_goals first | (exfalso; omega) | rfl | (congr 1; omega)
theorem rotF_size : ∀ (f : Nat) (d : Array α) (m i j : Nat), (rotF f d m i j).size = d.size
  | 0, d, m, i, j => rfl
  | f + 1, d, m, i, j => by
    unfold rotF
    split
    · exact swpR_size _ _ _ _
    · split
      · rw [rotF_size]; exact swpR_size _ _ _ _
      · rw [rotF_size]; exact swpR_size _ _ _ _

/-! ### one element carried forward, or back -/
def bubF : Nat → Array α → Nat → Array α
  | 0, d, _ => d
  | n + 1, d, k => bubF n (swp d k (k + 1)) (k + 1)
def bubB : Nat → Array α → Nat → Array α
  | 0, d, _ => d
  | n + 1, d, k => bubB n (swp d k (k - 1)) (k - 1)
theorem bubF_rot : ∀ (n : Nat) (d : Array α) (k : Nat), k + n < d.size → Rot k (k + 1) (k + 1 + n) d (bubF n d k)
  | 0, d, k, h => by
    refine ⟨rfl, fun t => ?_⟩
    unfold bubF
    repeat' split
    all_goals first | (exfalso; omega) | rfl | (congr 1; omega)
  | n + 1, d, k, h => by
    unfold bubF
    obtain ⟨q1, q2⟩ := bubF_rot n (swp d k (k + 1)) (k + 1) (by rw [size_swp]; omega)
    refine ⟨q1.trans (size_swp _ _ _), fun t => ?_⟩
    rw [q2 t]
    simp only [swp_get d (i := k) (j := k + 1) (by omega) (by omega)]
    repeat' split
    all_goals first | (exfalso; omega) | rfl | (congr 1; omega)
theorem bubB_rot : ∀ (n : Nat) (d : Array α) (k : Nat), n ≤ k → k < d.size → Rot (k - n) k (k + 1) d (bubB n d k)
  | 0, d, k, hn, h => by
    refine ⟨rfl, fun t => ?_⟩
    unfold bubB
    repeat' split
    all_goals first | (exfalso; omega) | rfl | (congr 1; omega)
  | n + 1, d, k, hn, h => by
    unfold bubB
    obtain ⟨q1, q2⟩ := bubB_rot n (swp d k (k - 1)) (k - 1) (by omega) (by rw [size_swp]; omega)
    refine ⟨q1.trans (size_swp _ _ _), fun t => ?_⟩
    rw [q2 t]
    simp only [swp_get d (i := k) (j := k - 1) (by omega) (by omega)]
    repeat' split
    all_goals first | (exfalso; omega) | rfl | (congr 1; omega)
end Go.Proofs.Qxb6600238a
