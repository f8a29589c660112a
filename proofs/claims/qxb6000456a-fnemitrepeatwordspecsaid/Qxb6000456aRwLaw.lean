import Derived.Test.Qxb6000456aSeq
import Derived.Test.Qxb6000456aRbc
namespace Go.Proofs.Qxb6000456a
open Go.RowKit
set_option linter.unusedVariables false
set_option linter.unusedSimpArgs false

theorem Pow.congr {R S : List UInt8 → Prop} (h : ∀ u, R u ↔ S u) (r : Nat) : ∀ u, Pow R r u ↔ Pow S r u := by
  have : R = S := funext fun u => propext (h u)
  subst this
  exact fun u => Iff.rfl

theorem pow_word (w : List UInt8) (hw : 0 < w.length) (r : Nat) : ∀ u : List UInt8, Pow (fun v => v = w) r u ↔ u.length = r * w.length ∧ ∀ i, i < u.length → u[i]? = w[i % w.length]? := by
  induction r with
  | zero =>
    intro u
    constructor
    · intro h; cases h; simp
    · rintro ⟨h, _⟩
      exact List.eq_nil_of_length_eq_zero (by omega)
  | succ r ih =>
    intro u
    constructor
    · rintro ⟨u1, u2, rfl, rfl, h2⟩
      obtain ⟨h3, h4⟩ := (ih u2).1 h2
      refine ⟨by simp [h3, Nat.succ_mul]; omega, ?_⟩
      intro i hi
      by_cases hlt : i < u1.length
      · rw [List.getElem?_append_left hlt, Nat.mod_eq_of_lt hlt]
      · have hge : u1.length ≤ i := by omega
        rw [List.getElem?_append_right hge, h4 (i - u1.length) (by simp at hi; omega), Nat.mod_eq_sub_mod hge]
    · rintro ⟨h1, h2⟩
      rw [Nat.succ_mul] at h1
      refine ⟨u.take w.length, u.drop w.length, by simp, ?_, ?_⟩
      · apply List.ext_getElem?
        intro i
        by_cases hlt : i < w.length
        · rw [List.getElem?_take_of_lt hlt, h2 i (by omega), Nat.mod_eq_of_lt hlt]
        · rw [List.getElem?_eq_none (by simp; omega), List.getElem?_eq_none (by omega)]
      · refine (ih _).2 ⟨by simp; omega, ?_⟩
        intro i hi
        simp at hi
        rw [List.getElem?_drop, h2 (w.length + i) (by omega), Nat.add_mod_left]

theorem pow_nil (r : Nat) : ∀ u : List UInt8, Pow (fun v => v = []) r u ↔ u = [] := by
  induction r with
  | zero => exact fun u => Iff.rfl
  | succ r ih =>
    intro u
    constructor
    · rintro ⟨u1, u2, rfl, rfl, h⟩
      simpa using (ih u2).1 h
    · rintro rfl
      exact ⟨[], [], rfl, rfl, (ih []).2 rfl⟩

/-- What the word, repeated, stands for. -/
def wordW (w : List UInt8) (l : Nat) (m : Int) (u : List UInt8) : Prop := ∃ r : Nat, l ≤ r ∧ (m = -1 ∨ (r : Int) ≤ m) ∧ Pow (fun v => v = w) r u

theorem rw_law (w : List UInt8) (l : Nat) (m : Int) (hm : m = -1 ∨ (l : Int) ≤ m) (u : List UInt8) :
    Acc (((seqG (w.map single)).repeat ⟨[], []⟩ l m).P ++ [⟨3, 0, 0⟩]) (hasOf ((seqG (w.map single)).repeat ⟨[], []⟩ l m).L) 0 u ↔ wordW w l m u := by
  rw [repeat_acc (seqG_recog (w.map single)) l m hm u]
  unfold wordW
  have e : seqR (w.map single) = fun v => v = w := funext fun v => propext (seqR_lit w v)
  rw [e]

theorem wordW_nil (l : Nat) (m : Int) (hm : m = -1 ∨ (l : Int) ≤ m) (u : List UInt8) : wordW [] l m u ↔ u = [] := by
  constructor
  · rintro ⟨r, _, _, h⟩; exact (pow_nil r u).1 h
  · intro h; exact ⟨l, Nat.le_refl _, hm, (pow_nil l u).2 h⟩

theorem wordW_word (w : List UInt8) (hw : 0 < w.length) (l : Nat) (m : Int) (u : List UInt8) :
    wordW w l m u ↔ u.length % w.length = 0 ∧ want0 l m (u.length / w.length) = true ∧ ∀ i, i < u.length → u[i]? = w[i % w.length]? := by
  unfold want0
  rw [decide_eq_true_eq]
  constructor
  · rintro ⟨r, h1, h2, h3⟩
    obtain ⟨h4, h5⟩ := (pow_word w hw r u).1 h3
    have e : u.length / w.length = r := by rw [h4]; exact Nat.mul_div_cancel r hw
    rw [e]
    exact ⟨by rw [h4]; exact Nat.mul_mod_left _ _, ⟨h1, h2⟩, h5⟩
  · rintro ⟨h1, ⟨h2, h3⟩, h4⟩
    exact ⟨u.length / w.length, h2, h3, (pow_word w hw _ u).2 ⟨(Nat.div_mul_cancel (Nat.dvd_of_mod_eq_zero h1)).symm, h4⟩⟩

def wordTo (w : List UInt8) (l : Nat) (m : Int) (u : List UInt8) (k : Nat) : Bool := want0 l m (u.length / w.length) && decide (∀ i, i < k → u[i]? = w[i % w.length]?)

theorem wordTo_step {w : List UInt8} {l : Nat} {m : Int} {u : List UInt8} {k : Nat} (hw : wordTo w l m u k = true) : wordTo w l m u (k + 1) = decide (u[k]? = w[k % w.length]?) := by
  unfold wordTo at *
  simp only [Bool.and_eq_true, decide_eq_true_eq] at hw
  rw [hw.1, Bool.true_and]
  congr 1
  apply propext
  constructor
  · intro h; exact h k (Nat.lt_succ_self k)
  · intro h i hi
    by_cases e : i = k
    · subst e; exact h
    · exact hw.2 i (by omega)

theorem wordTo_end {w : List UInt8} {l : Nat} {m : Int} {u : List UInt8} {k : Nat} (hw : 0 < w.length) (hd : u.length % w.length = 0) (hk : k ≤ u.length) (h : u.length ≤ k ∨ wordTo w l m u k = false) : wordTo w l m u k = true ↔ wordW w l m u := by
  rw [wordW_word w hw]
  constructor
  · intro ht
    have hk2 : k = u.length := by
      rcases h with h | h
      · omega
      · rw [ht] at h; cases h
    subst hk2
    unfold wordTo at ht
    simp only [Bool.and_eq_true, decide_eq_true_eq] at ht
    exact ⟨hd, ht.1, ht.2⟩
  · rintro ⟨_, h1, h2⟩
    unfold wordTo
    simp only [Bool.and_eq_true, decide_eq_true_eq]
    exact ⟨h1, fun i hi => h2 i (by omega)⟩

theorem wordTo_zero (w : List UInt8) (l : Nat) (m : Int) (u : List UInt8) : wordTo w l m u 0 = want0 l m (u.length / w.length) := by
  simp [wordTo]
end Go.Proofs.Qxb6000456a
