import Derived.Test.Qxb6600238aStb
import Derived.Test.Qxb6600238aShelf
import Derived.Lib.Bytealg
set_option linter.unusedVariables false
set_option linter.unusedSimpArgs false
set_option linter.unusedSectionVars false
namespace Go.Proofs.Qxb6600238a
open Go.Shelf Go.RowKit Go.Lib Go.Sort

theorem cmpB_self : ∀ a : List UInt8, compareBytes a a = 0
  | [] => by simp [compareBytes]
  | x :: a => by
    have : ¬ x < x := UInt8.lt_irrefl x
    simp [compareBytes, cmpB_self a]
theorem cmpB_eq : ∀ a b : List UInt8, compareBytes a b = 0 → a = b
  | [], [], _ => rfl
  | [], y :: b, h => by simp [compareBytes] at h
  | x :: a, [], h => by simp [compareBytes] at h
  | x :: a, y :: b, h => by
    unfold compareBytes at h
    split at h
    · simp at h
    · split at h
      · simp at h
      · rename_i h1 h2
        have e : x = y := UInt8.le_antisymm (UInt8.not_lt.1 h2) (UInt8.not_lt.1 h1)
        rw [e, cmpB_eq a b h]
theorem cmpB_neg : ∀ a b : List UInt8, compareBytes b a = - compareBytes a b
  | [], [] => by simp [compareBytes]
  | [], y :: b => by simp [compareBytes]
  | x :: a, [] => by simp [compareBytes]
  | x :: a, y :: b => by
    unfold compareBytes
    by_cases h1 : x < y
    · have h2 : ¬ y < x := fun h => UInt8.lt_irrefl x (UInt8.lt_trans h1 h)
      rw [if_neg h2, if_pos h1, if_pos h1]; rfl
    · by_cases h2 : y < x
      · rw [if_pos h2, if_neg h1, if_pos h2]
      · rw [if_neg h2, if_neg h1, if_neg h1, if_neg h2]; exact cmpB_neg a b
theorem cmpB_trans : ∀ a b c : List UInt8, compareBytes a b < 0 → compareBytes b c < 0 → compareBytes a c < 0
  | [], [], c, h1, h2 => by simp [compareBytes] at h1
  | [], y :: b, [], h1, h2 => by simp [compareBytes] at h2
  | [], y :: b, z :: c, h1, h2 => by simp [compareBytes]
  | x :: a, [], c, h1, h2 => by simp [compareBytes] at h1
  | x :: a, y :: b, [], h1, h2 => by simp [compareBytes] at h2
  | x :: a, y :: b, z :: c, h1, h2 => by
    unfold compareBytes at h1 h2 ⊢
    by_cases p1 : x < y
    · by_cases p2 : y < z
      · rw [if_pos (UInt8.lt_trans p1 p2)]; decide
      · rw [if_neg p2] at h2
        by_cases p3 : z < y
        · rw [if_pos p3] at h2; exact absurd h2 (by decide)
        · have e : y = z := UInt8.le_antisymm (UInt8.not_lt.1 p3) (UInt8.not_lt.1 p2)
          rw [← e, if_pos p1]; decide
    · rw [if_neg p1] at h1
      by_cases p2 : y < x
      · rw [if_pos p2] at h1; exact absurd h1 (by decide)
      · rw [if_neg p2] at h1
        have e : x = y := UInt8.le_antisymm (UInt8.not_lt.1 p2) (UInt8.not_lt.1 p1)
        rw [e]
        by_cases p3 : y < z
        · rw [if_pos p3]; decide
        · rw [if_neg p3] at h2 ⊢
          by_cases p4 : z < y
          · rw [if_pos p4] at h2; exact absurd h2 (by decide)
          · rw [if_neg p4] at h2 ⊢
            exact cmpB_trans a b c h1 h2
theorem cmpB_le_trans (a b c : List UInt8) (h1 : compareBytes a b ≤ 0) (h2 : compareBytes b c ≤ 0) : compareBytes a c ≤ 0 := by
  by_cases e1 : compareBytes a b = 0
  · rw [cmpB_eq a b e1]; exact h2
  · by_cases e2 : compareBytes b c = 0
    · rw [← cmpB_eq b c e2]; exact h1
    · have := cmpB_trans a b c (by omega) (by omega); omega

/-- A label: its name and its value. -/
abbrev Lbl : Type := ByteArray × ByteArray
def nm (x : Lbl) : List UInt8 := x.1.data.toList
def lblD : Lbl := (ByteArray.empty, ByteArray.empty)
def encL (x : Lbl) : List Value := [.string x.1, .string x.2]
def cfL (x y : Lbl) : Int := compareBytes (nm x) (nm y)
theorem swoL : SWO (ltOf cfL) := by
  refine ⟨fun x => ?_, fun x y z h1 h2 => ?_, fun x y z h1 h2 => ?_⟩
  · unfold ltOf cfL; rw [cmpB_self]; rfl
  · exact decide_eq_true (cmpB_trans _ _ _ (of_decide_eq_true h1) (of_decide_eq_true h2))
  · have a1 : ¬ compareBytes (nm x) (nm y) < 0 := of_decide_eq_false h1
    have a2 : ¬ compareBytes (nm y) (nm z) < 0 := of_decide_eq_false h2
    refine decide_eq_false ?_
    show ¬ compareBytes (nm x) (nm z) < 0
    have b1 := cmpB_neg (nm x) (nm y)
    have b2 := cmpB_neg (nm y) (nm z)
    have b3 := cmpB_neg (nm x) (nm z)
    have := cmpB_le_trans (nm z) (nm y) (nm x) (by omega) (by omega)
    omega
theorem keyL (x y : Lbl) (h : ltOf cfL x y = true) : nm x ≠ nm y := by
  intro e
  have : compareBytes (nm x) (nm y) < 0 := of_decide_eq_true h
  rw [e, cmpB_self] at this
  omega

set_option maxHeartbeats 1000000 in
theorem closure46 (x y : Lbl) (W : World) : Calls Try.prog 46 #[.agg #[.string x.1, .string x.2], .agg #[.string y.1, .string y.2]] W fun e w' => e = .returned (.int .i64 (cfL x y)) ∧ ∃ q os', w' = grow (W.drewN q) os' := by
  have hcon := fun W' => Try.strings_Compare x.1 y.1 W'
  change ∀ W', Calls Try.prog 43 _ _ (fun e w' => e = .returned (.int .i64 (cfL x y)) ∧ w' = W') at hcon
  generalize cfL x y = r at hcon ⊢
  go_enter Try.func46, Try.ntmps46
  go_wp2_with (go_at_call 43; refine (hcon _).mono ?_; rintro e w' ⟨rfl, rfl⟩)
  go_ret
  exact ⟨rfl, 0, _, by rw [alloc_eq_grow, alloc_eq_grow, grow_grow]; rfl⟩
end Go.Proofs.Qxb6600238a
