import Derived.Test.Qxb6600238aGet
set_option linter.unusedVariables false
set_option linter.unusedSimpArgs false
set_option linter.unusedSectionVars false
namespace Go.Proofs.Qxb6600238a
open Go.Shelf Go.RowKit Go.Lib Go.Sort

/-- A slice of strings as it lies in w. -/
def StrS (w : World) (p : Option Addr) (n : Nat) (l : List ByteArray) : Prop :=
  l.length = n ∧ ∀ j, j < n → ∃ b off, p = some ⟨b, off, none⟩ ∧ b < w.heap.size ∧ ∀ j, j < n → w.cell? ⟨b, off + j, none⟩ = some (.string (l.getD j ByteArray.empty))
theorem cell_below {w w' : World} {B : Nat} (hb : Below B w w') {b o : Nat} (h : b < B) : w'.cell? ⟨b, o, none⟩ = w.cell? ⟨b, o, none⟩ := World.cell?_of_block (hb.block b h)
theorem StrS.kept {w w' : World} {p : Option Addr} {n : Nat} {l : List ByteArray} (h : StrS w p n l) (hb : Below w.heap.size w w') : StrS w' p n l :=
  ⟨h.1, fun j hj => by
    obtain ⟨b, off, h1, h2, h3⟩ := h.2 j hj
    exact ⟨b, off, h1, by have := hb.size; omega, fun j hj => by rw [cell_below hb h2]; exact h3 j hj⟩⟩

theorem contains_any (p : Option Addr) (n c : Nat) (l : List ByteArray) (x : ByteArray) (w : World) (h : StrS w p n l) (hn : n ≤ 1099511627776) :
    Calls Try.prog 36 #[.slice p n c, .string x] w fun e w' => e = .returned (.bool (Lib.containsS l x)) ∧ w' = w := by
  rcases Nat.eq_zero_or_pos n with h0 | h0
  · subst h0
    have hl : l = [] := List.eq_nil_of_length_eq_zero h.1
    subst hl
    exact Try.slices_Contains_string_empty p c x w
  · obtain ⟨b, off, rfl, h2, h3⟩ := h.2 0 h0
    have hc := Try.slices_Contains_string b off n c l x w (by rw [h.1]; exact Nat.le_refl _) (by omega) (fun j hj => h3 j (by rw [h.1] at hj; exact hj))
    rw [List.take_of_length_le (by rw [h.1]; exact Nat.le_refl _)] at hc
    exact hc
def metric : ByteArray := ⟨#[95, 95, 110, 97, 109, 101, 95, 95]⟩
/-- Is a label of the many side left out? -/
def dropped (card : Int) (on drop : Bool) (ml : List ByteArray) (x : ByteArray) : Bool := (drop && decide (x = metric)) || (decide (card = 0) && (Lib.containsS ml x != on))
def filt (card : Int) (on drop : Bool) (ml : List ByteArray) (l : List Lbl) : List Lbl := l.filter (fun x => !dropped card on drop ml x.1)
theorem filt_snoc (card : Int) (on drop : Bool) (ml : List ByteArray) (l : List Lbl) (x : Lbl) : filt card on drop ml (l ++ [x]) = filt card on drop ml l ++ (if dropped card on drop ml x.1 = true then [] else [x]) := by
  unfold filt
  rw [List.filter_append]
  congr 1
  rw [List.filter_cons, List.filter_nil]
  cases dropped card on drop ml x.1 <;> rfl
theorem filt_len (card : Int) (on drop : Bool) (ml : List ByteArray) (l : List Lbl) : (filt card on drop ml l).length ≤ l.length := List.length_filter_le _ _
theorem takeL_next (l : List Lbl) (i : Nat) (h : i < l.length) : l.take (i + 1) = l.take i ++ [l.getD i lblD] := by
  rw [List.take_add_one, List.getElem?_eq_getElem h, getD_eq l i h]; rfl
theorem takeS_next (l : List ByteArray) (i : Nat) (h : i < l.length) : l.take (i + 1) = l.take i ++ [l.getD i ByteArray.empty] := by
  rw [List.take_add_one, List.getElem?_eq_getElem h]; simp [List.getD, h]

theorem OwnL.snoc {B : Nat} {w : World} {g n cap : Nat} {l : List Lbl} {x1 x2 : ByteArray} (h : w.ownsRow B 41 2 (.slice (some ⟨g, 0, none⟩) n cap) n (lcells l ++ [.string x1, .string x2])) : OwnL B w g n cap (l ++ [(x1, x2)]) := by
  unfold OwnL
  rw [lcells_append]
  exact h
end Go.Proofs.Qxb6600238a
