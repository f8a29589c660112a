import Derived.Test.Qxb6600238aCmp
import Derived.Lib.OwnBridge
set_option linter.unusedVariables false
set_option linter.unusedSimpArgs false
set_option linter.unusedSectionVars false
namespace Go.Proofs.Qxb6600238a
open Go.Shelf Go.RowKit Go.Lib Go.Sort

/-- The cells of a row of labels. -/
def lcells (l : List Lbl) : List Value := l.flatMap encL
theorem lcells_nil : lcells [] = [] := rfl
theorem lcells_cons (x : Lbl) (l : List Lbl) : lcells (x :: l) = .string x.1 :: .string x.2 :: lcells l := rfl
theorem lcells_append (l1 l2 : List Lbl) : lcells (l1 ++ l2) = lcells l1 ++ lcells l2 := by simp [lcells]
theorem lcells_length : ∀ l : List Lbl, (lcells l).length = l.length * 2
  | [] => rfl
  | x :: l => by rw [lcells_cons, List.length_cons, List.length_cons, List.length_cons, lcells_length l]; omega
theorem lcells_one (l : List Lbl) : ∀ u ∈ lcells l, u.oneCell' = true := by
  intro u hu
  simp only [lcells, List.mem_flatMap] at hu
  obtain ⟨x, _, h⟩ := hu
  simp [encL] at h
  rcases h with rfl | rfl <;> rfl
theorem lcells_get : ∀ (l : List Lbl) (i : Nat) (h : i < l.length), (lcells l)[i * 2]? = some (.string l[i].1) ∧ (lcells l)[i * 2 + 1]? = some (.string l[i].2)
  | [], i, h => by simp at h
  | x :: l, 0, h => ⟨rfl, rfl⟩
  | x :: l, i + 1, h => by
    have := lcells_get l i (by simpa using h)
    rw [lcells_cons, show (i + 1) * 2 = i * 2 + 1 + 1 by omega]
    simp only [List.getElem?_cons_succ, List.getElem_cons_succ]
    exact this
theorem flat_eq (l : List Lbl) : flatK encL 2 l.toArray = (lcells l).toArray := by
  apply ext_get!
  · rw [size_flatK]; simp [lcells_length]
  · intro t ht
    rw [size_flatK] at ht
    have ht' : t < l.length * 2 := by simpa using ht
    rw [get_flatK _ _ _ _ ht]
    have h := lcells_get l (t / 2) (by omega)
    have e1 : l.toArray[t / 2]! = l[t / 2]'(by omega) := by
      rw [getElem!_pos _ _ (by simp; omega)]; simp
    rw [e1, getElem!_pos (lcells l).toArray t (by simp [lcells_length]; omega)]
    rcases Nat.mod_two_eq_zero_or_one t with p | p
    · have e2 : t = t / 2 * 2 := by omega
      have := h.1
      rw [← e2] at this
      rw [p]
      rw [List.getElem?_eq_getElem (by rw [lcells_length]; omega)] at this
      simp only [List.getElem_toArray]
      rw [Option.some.inj this]
      rfl
    · have e2 : t = t / 2 * 2 + 1 := by omega
      have := h.2
      rw [← e2] at this
      rw [p]
      rw [List.getElem?_eq_getElem (by rw [lcells_length]; omega)] at this
      simp only [List.getElem_toArray]
      rw [Option.some.inj this]
      rfl

/-- A row of labels of its own. -/
def OwnL (B : Nat) (w : World) (g n cap : Nat) (l : List Lbl) : Prop := w.ownsRow B 41 2 (.slice (some ⟨g, 0, none⟩) n cap) n (lcells l)
theorem OwnL.len {B : Nat} {w : World} {g n cap : Nat} {l : List Lbl} (h : OwnL B w g n cap l) : l.length = n := by
  have := h.1
  rw [lcells_length] at this
  omega
theorem OwnL.parts {B : Nat} {w : World} {g n cap : Nat} {l : List Lbl} (h : OwnL B w g n cap l) : ∃ cur, B ≤ g ∧ g < w.heap.size ∧ w.heap[g]? = some (.cells cur 41 (0, 0)) ∧ n ≤ cap ∧ cap ≤ maxLen ∧ cur.size = cap * 2 ∧ cur.toList.take (n * 2) = lcells l := by
  rcases h.2 with ⟨e0, _⟩ | ⟨g', cap', cur, e0, hb, hg, hn, hm, hs, ht⟩
  · cases e0
  · injection e0 with e1 _ e3
    injection e1 with e1
    injection e1 with e1
    subst e1; subst e3
    refine ⟨cur, hb, ?_, hg, hn, hm, hs, ht⟩
    rcases Nat.lt_or_ge g w.heap.size with h' | h'
    · exact h'
    · rw [Array.getElem?_eq_none h'] at hg; cases hg
theorem OwnL.mk {B : Nat} {w : World} {g n cap : Nat} {l : List Lbl} {cur : Array Value} (hl : l.length = n) (hb : B ≤ g) (hg : w.heap[g]? = some (.cells cur 41 (0, 0))) (hn : n ≤ cap) (hm : cap ≤ maxLen) (hs : cur.size = cap * 2) (ht : cur.toList.take (n * 2) = lcells l) : OwnL B w g n cap l :=
  ⟨by rw [lcells_length, hl], .inr ⟨g, cap, cur, rfl, hb, hg, hn, hm, hs, ht⟩⟩
theorem OwnL.holds {B : Nat} {w : World} {g n cap : Nat} {l : List Lbl} (h : OwnL B w g n cap l) : HoldsK encL 2 w g 0 l.toArray := by
  obtain ⟨cur, _, _, hg, _, _, hs, ht⟩ := h.parts
  have hl := h.len
  unfold HoldsK
  rw [flat_eq]
  intro j hj
  have hj' : j < n * 2 := by simpa [lcells_length, hl] using hj
  refine ⟨?_, by simp [World.frozen?, hg]⟩
  have e1 : (cur.toList.take (n * 2))[j]? = (lcells l)[j]? := by rw [ht]
  rw [List.getElem?_take, if_pos hj', Array.getElem?_toList, List.getElem?_eq_getElem (by rw [lcells_length]; omega)] at e1
  simp only [World.cell?, hg, Nat.zero_add]
  simp only [Option.isSome_none, Bool.false_eq_true, if_false]
  rw [e1]
  simp [getElem!_pos, lcells_length, hl, hj']
theorem OwnL.cell {B : Nat} {w : World} {g n cap : Nat} {l : List Lbl} (h : OwnL B w g n cap l) (i : Nat) (hi : i < l.length) :
    w.cell? ⟨g, i * 2, none⟩ = some (.string l[i].1) ∧ w.cell? ⟨g, i * 2 + 1, none⟩ = some (.string l[i].2) := by
  have a := lcells_get l i hi
  have b := h.cells (g := g) rfl
  have b1 := b _ _ a.1
  have b2 := b _ _ a.2
  simp only [Addr.add_lit, Nat.zero_add] at b1 b2
  exact ⟨b1, b2⟩
theorem OwnL.kept {B B' : Nat} {w w' : World} {g n cap : Nat} {l : List Lbl} (h : OwnL B w g n cap l) (hb : Below B' w w') (hg : g < B') : OwnL B w' g n cap l := by
  obtain ⟨cur, h1, h2, h3, h4, h5, h6, h7⟩ := h.parts
  exact OwnL.mk h.len h1 (by rw [hb.block g hg]; exact h3) h4 h5 h6 h7

/-- Behind the sort. -/
theorem OwnL.sorted {B : Nat} {w w' : World} {g n cap : Nat} {l : List Lbl} (h : OwnL B w g n cap l) (d' : Array Lbl) (hd : d'.size = n) (S : SWK encL 2 w g 0 d' w') : OwnL B w' g n cap d'.toList ∧ Below B w w' := by
  obtain ⟨cur, h1, h2, h3, h4, h5, h6, h7⟩ := h.parts
  obtain ⟨m, os, rfl⟩ := S
  unfold sortWorldK putRowK
  have hfl : flatK encL 2 d' = (lcells d'.toList).toArray := by rw [← flat_eq]
  rw [hfl]
  constructor
  · refine OwnL.mk (cur := putCells id 0 (lcells d'.toList).toArray cur) (by simpa using hd) h1 ?_ h4 h5 (by simpa [putCells] using h6) ?_
    · have hlt : g < (putRow id (Sort.ahead w m) g 0 (lcells d'.toList).toArray).heap.size := by simp [putRow, mapBlock, Sort.ahead]; exact h2
      have : (grow (putRow id (Sort.ahead w m) g 0 (lcells d'.toList).toArray) os).heap[g]? = (putRow id (Sort.ahead w m) g 0 (lcells d'.toList).toArray).heap[g]? := by
        unfold grow
        simp only [Array.getElem?_append_left hlt]
      rw [this]
      simp [putRow, mapBlock, Sort.ahead, Array.getElem?_modify, h3, onCells]
    · apply List.ext_getElem?
      intro j
      rw [List.getElem?_take, Array.getElem?_toList]
      by_cases hj : j < n * 2
      · have hjc : j < cur.size := by omega
        have hjl : j < (lcells d'.toList).length := by rw [lcells_length]; simp; omega
        simp only [if_pos hj, putCells, Array.getElem?_mapIdx, Array.getElem?_eq_getElem hjc, Option.map_some]
        rw [if_pos (by simp; exact hjl), List.getElem?_eq_getElem hjl]
        simp [getElem!_pos, hjl]
      · rw [if_neg hj, List.getElem?_eq_none (by rw [lcells_length]; simp; omega)]
  · have hb := Lib.below_putRow (enc := id) (q := m) (d := (lcells d'.toList).toArray) (Below.refl B w) h1
    refine ⟨hb.os, hb.tape, hb.output, ?_, fun k hk => ?_⟩
    · rw [size_grow]; have := hb.size; omega
    · rw [← hb.block k hk]
      have hlt : k < (putRow id (Sort.ahead w m) g 0 (lcells d'.toList).toArray).heap.size := by simp [putRow, mapBlock, Sort.ahead]; omega
      unfold grow
      simp only [Array.getElem?_append_left hlt]
end Go.Proofs.Qxb6600238a
