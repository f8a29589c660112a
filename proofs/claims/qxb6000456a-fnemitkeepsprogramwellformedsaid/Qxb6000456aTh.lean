import Derived.Test.Qxb6000456aRows
import Derived.Test.Qxb6000456aKept
import Derived.WalkLawsBesides
import Derived.Deep.QuietTactic
import Derived.BigQuiet
namespace Go.Proofs.Qxb6000456a
open Go.RowKit
set_option linter.unusedVariables false

theorem Try.info21 : (Try.prog.info? 21).map (fun i => (i.zero, i.size, i.bytes)) = some (some (.int .i32 0), 1, 4) := by kernel_rfl

/-- The sparse set's own law: where each member of D stands in D. -/
structure Sparse (N : Nat) (D A : List Nat) : Prop where
  lt : ∀ x ∈ D, x < N
  len : A.length = N
  le : ∀ x ∈ A, x ≤ N
  pos : ∀ i (h : i < D.length), A[D[i]]? = some i

theorem Sparse.nodup {N : Nat} {D A : List Nat} (h : Sparse N D A) : D.Nodup := by
  unfold List.Nodup
  rw [List.pairwise_iff_getElem]
  intro i j hi hj hij e
  have e1 := h.pos i hi
  have e2 := h.pos j hj
  rw [e, e2] at e1
  simp at e1
  omega

theorem Sparse.length_le {N : Nat} {D A : List Nat} (h : Sparse N D A) : D.length ≤ N := by
  have := h.nodup.length_le_of_subset (l₂ := List.range N) (fun x hx => List.mem_range.2 (h.lt x hx))
  simpa using this

theorem Sparse.length_lt {N pc : Nat} {D A : List Nat} (h : Sparse N D A) (hpc : pc < N) (hn : pc ∉ D) : D.length < N := by
  have h1 : (D ++ [pc]).Nodup := by
    rw [List.nodup_append]
    exact ⟨h.nodup, by simp, fun a ha b hb => by simp at hb; subst hb; rintro rfl; exact hn ha⟩
  have := h1.length_le_of_subset (l₂ := List.range N) (fun x hx => by
    rcases List.mem_append.1 hx with hx | hx
    · exact List.mem_range.2 (h.lt x hx)
    · simp at hx; subst hx; exact List.mem_range.2 hpc)
  simp at this
  omega

/-- 'pc is in D' is what the two looks say. -/
theorem Sparse.mem_iff {N pc i : Nat} {D A : List Nat} (h : Sparse N D A) (hi : A[pc]? = some i) : pc ∈ D ↔ D[i]? = some pc := by
  constructor
  · intro hm
    obtain ⟨j, hj, rfl⟩ := List.getElem_of_mem hm
    have := h.pos j hj
    rw [hi] at this
    obtain rfl := Option.some.inj this
    exact List.getElem?_eq_getElem hj
  · intro e
    exact List.mem_of_getElem? e

theorem Sparse.push {N pc : Nat} {D A : List Nat} (h : Sparse N D A) (hpc : pc < N) (hn : pc ∉ D) : Sparse N (D ++ [pc]) (A.set pc D.length) := by
  have hlt := h.length_lt hpc hn
  refine ⟨?_, by simp [h.len], ?_, ?_⟩
  · intro x hx
    rcases List.mem_append.1 hx with hx | hx
    · exact h.lt x hx
    · simp at hx; omega
  · intro x hx
    rcases List.mem_or_eq_of_mem_set hx with hx | hx
    · exact h.le x hx
    · omega
  · intro i hi
    simp at hi
    by_cases hl : i < D.length
    · rw [List.getElem_append_left hl]
      rw [List.getElem?_set_ne]
      · exact h.pos i hl
      · intro e; exact hn (e ▸ List.getElem_mem hl)
    · have : i = D.length := by omega
      subst this
      simp [h.len, hpc]

theorem Sparse.clear {N : Nat} {D A : List Nat} (h : Sparse N D A) : Sparse N [] A := ⟨by simp, h.len, h.le, by simp⟩
theorem Sparse.start (N : Nat) : Sparse N [] (List.replicate N 0) := ⟨by simp, by simp, by intro x hx; simp at hx; omega, by simp⟩

/-- The object 'threads' at block t. -/
structure ThAt (w : World) (t gd ga N : Nat) (D A : List Nat) : Prop where
  head : w.heap[t]? = some (.cells #[.slice (some ⟨gd, 0, none⟩) D.length N, .slice (some ⟨ga, 0, none⟩) N N] 72 (0, 0))
  dense : w.ownsRow 0 21 1 (.slice (some ⟨gd, 0, none⟩) D.length N) D.length (D.map I32)
  sat : w.ownsRow 0 21 1 (.slice (some ⟨ga, 0, none⟩) N N) N (A.map I32)
  td : t ≠ gd
  ta : t ≠ ga
  da : gd ≠ ga
  sp : Sparse N D A

def thF (t gd ga : Nat) (k : Nat) : Prop := k = t ∨ k = gd ∨ k = ga

theorem ThAt.kept {F : Nat → Prop} {w w' : World} {t gd ga N : Nat} {D A : List Nat} (h : ThAt w t gd ga N D A) (hk : Kept F w w') (hF : ∀ k, thF t gd ga k → ¬ F k) : ThAt w' t gd ga N D A :=
  ⟨hk.heap h.head (hF t (.inl rfl)), hk.owns h.dense (fun g e => by simp [Value.ownBlock] at e; subst e; exact hF _ (.inr (.inl rfl))),
    hk.owns h.sat (fun g e => by simp [Value.ownBlock] at e; subst e; exact hF _ (.inr (.inr rfl))), h.td, h.ta, h.da, h.sp⟩

theorem ThAt.lt {w : World} {t gd ga N : Nat} {D A : List Nat} (h : ThAt w t gd ga N D A) : ∀ k, thF t gd ga k → k < w.heap.size := by
  intro k hk
  rcases hk with rfl | rfl | rfl
  · exact lt_of_block h.head
  · exact ownsRow_elim h.dense
  · exact ownsRow_elim h.sat

theorem ThAt.drew {w : World} {t gd ga N : Nat} {D A : List Nat} (h : ThAt w t gd ga N D A) : ThAt w.drew t gd ga N D A := ⟨h.head, h.dense, h.sat, h.td, h.ta, h.da, h.sp⟩

theorem ThAt.cell0 {w : World} {t gd ga N : Nat} {D A : List Nat} (h : ThAt w t gd ga N D A) : w.cell? ⟨t, 0, none⟩ = some (.slice (some ⟨gd, 0, none⟩) D.length N) := by rw [cell_of_heap h.head]; rfl
theorem ThAt.cell1 {w : World} {t gd ga N : Nat} {D A : List Nat} (h : ThAt w t gd ga N D A) : w.cell? ⟨t, 1, none⟩ = some (.slice (some ⟨ga, 0, none⟩) N N) := by rw [cell_of_heap h.head]; rfl
theorem ThAt.free0 {w : World} {t gd ga N : Nat} {D A : List Nat} (h : ThAt w t gd ga N D A) (i : Nat) : w.frozen? ⟨t, i, none⟩ = false := free_of_heap h.head
theorem ThAt.cellD {w : World} {t gd ga N : Nat} {D A : List Nat} (h : ThAt w t gd ga N D A) {i x : Nat} (hi : D[i]? = some x) : w.cell? ⟨gd, i, none⟩ = some (.int .i32 x) := by
  have hl : i < D.length := (List.getElem?_eq_some_iff.1 hi).1
  rw [h.dense.cellAt i (by simpa using hl)]
  simp [hi, I32]
theorem ThAt.cellA {w : World} {t gd ga N : Nat} {D A : List Nat} (h : ThAt w t gd ga N D A) {i x : Nat} (hi : A[i]? = some x) : w.cell? ⟨ga, i, none⟩ = some (.int .i32 x) := by
  have hl : i < A.length := (List.getElem?_eq_some_iff.1 hi).1
  rw [h.sat.cellAt i (by have := h.sp.len; omega)]
  simp [hi, I32]
theorem ThAt.freeA {w : World} {t gd ga N : Nat} {D A : List Nat} (h : ThAt w t gd ga N D A) (i : Nat) : w.frozen? ⟨ga, i, none⟩ = false := h.sat.frozenAt i

/-! ### add -/
set_option maxHeartbeats 400000 in
theorem add_in (t gd ga k N : Nat) (pc i : Nat) (hi : i < k) (hk : k ≤ N) (hN : N ≤ 2147483647) (hpc : pc < N) (w : World)
    (h0 : w.cell? ⟨t, 0, none⟩ = some (.slice (some ⟨gd, 0, none⟩) k N)) (h1 : w.cell? ⟨t, 1, none⟩ = some (.slice (some ⟨ga, 0, none⟩) N N))
    (h2 : w.cell? ⟨ga, pc, none⟩ = some (.int .i32 i)) (h3 : w.cell? ⟨gd, i, none⟩ = some (.int .i32 pc)) :
    Calls Try.prog 39 #[.pointer (some ⟨t, 0, none⟩), .int .i32 pc] w fun e w' => e = .returned (.bool false) ∧ w' = w := by
  go_enter Try.func39, Try.ntmps39
  go_wp2
  go_ret
  exact ⟨rfl, rfl⟩

/-- What 'add' of a new number leaves. -/
theorem ThAt.pushed {w w0 w1 : World} {t gd ga N pc : Nat} {D A : List Nat} (h : ThAt w t gd ga N D A) (hpc : pc < N) (hn : pc ∉ D)
    (hw0 : w0 = w.setCell ⟨ga, pc, none⟩ (.int .i32 D.length)) {o : Obj}
    (hown : w1.ownsRow 0 21 1 (.slice (some ⟨gd, 0, none⟩) (D.length + 1) N) (D.length + 1) (D.map I32 ++ [.int .i32 pc]))
    (hgr : (w0.alloc o).drew.grownBy w1 (some gd)) :
    ThAt (w1.setCell ⟨t, 0, none⟩ (.slice (some ⟨gd, 0, none⟩) (D.length + 1) N)) t gd ga N (D ++ [pc]) (A.set pc D.length) ∧ Kept (thF t gd ga) w (w1.setCell ⟨t, 0, none⟩ (.slice (some ⟨gd, 0, none⟩) (D.length + 1) N)) ∧
    w1.heap[t]? = some (.cells #[.slice (some ⟨gd, 0, none⟩) D.length N, .slice (some ⟨ga, 0, none⟩) N N] 72 (0, 0)) := by
  subst hw0
  have k1 : Kept (fun k => k = ga ∨ k = gd) w w1 := (((Kept.refl _ w).setCell (p := ⟨ga, pc, none⟩) (fun _ => .inl rfl) _).alloc o).drew.grown hgr (fun k e _ => .inr (by simpa using e.symm))
  have k2 : Kept (fun k => k = gd) (w.setCell ⟨ga, pc, none⟩ (.int .i32 D.length)) w1 := (((Kept.refl _ _).alloc o).drew.grown hgr (fun k e _ => by simpa using e.symm))
  have hh : w1.heap[t]? = some (.cells #[.slice (some ⟨gd, 0, none⟩) D.length N, .slice (some ⟨ga, 0, none⟩) N N] 72 (0, 0)) := k1.heap h.head (fun e => e.elim h.ta h.td)
  refine ⟨⟨?_, ?_, ?_, h.td, h.ta, h.da, h.sp.push hpc hn⟩, ?_, hh⟩
  · rw [heap_setCell hh]
    simp
  · have := ownsRow_setCell_other hown (a := ⟨t, 0, none⟩) (by simpa [Value.ownBlock] using Ne.symm h.td) (.slice (some ⟨gd, 0, none⟩) (D.length + 1) N)
    simpa [I32] using this
  · have h1 := ownsRow_set h.sat pc (.int .i32 D.length)
    have h2 := k2.owns h1 (fun g e => by simp [Value.ownBlock] at e; subst e; exact Ne.symm h.da)
    have h3 := ownsRow_setCell_other h2 (a := ⟨t, 0, none⟩) (by simpa [Value.ownBlock] using Ne.symm h.ta) (.slice (some ⟨gd, 0, none⟩) (D.length + 1) N)
    rw [List.map_set]
    exact h3
  · exact (k1.mono (fun i _ e => e.elim (fun e => .inr (.inr e)) (fun e => .inr (.inl e)))).setCell (fun _ => .inl rfl) _

set_option maxHeartbeats 400000 in
theorem add_new (t gd ga N : Nat) (D A : List Nat) (pc i : Nat) (hN : N ≤ 2147483647) (hpc : pc < N) (hn : pc ∉ D) (w : World) (hth : ThAt w t gd ga N D A) (hA : A[pc]? = some i) :
    Calls Try.prog 39 #[.pointer (some ⟨t, 0, none⟩), .int .i32 pc] w fun e w' => e = .returned (.bool true) ∧ 
      ThAt w' t gd ga N (D ++ [pc]) (A.set pc D.length) ∧ Kept (thF t gd ga) w w' := by
  obtain ⟨i0, hi0, hz0, hz1, hz2⟩ := info_parts Try.info21
  have h0 := hth.cell0
  have h1 := hth.cell1
  have h2 := hth.cellA hA
  have f2 := hth.freeA pc
  have f0 := hth.free0 0
  have hk : D.length < N := hth.sp.length_lt hpc hn
  have hiN : i ≤ N := hth.sp.le i (List.mem_of_getElem? hA)
  have hta := hth.ta
  have htd := hth.td
  have htw : t < w.heap.size := hth.lt t (.inl rfl)
  have hd : Hid ((w.setCell ⟨ga, pc, none⟩ (.int .i32 D.length)).ownsRow 0 21 1 (.slice (some ⟨gd, 0, none⟩) D.length N) D.length (D.map I32)) :=
    ownsRow_setCell_other hth.dense (by simpa [Value.ownBlock] using hth.da) _
  have hno : Hid (i < D.length → D[i]? ≠ some pc) := fun _ e => hn ((hth.sp.mem_iff hA).2 e)
  have hdc : Hid (∀ x, D[i]? = some x → w.cell? ⟨gd, i, none⟩ = some (.int .i32 x)) := fun x e => hth.cellD e
  have hP : Hid (∀ w1 : World, w1.ownsRow 0 21 1 (.slice (some ⟨gd, 0, none⟩) (D.length + 1) N) (D.length + 1) (D.map I32 ++ [.int .i32 pc]) →
      ((w.setCell ⟨ga, pc, none⟩ (.int .i32 D.length)).alloc (.cells #[.int .i32 pc] 21)).drew.grownBy w1 (some gd) →
      ThAt (w1.setCell ⟨t, 0, none⟩ (.slice (some ⟨gd, 0, none⟩) (D.length + 1) N)) t gd ga N (D ++ [pc]) (A.set pc D.length) ∧ Kept (thF t gd ga) w (w1.setCell ⟨t, 0, none⟩ (.slice (some ⟨gd, 0, none⟩) (D.length + 1) N)) ∧
      w1.heap[t]? = some (.cells #[.slice (some ⟨gd, 0, none⟩) D.length N, .slice (some ⟨ga, 0, none⟩) N N] 72 (0, 0))) := fun w1 a b => hth.pushed hpc hn rfl a b
  clear hth hA hn
  generalize hDl : D.length = k at *
  have HDl := hDl
  clear hDl
  by_cases hlt : i < k
  · obtain ⟨x, hx⟩ : ∃ x, D[i]? = some x := ⟨_, List.getElem?_eq_getElem (by omega)⟩
    have h3 := hdc.out x hx
    have hne : ((x : Int) == (pc : Int)) = false := by
      rw [beq_eq_false_iff_ne]; intro e; exact hno.out hlt (by rw [hx]; congr 1; omega)
    clear hno hdc hx HDl
    go_enter Try.func39, Try.ntmps39
    go_wp2_with fail
    go_region
    go_wp2_with (at_builtin; refine wpList_append_fits _ rfl _ _ 69 rfl 0 21 i0 1 Try.underlying69 hi0 hz1 gd k N (D.map I32) rfl (hd.out.drew.alloc _) ⟨w.heap.size, 0, none⟩ 1 1 [.int .i32 pc] rfl rfl ?c1 ?c2 ?c3 ?_)
    case c1 => 
      have := cell_one_new ((w.setCell ⟨ga, pc, none⟩ (Value.int IntKind.i32 k))) (Value.int IntKind.i32 pc) 21
      simpa using this
    case c2 => simp; rfl
    case c3 => omega
    intro w1 hown hgr
    obtain ⟨r1, r2, r3⟩ := hP.out w1 hown hgr
    have f0' : w1.frozen? ⟨t, 0, none⟩ = false := free_of_heap r3
    have c0' := cell_of_heap (i := 0) r3
    simp at c0'
    clear r3 hP hown hgr
    go_wp2
    go_ret
    exact ⟨rfl, r1, r2⟩
  · clear hno hdc HDl
    go_enter Try.func39, Try.ntmps39
    go_wp2_with fail
    go_region
    go_wp2_with (at_builtin; refine wpList_append_fits _ rfl _ _ 69 rfl 0 21 i0 1 Try.underlying69 hi0 hz1 gd k N (D.map I32) rfl (hd.out.drew.alloc _) ⟨w.heap.size, 0, none⟩ 1 1 [.int .i32 pc] rfl rfl ?c1 ?c2 ?c3 ?_)
    case c1 => 
      have := cell_one_new ((w.setCell ⟨ga, pc, none⟩ (Value.int IntKind.i32 k))) (Value.int IntKind.i32 pc) 21
      simpa using this
    case c2 => simp; rfl
    case c3 => omega
    intro w1 hown hgr
    obtain ⟨r1, r2, r3⟩ := hP.out w1 hown hgr
    have f0' : w1.frozen? ⟨t, 0, none⟩ = false := free_of_heap r3
    have c0' := cell_of_heap (i := 0) r3
    simp at c0'
    clear r3 hP hown hgr
    go_wp2
    go_ret
    exact ⟨rfl, r1, r2⟩

/-- 'add': whatever the set. -/
theorem add_any (t gd ga N : Nat) (D A : List Nat) (pc : Nat) (hN : N ≤ 2147483647) (hpc : pc < N) (w : World) (hth : ThAt w t gd ga N D A) :
    Calls Try.prog 39 #[.pointer (some ⟨t, 0, none⟩), .int .i32 pc] w fun e w' => ∃ A', e = .returned (.bool (!D.contains pc)) ∧
      ThAt w' t gd ga N (if pc ∈ D then D else D ++ [pc]) A' ∧ Kept (thF t gd ga) w w' := by
  obtain ⟨i, hA⟩ : ∃ i, A[pc]? = some i := ⟨_, List.getElem?_eq_getElem (by rw [hth.sp.len]; exact hpc)⟩
  by_cases hm : pc ∈ D
  · have hi := (hth.sp.mem_iff hA).1 hm
    have hl : i < D.length := (List.getElem?_eq_some_iff.1 hi).1
    refine (add_in t gd ga D.length N pc i hl hth.sp.length_le hN hpc w hth.cell0 hth.cell1 (hth.cellA hA) (hth.cellD hi)).mono ?_
    rintro e w' ⟨rfl, rfl⟩
    exact ⟨A, by simp [hm], by simpa [hm] using hth, Kept.refl _ _⟩
  · refine (add_new t gd ga N D A pc i hN hpc hm w hth hA).mono ?_
    rintro e w' ⟨rfl, r1, r2⟩
    exact ⟨_, by simp [hm], by simpa [hm] using r1, r2⟩
end Go.Proofs.Qxb6000456a
