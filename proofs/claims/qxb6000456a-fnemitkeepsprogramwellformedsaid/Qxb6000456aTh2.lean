import Derived.Test.Qxb6000456aTh
import Derived.Deep.OwnRows
namespace Go.Proofs.Qxb6000456a
open Go.RowKit
set_option linter.unusedVariables false

theorem ownsRow_made0 {w : World} {e : TypeId} {b n : Nat} {cs : Array Value} (h : w.heap[b]? = some (.cells cs e (0, 0))) (hs : cs.size = n) (hn : n ≤ maxLen) :
    w.ownsRow 0 e 1 (.slice (some ⟨b, 0, none⟩) 0 n) 0 [] :=
  ⟨by simp, .inr ⟨b, n, cs, rfl, Nat.zero_le _, h, Nat.zero_le _, hn, by simpa using hs, by simp⟩⟩
theorem ownsRow_full {w : World} {e : TypeId} {b n : Nat} {cs : Array Value} (h : w.heap[b]? = some (.cells cs e (0, 0))) (hs : cs.size = n) (hn : n ≤ maxLen) :
    w.ownsRow 0 e 1 (.slice (some ⟨b, 0, none⟩) n n) n cs.toList :=
  ⟨by simpa using hs, .inr ⟨b, n, cs, rfl, Nat.zero_le _, h, Nat.le_refl _, hn, by simpa using hs, by rw [← hs]; simp [List.take_of_length_le]⟩⟩

theorem heap_alloc3 (w : World) (a b c : Obj) : (((w.alloc a).alloc b).alloc c).heap[w.heap.size]? = some a ∧ (((w.alloc a).alloc b).alloc c).heap[w.heap.size + 1]? = some b ∧ (((w.alloc a).alloc b).alloc c).heap[w.heap.size + 1 + 1]? = some c := by
  have s1 : ∀ (v : World) (o : Obj), (v.alloc o).heap.size = v.heap.size + 1 := fun v o => by show (v.heap.push o).size = _; simp
  have n1 : (w.alloc a).heap[w.heap.size]? = some a := heap_alloc_new w a
  have n2 : ((w.alloc a).alloc b).heap[w.heap.size + 1]? = some b := by have := heap_alloc_new (w.alloc a) b; rwa [s1] at this
  have n3 : (((w.alloc a).alloc b).alloc c).heap[w.heap.size + 1 + 1]? = some c := by have := heap_alloc_new ((w.alloc a).alloc b) c; rwa [s1, s1] at this
  refine ⟨?_, ?_, n3⟩
  · rw [Below.heap_alloc _ _ _ (by rw [s1, s1]; omega), Below.heap_alloc _ _ _ (by rw [s1]; omega)]; exact n1
  · rw [Below.heap_alloc _ _ _ (by rw [s1, s1]; omega)]; exact n2

theorem ThAt.made {w : World} {t gd ga N : Nat} (hN : N ≤ 2147483647) (h1 : w.heap[t]? = some (.cells #[.slice (some ⟨gd, 0, none⟩) 0 N, .slice (some ⟨ga, 0, none⟩) N N] 72 (0, 0)))
    (h2 : w.heap[gd]? = some (.cells (madeCells #[.int .i32 0] N) 21 (0, 0))) (h3 : w.heap[ga]? = some (.cells (madeCells #[.int .i32 0] N) 21 (0, 0))) (td : t ≠ gd) (ta : t ≠ ga) (da : gd ≠ ga) :
    ThAt w t gd ga N [] (List.replicate N 0) :=
  ⟨h1, by simpa using ownsRow_made0 h2 (size_madeCells _ _) (by unfold maxLen; omega), by
    have := ownsRow_full h3 (size_madeCells _ _) (by unfold maxLen; omega)
    rw [toList_madeCells_one] at this
    simpa [I32] using this, td, ta, da, Sparse.start N⟩

set_option maxHeartbeats 400000 in
theorem newThreads_any (N : Nat) (hN : N ≤ 2147483647) (w : World) :
    Calls Try.prog 34 #[.int .i64 N] w fun e w' => ∃ t gd ga, e = .returned (.pointer (some ⟨t, 0, none⟩)) ∧ ThAt w' t gd ga N [] (List.replicate N 0) ∧ Kept (fun _ => False) w w' ∧
      (∀ k, thF t gd ga k → w.heap.size ≤ k) := by
  have m1 := run_make_row' (P := Try.prog) 69 21 (.int .i32 0) 4 Try.underlying69 Try.info21 rfl .i64 .i64 N (by omega) (by omega)
  obtain ⟨i0, hi0, hz0, hz1, hz2⟩ := info_parts Try.info21
  have m2 : ∀ w : World, (Instr.makeSlice 69 (.int .i64 0) (.int .i64 (N : Int))).run Try.prog w = .ok (.slice (some ⟨w.heap.size, 0, none⟩) 0 N) (w.alloc (.cells (madeCells #[.int .i32 0] N) 21)) := by
    intro w
    have := run_make (P := Try.prog) w 69 21 i0 (.int .i32 0) Try.underlying69 hi0 hz0 .i64 .i64 0 N (by omega) (by omega) (by rw [hz2]; omega) (by omega)
    simpa [hz1, Value.cells] using this
  clear hi0 hz0 hz1 hz2 
  go_enter Try.func34, Try.ntmps34
  go_wp2
  go_region
  all_goals go_wp2
  all_goals go_ret
  · obtain ⟨a1, a2, a3⟩ := heap_alloc3 w (.cells (madeCells #[Value.int IntKind.i32 0] N) 21) (.cells (madeCells #[Value.int IntKind.i32 0] N) 21) (.cells #[Value.slice (some { block := w.heap.size, off := 0 }) 0 N, Value.slice (some { block := w.heap.size + 1, off := 0 }) N N] 72)
    refine ⟨w.heap.size + 1 + 1, w.heap.size, w.heap.size + 1, rfl, ThAt.made hN a3 a1 a2 (by omega) (by omega) (by omega), (((Kept.refl _ _).alloc _).alloc _).alloc _ |>.drew, ?_⟩
    rintro k (rfl | rfl | rfl) <;> omega
  · obtain ⟨a1, a2, a3⟩ := heap_alloc3 w (.cells (madeCells #[Value.int IntKind.i32 0] N) 21) (.cells (madeCells #[Value.int IntKind.i32 0] N) 21) (.cells #[Value.slice (some { block := w.heap.size + 1, off := 0 }) 0 N, Value.slice (some { block := w.heap.size, off := 0 }) N N] 72)
    refine ⟨w.heap.size + 1 + 1, w.heap.size + 1, w.heap.size, rfl, ThAt.made hN a3 a2 a1 (by omega) (by omega) (by omega), (((Kept.refl _ _).alloc _).alloc _).alloc _ |>.drew, ?_⟩
    rintro k (rfl | rfl | rfl) <;> omega

set_option maxHeartbeats 400000 in
theorem clear_any (t gd ga N : Nat) (D A : List Nat) (w : World) (hth : ThAt w t gd ga N D A) :
    Calls Try.prog 36 #[.pointer (some ⟨t, 0, none⟩)] w fun e w' => e = .returned (.tuple #[]) ∧ ThAt w' t gd ga N [] A ∧ Kept (thF t gd ga) w w' := by
  have h0 := hth.cell0
  have f0 := hth.free0 0
  have hn := hth.sp.length_le
  have hr : Hid (ThAt (w.setCell ⟨t, 0, none⟩ (.slice (some ⟨gd, 0, none⟩) 0 N)) t gd ga N [] A) := by
    refine ⟨?_, ?_, ?_, hth.td, hth.ta, hth.da, hth.sp.clear⟩
    · rw [heap_setCell hth.head]; simp
    · have := ownsRow_take hth.dense (Nat.zero_le _)
      simpa using ownsRow_setCell_other this (a := ⟨t, 0, none⟩) (by simpa [Value.ownBlock] using Ne.symm hth.td) _
    · exact ownsRow_setCell_other hth.sat (a := ⟨t, 0, none⟩) (by simpa [Value.ownBlock] using Ne.symm hth.ta) _
  clear hth
  go_enter Try.func36, Try.ntmps36
  go_wp2
  go_end0
  exact ⟨rfl, hr, (Kept.refl _ _).setCell (fun _ => .inl rfl) _⟩
end Go.Proofs.Qxb6000456a
