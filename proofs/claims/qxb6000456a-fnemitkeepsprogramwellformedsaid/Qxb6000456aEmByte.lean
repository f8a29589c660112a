import Derived.Test.Qxb6000456aEm
namespace Go.Proofs.Qxb6000456a
open Go.RowKit
set_option linter.unusedVariables false
set_option linter.unusedSimpArgs false

set_option maxHeartbeats 1000000 in
set_option maxRecDepth 100000 in
theorem emit_byte (p m b : Nat) (ai : Option Addr) (ci : Nat) (asx : Option Addr) (cs : Nat) (P : List I) (L : List S4) (x : S4) (hx : x.Wf) (w : World) (hP : P.length ≤ 4194304) (hL : L.length ≤ 4194304)
    (h : EmAt w p m ai ci asx cs P L) (hn : ByteNode w b x) (hb : ¬ emF p m ai asx b) :
    Calls Try.prog 33 #[.pointer (some ⟨p, 0, none⟩), .pointer (some ⟨b, 0, none⟩), .map (some m)] w fun e w' => e = .returned (.tuple #[]) ∧
      ∃ ai' ci' asx' cs', EmAt w' p m ai' ci' asx' cs' (P ++ [⟨0, setIdx L x, P.length + 1⟩]) (addSet L x) ∧ EmTo p m w w' ai asx ai' asx' := by
  have c0 := h.cell0
  have c1 := h.cell1
  have n0 : w.cell? ⟨b, 0, none⟩ = some (.int .u8 0) := by rw [cell_of_heap hn]; rfl
  have n1 : w.cell? ⟨b, 1, none⟩ = some (.int .u64 x.a) := by rw [cell_of_heap hn]; rfl
  have n2 : w.cell? ⟨b, 2, none⟩ = some (.int .u64 x.b) := by rw [cell_of_heap hn]; rfl
  have n3 : w.cell? ⟨b, 3, none⟩ = some (.int .u64 x.c) := by rw [cell_of_heap hn]; rfl
  have n4 : w.cell? ⟨b, 4, none⟩ = some (.int .u64 x.d) := by rw [cell_of_heap hn]; rfl
  have hlook := h.map.look h.wf h.nd x hx
  unfold S4.val at hlook
  by_cases hk : setIdx L x < L.length
  · rw [if_pos hk, decide_eq_true hk] at hlook
    obtain ⟨i0, hi0, hz0, hz1, hz2⟩ := info_parts Try.info64
    have hpw : p < w.heap.size := lt_of_block h.head
    have f0 := h.free 0
    have HE : Hid (EmAt w p m ai ci asx cs P L) := h
    have hwr := wrap_succ hP
    go_enter Try.func33, Try.ntmps33
    go_wp2_with fail
    go_region_law (first
      | (go_simp; go_at_call 38; refine (at_any p ai P.length ci _ (by omega) (by simpa using c0)).mono ?_; rintro e w' ⟨rfl, rfl⟩)
      | (refine step_append_lies _ (by rfl) _ _ 57 (by rfl) 0 64 i0 (.agg #[.int .u8 0, .int .i32 0, .int .i32 0]) 3 12 Try.underlying57 hi0 hz0 hz1 hz2 rfl (by decide) (.slice ai P.length ci) P.length (irow P) (by rfl) (HE.out.rowI.alloc _) ⟨w.heap.size, 0, none⟩ 1 1 [.int .u8 0, .int .i32 (setIdx L x), .int .i32 (P.length + 1)] (by rfl) (by rfl) (World.news_of_block (heap_alloc_new w _)) (by intro u hu; simp at hu; rcases hu with rfl | rfl | rfl <;> rfl) (by decide) (by unfold maxLen; omega) (by omega) (Nat.zero_le _) (w.heap.size + 1) (by simp) ?_; intro g cap w1 hown hgr hg hlt; obtain ⟨r1, r2, r3⟩ := HE.out.pushed ⟨0, setIdx L x, P.length + 1⟩ rfl ((Kept.refl _ w).alloc _).drew hgr hown hg (by omega)))
    all_goals go_wp2_with fail
    all_goals go_end0
    all_goals exact ⟨rfl, _, _, _, _, by rw [addSet_known hk]; exact r1.1, r1.2⟩
  · rw [if_neg hk, decide_eq_false hk] at hlook
    obtain ⟨i0, hi0, hz0, hz1, hz2⟩ := info_parts Try.info64
    obtain ⟨j0, hj0, hy0, hy1, hy2⟩ := info_parts Try.info53
    obtain ⟨w0, hput, hm0, hk0⟩ := h.map.put h.wf h.nd x hx hk
    unfold S4.val at hput
    have hbm : b ≠ m := fun e => hb (.inr (.inl e))
    have hbp : b ≠ p := fun e => hb (.inl e)
    have hh0 := hk0.heap h.head h.pm
    have hn0 := hk0.heap hn hbm
    have HE : Hid (EmAt w p m ai ci asx cs P L) := h
    have HS : Hid (∀ {wa w1 : World} {g cap H : Nat} {news : List Value}, news = scells x → Kept (fun _ => False) w0 wa → wa.grownBy w1 (Value.slice asx L.length cs).ownBlock → w1.ownsRow 0 53 4 (.slice (some ⟨g, 0, none⟩) (L.length + 1) cap) (L.length + 1) (srow L ++ news) →
        ((Value.slice asx L.length cs).ownBlock = some g ∨ g = H) → w0.heap.size ≤ H →
        (EmAt (w1.setCell ⟨p, 1, none⟩ (.slice (some ⟨g, 0, none⟩) (L.length + 1) cap)) p m ai ci (some ⟨g, 0, none⟩) cap P (addSet L x) ∧
        EmTo p m w (w1.setCell ⟨p, 1, none⟩ (.slice (some ⟨g, 0, none⟩) (L.length + 1) cap)) ai asx ai (some ⟨g, 0, none⟩)) ∧
        w1.cell? ⟨p, 1, none⟩ = some (.slice asx L.length cs) ∧ w1.frozen? ⟨p, 1, none⟩ = false) := by
      intro wa w1 g cap H news e1 hka hgr hown hg hH
      subst e1
      rw [ownBlock_slice] at hgr hg
      have hk1 : Kept (fun k => ownOf asx = some k) w0 w1 := (hka.mono (fun _ _ h => h.elim)).grown hgr (fun k e _ => e)
      obtain ⟨r1, r2, r3⟩ := h.pushS hx hk hk0 hm0 hk1 hown (hg.elim (fun h => .inl h) (fun e => .inr (by have := hk0.size; omega)))
      refine ⟨⟨r1, r2⟩, ?_, free_of_heap r3⟩
      rw [cell_of_heap r3]; rfl
    have HR : Hid (w0.ownsRow 0 53 4 (.slice asx L.length cs) L.length (srow L)) := hk0.owns h.rowS (fun k e => by rw [ownBlock_slice] at e; rintro rfl; exact h.ms e)
    have d0 : w0.cell? ⟨p, 0, none⟩ = some (.slice ai P.length ci) := by rw [cell_of_heap hh0]; rfl
    have d1 : w0.cell? ⟨p, 1, none⟩ = some (.slice asx L.length cs) := by rw [cell_of_heap hh0]; rfl
    have g1 : w0.frozen? ⟨p, 1, none⟩ = false := free_of_heap hh0
    have m1 : w0.cell? ⟨b, 1, none⟩ = some (.int .u64 x.a) := by rw [cell_of_heap hn0]; rfl
    have m2 : w0.cell? ⟨b, 2, none⟩ = some (.int .u64 x.b) := by rw [cell_of_heap hn0]; rfl
    have m3 : w0.cell? ⟨b, 3, none⟩ = some (.int .u64 x.c) := by rw [cell_of_heap hn0]; rfl
    have m4 : w0.cell? ⟨b, 4, none⟩ = some (.int .u64 x.d) := by rw [cell_of_heap hn0]; rfl
    have hpw : p < w0.heap.size := lt_of_block hh0
    have hbw : b < w0.heap.size := lt_of_block hn0
    have hidx : setIdx L x = L.length := by have := setIdx_le L x; omega
    rw [hidx]
    clear hidx hh0 hn0 hm0 hk0 h hn
    have hwr := wrap_succ hP
    go_enter Try.func33, Try.ntmps33
    go_wp2_with fail
    go_region_law (refine step_append_lies _ (by rfl) _ _ 58 (by rfl) 0 53 j0 (.agg #[.int .u64 0, .int .u64 0, .int .u64 0, .int .u64 0]) 4 32 Try.underlying58 hj0 hy0 hy1 hy2 rfl (by decide) (.slice asx L.length cs) L.length (srow L) (by rfl) (HR.out.alloc _) ⟨w0.heap.size, 0, none⟩ 1 1 [.int .u64 x.a, .int .u64 x.b, .int .u64 x.c, .int .u64 x.d] (by rfl) (by rfl) (World.news_of_block (heap_alloc_new w0 _)) (by intro u hu; simp at hu; rcases hu with rfl | rfl | rfl | rfl <;> rfl) (by decide) (by unfold maxLen; omega) (by omega) (Nat.zero_le _) (w0.heap.size + 1) (by simp) ?_; intro g cap w1 hown hgr hg hlt; obtain ⟨r1, r2, r3⟩ := HS.out rfl ((Kept.refl _ w0).alloc _).drew hgr hown hg (by omega))
    all_goals
      clear r2 r3 hown hgr hg hlt HS HR hlook hput c0 c1 n0 n1 n2 n3 n4 m1 m2 m3 m4 d0 d1 g1 hj0 hy0 hy1 hy2 hpw hbw
      generalize w1.setCell { block := p, off := 1 } (Value.slice (some { block := g, off := 0 }) (L.length + 1) cap) = w2 at r1 ⊢
      obtain ⟨E2, T2⟩ := r1
      have HE2 : Hid (EmAt w2 p m ai ci (some { block := g, off := 0 }) cap P (addSet L x)) := E2
      have c0 := E2.cell0
      have f0 := E2.free 0
      have hpw : p < w2.heap.size := lt_of_block E2.head
      clear E2
      go_wp2_with fail
      go_region_law (first
        | (go_simp; go_at_call 38; refine (at_any p ai P.length ci _ (by omega) (by simpa using c0)).mono ?_; rintro e w' ⟨rfl, rfl⟩)
        | (refine step_append_lies _ (by rfl) _ _ 57 (by rfl) 0 64 i0 (.agg #[.int .u8 0, .int .i32 0, .int .i32 0]) 3 12 Try.underlying57 hi0 hz0 hz1 hz2 rfl (by decide) (.slice ai P.length ci) P.length (irow P) (by rfl) (HE2.out.rowI.alloc _) ⟨w2.heap.size, 0, none⟩ 1 1 [.int .u8 0, .int .i32 L.length, .int .i32 (P.length + 1)] (by rfl) (by rfl) (World.news_of_block (heap_alloc_new w2 _)) (by intro u hu; simp at hu; rcases hu with rfl | rfl | rfl <;> rfl) (by decide) (by unfold maxLen; omega) (by omega) (Nat.zero_le _) (w2.heap.size + 1) (by simp) ?_; intro g3 cap3 w3 hown hgr hg hlt; obtain ⟨r1, r2, r3⟩ := HE2.out.pushed ⟨0, L.length, P.length + 1⟩ rfl ((Kept.refl _ w2).alloc _).drew hgr hown hg (by omega)))
      all_goals go_wp2_with fail
      all_goals go_end0
      all_goals exact ⟨rfl, _, _, _, _, r1.1, T2.trans r1.2⟩
end Go.Proofs.Qxb6000456a
