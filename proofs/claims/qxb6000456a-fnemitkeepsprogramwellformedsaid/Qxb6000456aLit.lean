import Derived.Test.Qxb6000456aEmSeq
import Derived.Laws.Rows
namespace Go.Proofs.Qxb6000456a
open Go.RowKit
set_option linter.unusedVariables false
set_option linter.unusedSimpArgs false

set_option maxHeartbeats 400000 in
theorem singleton_any (c : UInt8) (w : World) : Calls Try.prog 30 #[.int .u8 c.toNat] w fun e w' => e = .returned (.agg #[.int .u64 (single c).a, .int .u64 (single c).b, .int .u64 (single c).c, .int .u64 (single c).d]) ∧ Kept (fun _ => False) w w' := by
  unfold single
  have hc : c.toNat < 256 := UInt8.toNat_lt c
  generalize c.toNat = k at *
  have h4 : k / 64 = 0 ∨ k / 64 = 1 ∨ k / 64 = 2 ∨ k / 64 = 3 := by omega
  rcases h4 with h4 | h4 | h4 | h4
  all_goals
    simp only [h4, if_true, if_false, Nat.reduceEqDiff]
    go_enter Try.func30, Try.ntmps30
    go_wp2_with fail
    refine bodyPost_ret (results_cell_row (p := 2) (ty := 32) rfl _ _ w.heap.size 32 _ (0, 0) (.array 4 31) rfl (heap_alloc2_old w _ _) (by kernel_rfl) rfl (by kernel_rfl)) rfl ?_
    exact ⟨rfl, ((Kept.refl _ w).alloc _).alloc _⟩

/-- A literal's node in the making. -/
structure LitSt (w0 w : World) (n : Nat) (a : Option Addr) (cap : Nat) (bs : List Nat) (xs : List S4) : Prop where
  sq : SeqAt w n a cap bs xs
  kept : Kept (fun _ => False) w0 w
  new : ∀ k, seqF n a bs k → w0.heap.size ≤ k
  apart : ∀ b ∈ bs, b ≠ n ∧ ownOf a ≠ some b

theorem LitSt.start {w : World} : LitSt w (w.alloc (.cells (nodeCells 1 (.slice none 0 0)) 56)) w.heap.size none 0 [] [] := by
  refine ⟨⟨⟨?_, ?_, ?_⟩, rfl, ?_⟩, (Kept.refl _ w).alloc _, ?_, ?_⟩
  · exact heap_alloc_new w _
  · exact World.ownsRow_nil _ _ _ _
  · intro e; cases e
  · intro i b x h; cases h
  · rintro k (rfl | e | e)
    · exact Nat.le_refl _
    · cases e
    · cases e
  · intro b h; cases h

theorem LitSt.step {w0 w w2 w3 : World} {n : Nat} {a : Option Addr} {cap : Nat} {bs : List Nat} {xs : List S4} {a' : Option Addr} {cap' b : Nat} {x : S4} (h : LitSt w0 w n a cap bs xs) (hk : Kept (fun _ => False) w w2) (hb : ByteNode w2 b x) (hbn : w.heap.size ≤ b)
    (hN : NodeAt w3 n 1 a' cap' (bs ++ [b])) (hk3 : Kept (fun k => k = n ∨ ownOf a = some k) w2 w3) (ha' : ∀ k, ownOf a' = some k → ownOf a = some k ∨ w2.heap.size ≤ k) : LitSt w0 w3 n a' cap' (bs ++ [b]) (xs ++ [x]) := by
  have hblt := lt_of_block hb
  have h0w := h.kept.size
  have hw2 := hk.size
  have hba : b ≠ n ∧ ownOf a ≠ some b := by
    refine ⟨?_, ?_⟩
    · rintro rfl; have := h.sq.lt b (.inl rfl); omega
    · intro e; have := h.sq.lt b (.inr (.inl e)); omega
  have hk03 : Kept (fun _ => False) w0 w3 := by
    refine (h.kept.trans hk (fun _ _ h => h)).trans hk3 ?_
    rintro i hi (rfl | e)
    · have := h.new i (.inl rfl); omega
    · have := h.new i (.inr (.inl e)); omega
  refine ⟨⟨hN, by simp [h.sq.len], ?_⟩, hk03, ?_, ?_⟩
  · intro i b' x' hb' hx'
    by_cases hi : i < bs.length
    · rw [List.getElem?_append_left hi] at hb'
      rw [List.getElem?_append_left (by rw [← h.sq.len]; exact hi)] at hx'
      have hm := h.apart b' (List.mem_of_getElem? hb')
      exact hk3.heap (hk.heap (h.sq.parts i b' x' hb' hx') (fun h => h)) (by rintro (e | e); exact hm.1 e; exact hm.2 e)
    · have hi2 : i = bs.length := by
        have := (List.getElem?_eq_some_iff.1 hb').1
        simp at this; omega
      subst hi2
      rw [List.getElem?_append_right (Nat.le_refl _)] at hb'
      rw [List.getElem?_append_right (by rw [h.sq.len]; exact Nat.le_refl _)] at hx'
      simp [h.sq.len] at hb' hx'
      subst hb' hx'
      exact hk3.heap hb (by rintro (e | e); exact hba.1 e; exact hba.2 e)
  · rintro k (rfl | e | e)
    · exact h.new k (.inl rfl)
    · rcases ha' k e with e | e
      · exact h.new k (.inr (.inl e))
      · omega
    · rcases List.mem_append.1 e with e | e
      · exact h.new k (.inr (.inr e))
      · simp at e; subst e; omega
  · intro b' hb'
    rcases List.mem_append.1 hb' with hb' | hb'
    · have hm := h.apart b' hb'
      refine ⟨hm.1, fun e => ?_⟩
      rcases ha' b' e with e | e
      · exact hm.2 e
      · have := h.sq.lt b' (.inr (.inr hb')); omega
    · simp at hb'; subst hb'
      refine ⟨hba.1, fun e => ?_⟩
      rcases ha' b' e with e | e
      · exact hba.2 e
      · omega

/-- What a call that makes a literal's node hands out. -/
def LitPost (xs : List S4) (w : World) (e : Ending) (w' : World) : Prop :=
  ∃ n a cap bs, e = .returned (ptrV n) ∧ LitSt w w' n a cap bs xs

set_option maxHeartbeats 400000 in
theorem zzLiteral_any (s : ByteArray) (hs : s.size ≤ 1048576) (w : World) : Calls Try.prog 10 #[.string s] w fun e w' => LitPost (s.data.toList.map single) w e w' := by
  have hsd : s.data.toList.length = s.size := by simp
  go_enter Try.func10, Try.ntmps10
  go_wp2_with fail
  refine (zzSeq_any _).mono ?_
  rintro e w1 ⟨rfl, rfl⟩
  have H0 : Hid (LitSt w (w.alloc (.cells (nodeCells 1 (.slice none 0 0)) 56)) w.heap.size none 0 [] ((s.data.toList.take 0).map single)) := LitSt.start
  obtain ⟨n, hn⟩ : ∃ n, n = w.heap.size := ⟨_, rfl⟩
  rw [← hn] at H0 ⊢
  generalize w.alloc (.cells (nodeCells 1 (.slice none 0 0)) 56) = w1 at *
  clear hn
  unfold ptrV
  go_wp2_with fail
  go_loopw [4] (fun i wr => ∃ (k : Nat) (a : Option Addr) (cap : Nat) (bs : List Nat), k ≤ s.size ∧ i = .int .i64 k ∧ bs.length = k ∧ Hid (LitSt w wr n a cap bs ((s.data.toList.take k).map single))) (fun i _ => s.size - (intOf i).toNat)
  case atStart => exact ⟨0, none, 0, [], Nat.zero_le _, rfl, rfl, H0⟩
  case round =>
    obtain ⟨k, a, cap, bs, hk, rfl, hbs, Hst⟩ := hrel
    by_cases hlt : k < s.size
    · have HX : Hid ((s.data.toList.take (k + 1)).map single = (s.data.toList.take k).map single ++ [single s[k]]) := by
        rw [Hid, List.take_add_one, List.getElem?_eq_getElem (by omega)]
        simp
        rfl
      go_wp2_with fail
      refine (singleton_any s[k] _).mono ?_
      rintro e w2 ⟨rfl, hk2⟩
      have HK2 : Hid (Kept (fun _ => False) wr w2) := hk2
      clear hk2
      generalize single s[k] = x at *
      go_wp2_with fail
      refine (zzByte_any x _).mono ?_
      rintro e w3 ⟨rfl, rfl⟩
      have HB : Hid (ByteNode ((w2.alloc (.cells #[.int .u64 x.a, .int .u64 x.b, .int .u64 x.c, .int .u64 x.d] 32)).alloc (.cells (byteCells x) 56)) (w2.heap.size + 1) x) := heap_alloc2_new w2 _ _
      have HK3 : Hid (Kept (fun _ => False) wr ((w2.alloc (.cells #[.int .u64 x.a, .int .u64 x.b, .int .u64 x.c, .int .u64 x.d] 32)).alloc (.cells (byteCells x) 56))) := (HK2.out.alloc _).alloc _
      have hsz : wr.heap.size ≤ w2.heap.size + 1 := by have := HK2.out.size; omega
      generalize (w2.alloc (.cells #[.int .u64 x.a, .int .u64 x.b, .int .u64 x.c, .int .u64 x.d] 32)).alloc (.cells (byteCells x) 56) = w3 at *
      generalize w2.heap.size + 1 = b at *
      clear HK2
      go_wp2_with fail
      refine (addSub_any n 1 b a cap bs (by omega) _ (Hst.out.sq.node.kept HK3.out (fun h => h) (fun _ _ h => h))).mono ?_
      rintro e w4 ⟨rfl, a', cap', hN, hk4, ha4⟩
      have Hst2 : Hid (LitSt w w4 n a' cap' (bs ++ [b]) ((s.data.toList.take (k + 1)).map single)) := by rw [Hid, HX.out]; exact Hst.out.step HK3.out HB.out hsz hN hk4 ha4
      clear hN hk4 ha4
      go_wp2_with fail
      go_roundw
      case rel => exact ⟨k + 1, a', cap', bs ++ [b], by omega, by go_num, by simp [hbs], Hst2⟩
      case measure => simp [intOf]; omega
    · have hke : k = s.size := by omega
      subst hke
      go_wp2_with fail
      go_ret
      refine ⟨n, a, cap, bs, rfl, ?_⟩
      have := Hst.out
      rw [show s.size = s.data.toList.length from by simp, List.take_length] at this
      exact this
end Go.Proofs.Qxb6000456a
