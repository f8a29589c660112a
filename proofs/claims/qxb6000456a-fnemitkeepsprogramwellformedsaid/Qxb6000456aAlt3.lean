import Derived.Test.Qxb6000456aEmAlt
import Derived.Test.Qxb6000456aComp
namespace Go.Proofs.Qxb6000456a
open Go.RowKit
set_option linter.unusedVariables false
set_option linter.unusedSimpArgs false

/-- An alternation in the making. -/
structure AltMk (w0 w : World) (n : Nat) (a : Option Addr) (cap : Nat) (bs : List Nat) (ys : List (List S4)) : Prop where
  node : NodeAt w n 2 a cap bs
  len : bs.length = ys.length
  kept : Kept (fun _ => False) w0 w
  nn : w0.heap.size ≤ n
  na : ∀ k, ownOf a = some k → w0.heap.size ≤ k
  parts : ∀ (i b : Nat) (y : List S4), bs[i]? = some b → ys[i]? = some y → ∃ a' cap' bs', SeqAt w b a' cap' bs' y ∧ ∀ k, seqF b a' bs' k → w0.heap.size ≤ k ∧ k ≠ n ∧ ownOf a ≠ some k

theorem AltMk.start {w : World} : AltMk w (w.alloc (.cells (nodeCells 2 (.slice none 0 0)) 56)) w.heap.size none 0 [] [] := by
  refine ⟨⟨?_, ?_, ?_⟩, rfl, (Kept.refl _ w).alloc _, Nat.le_refl _, ?_, ?_⟩
  · exact heap_alloc_new w _
  · exact World.ownsRow_nil _ _ _ _
  · intro e; cases e
  · intro k e; cases e
  · intro i b y h; cases h

theorem AltMk.step {w0 w w2 w3 : World} {n : Nat} {a : Option Addr} {cap : Nat} {bs : List Nat} {ys : List (List S4)} {a' : Option Addr} {cap' b : Nat} {a2 : Option Addr} {cap2 : Nat} {bs2 : List Nat} {y : List S4} (h : AltMk w0 w n a cap bs ys)
    (hl : LitSt w w2 b a2 cap2 bs2 y) (hN : NodeAt w3 n 2 a' cap' (bs ++ [b])) (hk3 : Kept (fun k => k = n ∨ ownOf a = some k) w2 w3) (ha' : ∀ k, ownOf a' = some k → ownOf a = some k ∨ w2.heap.size ≤ k) : AltMk w0 w3 n a' cap' (bs ++ [b]) (ys ++ [y]) := by
  have h0w := h.kept.size
  have hw2 := hl.kept.size
  have hnw : n < w.heap.size := lt_of_block h.node.head
  have haw : ∀ k, ownOf a = some k → k < w.heap.size := fun k e => (h.node.row.lt k (by rw [ownBlock_slice]; exact e)).2
  refine ⟨hN, by simp [h.len], ?_, h.nn, ?_, ?_⟩
  · refine (h.kept.trans hl.kept (fun _ _ h => h)).trans hk3 ?_
    rintro i hi (rfl | e)
    · have := h.nn; omega
    · have := h.na i e; omega
  · intro k e
    rcases ha' k e with e | e
    · exact h.na k e
    · omega
  · intro i b' y' hb' hy'
    by_cases hi : i < bs.length
    · rw [List.getElem?_append_left hi] at hb'
      rw [List.getElem?_append_left (by rw [← h.len]; exact hi)] at hy'
      obtain ⟨a5, cap5, bs5, k1, k2⟩ := h.parts i b' y' hb' hy'
      have k3 := k1.kept hl.kept (fun _ _ h => h)
      refine ⟨a5, cap5, bs5, k3.kept hk3 ?_, ?_⟩
      · rintro k hk (e | e)
        · exact (k2 k hk).2.1 e
        · exact (k2 k hk).2.2 e
      · intro k hk
        have k4 := k1.lt k hk
        refine ⟨(k2 k hk).1, (k2 k hk).2.1, fun e => ?_⟩
        rcases ha' k e with e | e
        · exact (k2 k hk).2.2 e
        · omega
    · have hi2 : i = bs.length := by
        have := (List.getElem?_eq_some_iff.1 hb').1
        simp at this; omega
      subst hi2
      rw [List.getElem?_append_right (Nat.le_refl _)] at hb'
      rw [List.getElem?_append_right (by rw [h.len]; exact Nat.le_refl _)] at hy'
      simp [h.len] at hb' hy'
      subst hb' hy'
      refine ⟨a2, cap2, bs2, hl.sq.kept hk3 ?_, ?_⟩
      · rintro k hk (e | e)
        · have := hl.new k hk; omega
        · have := hl.new k hk; have := haw k e; omega
      · intro k hk
        have k4 := hl.sq.lt k hk
        have k5 := hl.new k hk
        refine ⟨by omega, by omega, fun e => ?_⟩
        rcases ha' k e with e | e
        · have := haw k e; omega
        · omega

theorem AltMk.done {w0 w : World} {n : Nat} {a : Option Addr} {cap : Nat} {bs : List Nat} {ys : List (List S4)} (h : AltMk w0 w n a cap bs ys) : AltAt w n a cap bs ys (fun k => w0.heap.size ≤ k ∧ k < w.heap.size) := by
  refine ⟨h.node, h.len, ⟨h.nn, lt_of_block h.node.head⟩, fun k e => ⟨h.na k e, (h.node.row.lt k (by rw [ownBlock_slice]; exact e)).2⟩, fun k hk => hk.2, ?_⟩
  intro i b y hb hy
  obtain ⟨a', cap', bs', k1, k2⟩ := h.parts i b y hb hy
  exact ⟨a', cap', bs', k1, fun k hk => ⟨(k2 k hk).1, k1.lt k hk⟩⟩

/-- The call that hangs a literal's node into an alternation. -/
theorem addLit_any {w0 w w2 : World} {n : Nat} {a : Option Addr} {cap : Nat} {bs : List Nat} {ys : List (List S4)} {b : Nat} {a2 : Option Addr} {cap2 : Nat} {bs2 : List Nat} {y : List S4} (h : AltMk w0 w n a cap bs ys) (hb : bs.length ≤ 4194304)
    (hl : LitSt w w2 b a2 cap2 bs2 y) : Calls Try.prog 14 #[.pointer (some ⟨n, 0, none⟩), .pointer (some ⟨b, 0, none⟩)] w2 fun e w' => e = .returned (.tuple #[]) ∧ ∃ a' cap', AltMk w0 w' n a' cap' (bs ++ [b]) (ys ++ [y]) := by
  refine (addSub_any n 2 b a cap bs hb w2 (h.node.kept hl.kept (fun h => h) (fun _ _ h => h))).mono ?_
  rintro e w' ⟨rfl, a', cap', hN, hk, ha'⟩
  exact ⟨rfl, a', cap', h.step hl hN hk ha'⟩

set_option maxHeartbeats 1000000 in
theorem bytesAlt (a b c s : ByteArray) (ha : a.size ≤ maxLen) (hb : b.size ≤ maxLen) (hc : c.size ≤ maxLen) (hs : s.size ≤ maxLen) (w : World) :
    Calls Try.prog 12 #[.string a, .string b, .string c, .string s] w fun e w' => e = .returned (.bool (decide (a.size + b.size + c.size + s.size ≤ 1048576))) ∧ w = w' := by
  unfold maxLen at ha hb hc hs
  have Hp : Hid (∀ t : Bool, (t = decide (a.size + b.size + c.size + s.size ≤ 1048576)) → Ending.returned (.bool t) = Ending.returned (.bool (decide (a.size + b.size + c.size + s.size ≤ 1048576)))) := fun t h => by rw [h]
  by_cases h1 : a.size ≤ 1048576
  · by_cases h2 : b.size ≤ 1048576
    · by_cases h3 : a.size + b.size ≤ 1048576
      · by_cases h4 : c.size ≤ 1048576
        · by_cases h5 : a.size + b.size + c.size ≤ 1048576
          · by_cases h6 : s.size ≤ 1048576
            · by_cases h7 : a.size + b.size + c.size + s.size ≤ 1048576
              · go_enter Try.func12, Try.ntmps12
                go_wp2_with fail
                go_ret
                exact ⟨Hp.out _ (by simp [h7]), rfl⟩
              · go_enter Try.func12, Try.ntmps12
                go_wp2_with fail
                go_ret
                exact ⟨Hp.out _ (by simp; omega), rfl⟩
            · go_enter Try.func12, Try.ntmps12
              go_wp2_with fail
              go_ret
              exact ⟨Hp.out _ (by simp; omega), rfl⟩
          · go_enter Try.func12, Try.ntmps12
            go_wp2_with fail
            go_ret
            exact ⟨Hp.out _ (by simp; omega), rfl⟩
        · go_enter Try.func12, Try.ntmps12
          go_wp2_with fail
          go_ret
          exact ⟨Hp.out _ (by simp; omega), rfl⟩
      · go_enter Try.func12, Try.ntmps12
        go_wp2_with fail
        go_ret
        exact ⟨Hp.out _ (by simp; omega), rfl⟩
    · go_enter Try.func12, Try.ntmps12
      go_wp2_with fail
      go_ret
      exact ⟨Hp.out _ (by simp; omega), rfl⟩
  · go_enter Try.func12, Try.ntmps12
    go_wp2_with fail
    go_ret
    exact ⟨Hp.out _ (by simp; omega), rfl⟩

theorem altR_three (a b c u : List UInt8) : altR [a.map single, b.map single] (c.map single) u ↔ u = a ∨ u = b ∨ u = c := by
  unfold altR
  rw [seqR_lit]
  constructor
  · rintro (⟨z, hz, h⟩ | h)
    · simp only [List.mem_cons, List.not_mem_nil, or_false] at hz
      rcases hz with rfl | rfl
      · exact .inl ((seqR_lit a u).1 h)
      · exact .inr (.inl ((seqR_lit b u).1 h))
    · exact .inr (.inr h)
  · rintro (h | h | h)
    · exact .inl ⟨_, by simp, (seqR_lit a u).2 h⟩
    · exact .inl ⟨_, List.mem_cons_of_mem _ (List.mem_cons_self), (seqR_lit b u).2 h⟩
    · exact .inr h

theorem litWf3 (a b c : List UInt8) : ∀ z ∈ [a.map single, b.map single] ++ [c.map single], ∀ x ∈ z, x.Wf := by
  intro z hz
  simp only [List.cons_append, List.nil_append, List.mem_cons, List.not_mem_nil, or_false] at hz
  rcases hz with rfl | rfl | rfl <;> exact litWf _

set_option maxHeartbeats 2000000 in
theorem alt_main (a b c s : ByteArray) (ha : a.size ≤ 65536) (hb : b.size ≤ 65536) (hc : c.size ≤ 65536) (hs : s.size ≤ 65536) (w : World) :
    Calls Try.prog 4 #[.string a, .string b, .string c, .string s] w fun e w' => e = .returned (.bool true) ∧ Below w.heap.size w w' := by
  have h0 : a.size + b.size + c.size + s.size ≤ 1048576 := by omega
  go_enter Try.func4, Try.ntmps4
  go_wp2_with fail
  refine (bytesAlt a b c s (by unfold maxLen; omega) (by unfold maxLen; omega) (by unfold maxLen; omega) (by unfold maxLen; omega) _).mono ?_
  rintro e w1 ⟨rfl, rfl⟩
  rw [decide_eq_true h0]
  go_wp2_with fail
  refine (zzAlt_any _).mono ?_
  rintro e w1 ⟨rfl, rfl⟩
  have M0 : Hid (AltMk w (w.alloc (.cells (nodeCells 2 (.slice none 0 0)) 56)) w.heap.size none 0 [] []) := AltMk.start
  obtain ⟨n, hn⟩ : ∃ n, n = w.heap.size := ⟨_, rfl⟩
  rw [← hn] at M0 ⊢
  generalize w.alloc (.cells (nodeCells 2 (.slice none 0 0)) 56) = w1 at *
  clear hn
  unfold ptrV
  go_wp2_with fail
  refine (zzLiteral_any a (by omega) _).mono ?_
  rintro e w2 ⟨b1, a1, cap1, bs1, rfl, L1⟩
  have HL1 : Hid (LitSt w1 w2 b1 a1 cap1 bs1 (a.data.toList.map single)) := L1
  clear L1
  unfold ptrV
  go_wp2_with fail
  refine (addLit_any M0.out (by simp) HL1.out).mono ?_
  rintro e w3 ⟨rfl, a3, cap3, M3⟩
  have HM3 : Hid (AltMk w w3 n a3 cap3 [b1] [a.data.toList.map single]) := M3
  clear M3 HL1 M0
  go_wp2_with fail
  refine (zzLiteral_any b (by omega) _).mono ?_
  rintro e w4 ⟨b2, a2, cap2, bs2, rfl, L2⟩
  have HL2 : Hid (LitSt w3 w4 b2 a2 cap2 bs2 (b.data.toList.map single)) := L2
  clear L2
  unfold ptrV
  go_wp2_with fail
  refine (addLit_any HM3.out (by simp) HL2.out).mono ?_
  rintro e w5 ⟨rfl, a5, cap5, M5⟩
  have HM5 : Hid (AltMk w w5 n a5 cap5 [b1, b2] [a.data.toList.map single, b.data.toList.map single]) := M5
  clear M5 HL2 HM3
  go_wp2_with fail
  refine (zzLiteral_any c (by omega) _).mono ?_
  rintro e w6 ⟨b3, a6, cap6, bs3, rfl, L3⟩
  have HL3 : Hid (LitSt w5 w6 b3 a6 cap6 bs3 (c.data.toList.map single)) := L3
  clear L3
  unfold ptrV
  go_wp2_with fail
  refine (addLit_any HM5.out (by simp) HL3.out).mono ?_
  rintro e w7 ⟨rfl, a7, cap7, M7⟩
  have HM7 : Hid (AltMk w w7 n a7 cap7 [b1, b2, b3] ([a.data.toList.map single, b.data.toList.map single] ++ [c.data.toList.map single])) := M7
  have hlen : preLen [a.data.toList.map single, b.data.toList.map single] + (c.data.toList.map single).length ≤ 200000 := by simp [preLen]; omega
  clear M7 HL3 HM5
  go_wp2_with fail
  refine (compile_any n _ _ _ _ (altPart n a7 cap7 [b1, b2, b3] _ _ _ (litWf3 a.data.toList b.data.toList c.data.toList) (by simp)) (by omega) _ rfl _ HM7.out.done).mono ?_
  rintro e w8 ⟨p, m, wa, rfl, S8, K8⟩
  have HS8 : Hid (EmSt p m wa none none w8 (((altG [a.data.toList.map single, b.data.toList.map single] (c.data.toList.map single)).step ⟨[], []⟩).push ⟨3, 0, 0⟩)) := S8
  have HK8 : Hid (Kept (fun _ => False) w w8) := HM7.out.kept.trans K8 (fun _ _ h => h)
  have HF : Hid (Calls Try.prog 11 #[.pointer (some ⟨p, 0, none⟩), .string s] w8 fun e w' => ∃ t : Bool, e = .returned (.bool t) ∧ (t = true ↔ altR [a.data.toList.map single, b.data.toList.map single] (c.data.toList.map single) s.data.toList) ∧ Kept (fun _ => False) w8 w') :=
    EmSt.says HS8.out (altG_good _ _) (altG_recog _ _) (by omega) s (by unfold maxLen; omega)
  clear S8 K8 HM7 HS8 hlen
  unfold ptrV
  have key : ∀ x y : ByteArray, (¬ x = y) → ((x.toList == y.toList) = false ∧ decide (x.toList = y.toList) = false) := by
    intro x y h
    have h2 : ¬ x.toList = y.toList := by
      rw [ByteArray.toList_eq, ByteArray.toList_eq]
      exact fun e => h (toList_inj e)
    exact ⟨beq_eq_false_iff_ne.2 h2, decide_eq_false h2⟩
  have Key : Hid (∀ x y : ByteArray, (¬ x = y) → ((x.toList == y.toList) = false ∧ decide (x.toList = y.toList) = false)) := key
  clear key
  by_cases h1 : s = a
  · subst h1
    go_wp2_with fail
    refine (Calls.mono HF.out ?_)
    rintro e w9 ⟨t, rfl, ht, K9⟩
    have KF : Below w.heap.size w w9 := (HK8.out.trans K9 (fun _ _ h => h)).below (Nat.le_refl _) (fun _ _ h => h)
    have : t = true := ht.2 ((altR_three _ _ _ _).2 (.inl rfl))
    subst this
    clear ht K9 HF HK8
    go_wp2_with fail
    go_ret
    exact ⟨rfl, KF⟩
  · obtain ⟨k1, k1'⟩ := Key.out s a h1
    by_cases h2 : s = b
    · subst h2
      go_wp2_with fail
      refine (Calls.mono HF.out ?_)
      rintro e w9 ⟨t, rfl, ht, K9⟩
      have KF : Below w.heap.size w w9 := (HK8.out.trans K9 (fun _ _ h => h)).below (Nat.le_refl _) (fun _ _ h => h)
      have : t = true := ht.2 ((altR_three _ _ _ _).2 (.inr (.inl rfl)))
      subst this
      clear ht K9 HF HK8
      go_wp2_with fail
      go_ret
      exact ⟨rfl, KF⟩
    · obtain ⟨k2, k2'⟩ := Key.out s b h2
      by_cases h3 : s = c
      · subst h3
        go_wp2_with fail
        refine (Calls.mono HF.out ?_)
        rintro e w9 ⟨t, rfl, ht, K9⟩
        have KF : Below w.heap.size w w9 := (HK8.out.trans K9 (fun _ _ h => h)).below (Nat.le_refl _) (fun _ _ h => h)
        have : t = true := ht.2 ((altR_three _ _ _ _).2 (.inr (.inr rfl)))
        subst this
        clear ht K9 HF HK8
        go_wp2_with fail
        go_ret
        exact ⟨rfl, KF⟩
      · obtain ⟨k3, k3'⟩ := Key.out s c h3
        go_wp2_with fail
        refine (Calls.mono HF.out ?_)
        rintro e w9 ⟨t, rfl, ht, K9⟩
        have KF : Below w.heap.size w w9 := (HK8.out.trans K9 (fun _ _ h => h)).below (Nat.le_refl _) (fun _ _ h => h)
        have : t = false := by
          cases t
          · rfl
          · rcases (altR_three _ _ _ _).1 (ht.1 rfl) with h | h | h
            · exact (h1 (toList_inj h)).elim
            · exact (h2 (toList_inj h)).elim
            · exact (h3 (toList_inj h)).elim
        subst this
        clear ht K9 HF HK8
        go_wp2_with fail
        go_ret
        exact ⟨rfl, KF⟩
end Go.Proofs.Qxb6000456a
