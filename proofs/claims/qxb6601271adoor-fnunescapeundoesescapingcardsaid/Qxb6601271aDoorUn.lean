import Derived.Test.Qxb6601271aDoorPw
set_option linter.unusedVariables false
set_option linter.unusedSimpArgs false
namespace Go.Proofs.Qxb6601271aDoor
open Go.RowKit

/-- One step of unescape: what is written, and what is left. -/
def unStep (c : UInt8) (rest : List UInt8) : UInt8 × List UInt8 :=
  if c = 92 ∧ 3 ≤ rest.length then (match parse8 0 (rest.take 3) with | some n => (UInt8.ofNat n, rest.drop 3) | none => (c, rest)) else (c, rest)
def unF : Nat → List UInt8 → List UInt8
  | 0, _ => []
  | _ + 1, [] => []
  | n + 1, c :: rest => (unStep c rest).1 :: unF n (unStep c rest).2
def unesc (l : List UInt8) : List UInt8 := unF l.length l

theorem unStep_le (c : UInt8) (rest : List UInt8) : (unStep c rest).2.length ≤ rest.length := by
  unfold unStep
  split
  · split <;> simp
  · exact Nat.le_refl _
theorem unF_fuel : ∀ (n m : Nat) (l : List UInt8), l.length ≤ n → l.length ≤ m → unF n l = unF m l := by
  intro n
  induction n with
  | zero =>
    intro m l h1 h2
    have : l = [] := List.eq_nil_of_length_eq_zero (by omega)
    subst this
    cases m <;> rfl
  | succ n ih =>
    intro m l h1 h2
    cases l with
    | nil => cases m <;> rfl
    | cons c rest =>
      cases m with
      | zero => simp at h2
      | succ m =>
        have hs := unStep_le c rest
        simp only [List.length_cons] at h1 h2
        simp only [unF]
        rw [ih m (unStep c rest).2 (by omega) (by omega)]
theorem unesc_nil : unesc [] = [] := rfl
theorem unesc_cons (c : UInt8) (rest : List UInt8) : unesc (c :: rest) = (unStep c rest).1 :: unesc (unStep c rest).2 := by
  unfold unesc
  simp only [List.length_cons, unF]
  rw [unF_fuel rest.length (unStep c rest).2.length _ (unStep_le c rest) (Nat.le_refl _)]

theorem parse8_lt : ∀ (l : List UInt8) (acc n : Nat), acc ≤ 255 → parse8 acc l = some n → n ≤ 255 := by
  intro l
  induction l with
  | nil => intro acc n h e; simp [parse8] at e; omega
  | cons c l ih =>
    intro acc n h e
    simp only [parse8] at e
    split at e
    · split at e
      · cases e
      · exact ih _ n (by omega) e
    · cases e

theorem byteCells_snoc (l : List UInt8) (c : UInt8) : Lib.byteCells l ++ [.int .u8 (c.toNat : Int)] = Lib.byteCells (l ++ [c]) := by
  simp [Lib.byteCells]

/-- A builder stands where nothing that lay there has turned. -/
theorem isBuilder_kept {B b : Nat} {bs : List Value} {w w' : World} (h : Lib.IsBuilder 49 5 B b bs w) (hb : Below w.heap.size w w') : Lib.IsBuilder 49 5 B b bs w' := by
  have key : ∀ p, Lib.BuilderAt 49 5 B b p bs w → Lib.BuilderAt 49 5 B b p bs w' := by
    rintro p ⟨h1, v, h2, h3, h4⟩
    have hlt : b < w.heap.size := by
      rcases Nat.lt_or_ge b w.heap.size with h' | h'
      · exact h'
      · simp [Array.getElem?_eq_none h'] at h2
    refine ⟨h1, v, by rw [hb.block b hlt]; exact h2, ?_, h4⟩
    refine ⟨h3.1, ?_⟩
    rcases h3.2 with h | ⟨g, cap, cur, e1, e2, e3, e4⟩
    · exact .inl h
    · have hg : g < w.heap.size := by
        rcases Nat.lt_or_ge g w.heap.size with h' | h'
        · exact h'
        · simp [Array.getElem?_eq_none h'] at e3
      exact .inr ⟨g, cap, cur, e1, e2, by rw [hb.block g hg]; exact e3, e4⟩
  rcases h with h | h
  · exact .inl (key _ h)
  · exact .inr (key _ h)

/-- Where the loop stands: the builder holds what has been written. -/
def UnRel (w wq : World) (b : Nat) (s : ByteArray) (out : List UInt8) (k : Nat) : Prop :=
  Lib.IsBuilder 49 5 w.heap.size b (Lib.byteCells out) wq ∧ Below w.heap.size w wq ∧ out ++ unesc (s.data.toList.drop k) = unesc s.data.toList

set_option maxHeartbeats 1000000 in
set_option maxRecDepth 100000 in
theorem unescape_any (s : ByteArray) (hs : s.size ≤ 4294967296) (w : World) (hv : Vars w) (h4 : 4 ≤ w.heap.size) :
    Calls Tryd.prog 24 #[.string s] w fun e w' => e = .returned (.string ⟨(unesc s.data.toList).toArray⟩) ∧ Below w.heap.size w w' := by
  have HV : Hid (Vars w) := hv
  clear hv
  go_enter Tryd.func24, Tryd.ntmps24
  go_wp2_with fail
  obtain ⟨b, hb⟩ : ∃ b, b = w.heap.size := ⟨_, rfl⟩
  have H0 : Hid (UnRel w (w.alloc (.cells #[.pointer none, .slice none 0 0] 49)) b s [] 0) := by
    rw [hb]
    refine ⟨.inl ⟨Nat.le_refl _, .slice none 0 0, heap_alloc_new w _, World.ownsRow_nil _ _ _ _, by simp [Value.ownBlock]⟩, (Below.refl _ _).alloc (Nat.le_refl _) _, by simp⟩
  rw [← hb]
  have hbw : w.heap.size ≤ b := by omega
  clear hb
  generalize w.alloc (.cells #[.pointer none, .slice none 0 0] 49) = w1 at *
  have hsd : s.data.toList.length = s.size := by simp
  have HSD : Hid (s.data.toList.length = s.size) := hsd
  clear hsd
  go_loopw [4] (fun i wq => ∃ (k : Nat) (out : List UInt8), k ≤ s.size ∧ i = .int .i64 k ∧ out.length ≤ k ∧ Hid (UnRel w wq b s out k)) (fun i _ => s.size - (intOf i).toNat)
  case atStart => exact ⟨0, [], Nat.zero_le _, rfl, Nat.le_refl _, H0⟩
  case round =>
    obtain ⟨k, out, hk, rfl, hol, HR⟩ := hrel
    have hsz : w.heap.size ≤ wr.heap.size := HR.out.2.1.size
    by_cases hlt : k < s.size
    · have hc256 : (s[k]'hlt).toNat < 256 := UInt8.toNat_lt _
      have HD : Hid (s.data.toList.drop k = s[k]'hlt :: s.data.toList.drop (k + 1)) := by
        rw [Hid, List.drop_eq_getElem_cons (by rw [HSD.out]; exact hlt)]; rfl
      by_cases hesc : (s[k]'hlt).toNat = 92 ∧ k + 4 ≤ s.size
      · obtain ⟨hc92, hk4⟩ := hesc
        have hb92 : (((s[k]'hlt).toNat : Int) == 92) = true := by rw [hc92]; rfl
        obtain ⟨t, ht⟩ : ∃ t, t = s.extract (k + 1) (k + 4) := ⟨_, rfl⟩
        have htl : t.data.toList = (s.data.toList.drop (k + 1)).take 3 := by rw [ht]; simp [ByteArray.data_extract, List.drop_take]
        have hts : t.size = 3 := by
          have : t.size = t.data.toList.length := by simp
          rw [this, htl]; simp; omega
        have HT : Hid (t = s.extract (k + 1) (k + 4)) := ht
        have HTL : Hid (t.data.toList = (s.data.toList.drop (k + 1)).take 3) := htl
        have H92 : Hid ((s[k]'hlt).toNat = 92) := hc92
        clear ht htl hc92
        have hsl : ∀ wx : World, (Instr.slice 9 (.string s) (some (.int .i64 ((k : Int) + 1))) (some (.int .i64 ((k : Int) + 4))) none).run Tryd.prog wx = .ok (.string t) wx := by
          intro wx
          rw [HT.out]
          have := run_slice_string (P := Tryd.prog) (w := wx) 9 s .i64 .i64 ((k : Int) + 1) ((k : Int) + 4) Tryd.underlying9 (by omega) (by omega) (by omega)
          rw [this]
          congr 2
        clear HT
        go_wp2_with fail
        refine (parseUint_any t (by omega) (by omega) _ (HV.out.below HR.out.2.1 h4) (by omega)).mono ?_
        rintro e w2 ⟨hp, hb2⟩
        have HBd : Hid (Lib.IsBuilder 49 5 w.heap.size b (Lib.byteCells out) w2 ∧ Below w.heap.size w w2) := by
          have hbl : Below w.heap.size w w2 := HR.out.2.1.trans (hb2.mono hsz)
          exact ⟨isBuilder_kept HR.out.1 hb2, hbl⟩
        rw [HTL.out] at hp
        have hst : unStep (s[k]'hlt) (s.data.toList.drop (k + 1)) = (match parse8 0 ((s.data.toList.drop (k + 1)).take 3) with | some n => (UInt8.ofNat n, (s.data.toList.drop (k + 1)).drop 3) | none => (s[k]'hlt, s.data.toList.drop (k + 1))) := by
          unfold unStep
          rw [if_pos ⟨UInt8.toNat.inj (by rw [H92.out]; rfl), by rw [List.length_drop, HSD.out]; omega⟩]
        have heq := HR.out.2.2
        rw [HD.out, unesc_cons, hst] at heq
        cases hr : parse8 0 ((s.data.toList.drop (k + 1)).take 3) with
        | some n =>
          rw [hr] at hp heq
          have hp' : e = .returned (.tuple #[.int .u64 n, .nilIface]) := hp
          subst hp'
          have hn : n ≤ 255 := parse8_lt _ 0 n (by omega) hr
          have HEQ : Hid (out ++ ([UInt8.ofNat n] ++ unesc (s.data.toList.drop (k + 4))) = unesc s.data.toList) := by
            rw [Hid, ← heq]
            simp [List.drop_drop]
          have hun : (UInt8.ofNat n).toNat = n := by simp; omega
          have HUN : Hid ((UInt8.ofNat n).toNat = n) := hun
          clear hp hr heq hst hun hb2 HR HD HTL H92
          go_wp2_with fail
          refine (writeByte_any w.heap.size b (Lib.byteCells out) _ _ HBd.out.1 (by rw [Lib.byteCells_length]; omega) HBd.out.2.size).mono ?_
          rintro e w3 ⟨rfl, hb3, hbl3⟩
          have HR2 : Hid (UnRel w w3 b s (out ++ [UInt8.ofNat n]) (k + 4)) := by
            refine ⟨.inr (by rw [← byteCells_snoc]; rw [HUN.out]; exact hb3), HBd.out.2.trans hbl3, ?_⟩
            rw [List.append_assoc]; exact HEQ.out
          clear hb3 hbl3
          go_wp2_with fail
          go_roundw
          case rel => exact ⟨k + 4, out ++ [UInt8.ofNat n], by omega, by go_num, by simp; omega, HR2⟩
          case measure => simp [intOf]; omega
        | none =>
          rw [hr] at hp heq
          obtain ⟨v, N, rfl⟩ := hp
          have HEQ : Hid (out ++ ([s[k]'hlt] ++ unesc (s.data.toList.drop (k + 1))) = unesc s.data.toList) := heq
          clear hr heq hst hb2 HR HD HTL H92
          go_wp2_with fail
          refine (writeByte_any w.heap.size b (Lib.byteCells out) _ _ HBd.out.1 (by rw [Lib.byteCells_length]; omega) HBd.out.2.size).mono ?_
          rintro e w3 ⟨rfl, hb3, hbl3⟩
          have HR2 : Hid (UnRel w w3 b s (out ++ [s[k]'hlt]) (k + 1)) := by
            refine ⟨.inr (by rw [← byteCells_snoc]; exact hb3), HBd.out.2.trans hbl3, ?_⟩
            rw [List.append_assoc]; exact HEQ.out
          clear hb3 hbl3
          go_wp2_with fail
          go_roundw
          case rel => exact ⟨k + 1, out ++ [s[k]'hlt], by omega, by go_num, by simp; omega, HR2⟩
          case measure => simp [intOf]; omega
      · have hst : unStep (s[k]'hlt) (s.data.toList.drop (k + 1)) = (s[k]'hlt, s.data.toList.drop (k + 1)) := by
          unfold unStep
          rw [if_neg]
          rintro ⟨h1, h2⟩
          refine hesc ⟨by rw [h1]; rfl, ?_⟩
          rw [List.length_drop, HSD.out] at h2
          omega
        have heq := HR.out.2.2
        rw [HD.out, unesc_cons, hst] at heq
        have HEQ : Hid (out ++ ([s[k]'hlt] ++ unesc (s.data.toList.drop (k + 1))) = unesc s.data.toList) := heq
        have HBd : Hid (Lib.IsBuilder 49 5 w.heap.size b (Lib.byteCells out) wr ∧ Below w.heap.size w wr) := ⟨HR.out.1, HR.out.2.1⟩
        clear heq hst HR HD
        by_cases hc92 : (s[k]'hlt).toNat = 92
        · have hb92 : (((s[k]'hlt).toNat : Int) == 92) = true := by rw [hc92]; rfl
          have hk4 : ¬ k + 4 ≤ s.size := fun h => hesc ⟨hc92, h⟩
          clear hesc hc92
          go_wp2_with fail
          refine (writeByte_any w.heap.size b (Lib.byteCells out) _ _ HBd.out.1 (by rw [Lib.byteCells_length]; omega) HBd.out.2.size).mono ?_
          rintro e w3 ⟨rfl, hb3, hbl3⟩
          have HR2 : Hid (UnRel w w3 b s (out ++ [s[k]'hlt]) (k + 1)) := by
            refine ⟨.inr (by rw [← byteCells_snoc]; exact hb3), HBd.out.2.trans hbl3, ?_⟩
            rw [List.append_assoc]; exact HEQ.out
          clear hb3 hbl3
          go_wp2_with fail
          go_roundw
          case rel => exact ⟨k + 1, out ++ [s[k]'hlt], by omega, by go_num, by simp; omega, HR2⟩
          case measure => simp [intOf]; omega
        · have hb92 : (((s[k]'hlt).toNat : Int) == 92) = false := by rw [beq_eq_false_iff_ne]; omega
          clear hesc hc92
          go_wp2_with fail
          refine (writeByte_any w.heap.size b (Lib.byteCells out) _ _ HBd.out.1 (by rw [Lib.byteCells_length]; omega) HBd.out.2.size).mono ?_
          rintro e w3 ⟨rfl, hb3, hbl3⟩
          have HR2 : Hid (UnRel w w3 b s (out ++ [s[k]'hlt]) (k + 1)) := by
            refine ⟨.inr (by rw [← byteCells_snoc]; exact hb3), HBd.out.2.trans hbl3, ?_⟩
            rw [List.append_assoc]; exact HEQ.out
          clear hb3 hbl3
          go_wp2_with fail
          go_roundw
          case rel => exact ⟨k + 1, out ++ [s[k]'hlt], by omega, by go_num, by simp; omega, HR2⟩
          case measure => simp [intOf]; omega
    · have hke : k = s.size := by omega
      subst hke
      have heq := HR.out.2.2
      rw [← HSD.out, List.drop_length, unesc_nil, List.append_nil] at heq
      have HO : Hid (out = unesc s.data.toList) := heq
      clear heq
      go_wp2_with fail
      refine (Tryd.Builder_String_any w.heap.size b out _ HR.out.1 HR.out.2.1.size).mono ?_
      rintro e w3 ⟨rfl, hb3⟩
      have KF : Below w.heap.size w w3 := HR.out.2.1.trans hb3
      clear hb3 HR
      go_wp2_with fail
      go_ret
      exact ⟨by rw [← HO.out]; rfl, KF⟩
end Go.Proofs.Qxb6601271aDoor
