import Derived.Test.Qxb6000456aLit
import Derived.Test.Qxb6000456aRbc
import Derived.ProofKit
import Derived.OpenShut
import Derived.ShutString
import Derived.ChangeOld
import Derived.Lib.SmallJoins
namespace Go.Proofs.Qxb6000456a
open Go.RowKit
set_option linter.unusedVariables false
set_option linter.unusedSimpArgs false

theorem step_acc {g : PG} {c : Nat} {R : List UInt8 → Prop} (rg : Recog g c R) (u : List UInt8) :
    Acc ((g.step ⟨[], []⟩).P ++ [⟨3, 0, 0⟩]) (hasOf (g.step ⟨[], []⟩).L) 0 u ↔ R u := by
  have h := repeat_acc rg 1 1 (.inr (by decide)) u
  have e : g.repeat ⟨[], []⟩ 1 1 = g.step ⟨[], []⟩ := by simp [PG.repeat, PG.optEnd, PG.opt, PG.rep, patchArgs]
  rw [e] at h
  rw [h]
  constructor
  · rintro ⟨r, h1, h2, h3⟩
    have : r = 1 := by rcases h2 with h2 | h2 <;> omega
    subst this
    obtain ⟨u1, u2, rfl, hr, h4⟩ := h3
    cases h4
    simpa using hr
  · intro hr
    exact ⟨1, Nat.le_refl _, .inr (by decide), u, [], by simp, hr, rfl⟩

set_option maxHeartbeats 400000 in
theorem zzEmit_any (p n m : Nat) (w : World) (R : World → Prop) (h : Calls Try.prog 33 #[.pointer (some ⟨p, 0, none⟩), .pointer (some ⟨n, 0, none⟩), .map (some m)] w fun e w' => e = .returned (.tuple #[]) ∧ R w') :
    Calls Try.prog 28 #[.pointer (some ⟨p, 0, none⟩), .pointer (some ⟨n, 0, none⟩), .map (some m)] w fun e w' => e = .returned (.tuple #[]) ∧ R w' := by
  have H : Hid (Calls Try.prog 33 #[.pointer (some ⟨p, 0, none⟩), .pointer (some ⟨n, 0, none⟩), .map (some m)] w fun e w' => e = .returned (.tuple #[]) ∧ R w') := h
  clear h
  go_enter Try.func28, Try.ntmps28
  go_wp2_with fail
  refine (Calls.mono H.out ?_)
  rintro e w' ⟨rfl, hr⟩
  go_wp2_with fail
  go_end0
  exact ⟨rfl, hr⟩

/-- A compiled program. -/
def CompPost (s : St) (w : World) (e : Ending) (w' : World) : Prop :=
  ∃ p m w0, e = .returned (ptrV p) ∧ EmSt p m w0 none none w' (s.push ⟨3, 0, 0⟩) ∧ Kept (fun _ => False) w w'

theorem emSt_kept {p m : Nat} {w0 w : World} {s : St} (h : EmSt p m w0 none none w s) {w1 : World} (h1 : Kept (fun _ => False) w1 w0) (hp : w1.heap.size ≤ p) (hm : w1.heap.size ≤ m) : Kept (fun _ => False) w1 w :=
  h1.trans h.keptW (fun i hi h => by rcases emF_none _ _ _ h with h | h <;> omega)

set_option maxHeartbeats 400000 in
theorem compile_any (n : Nat) (g : PG) (c : Nat) (fp : Nat → Prop) (Node : World → Prop) (ok : PartOK n g c fp Node) (hc : c ≤ 4194000) (st : St) (hst : g.step ⟨[], []⟩ = st) (w : World) (hn : Node w) :
    Calls Try.prog 9 #[.pointer (some ⟨n, 0, none⟩)] w fun e w' => CompPost st w e w' := by
  have HST : Hid (g.step ⟨[], []⟩ = st) := hst
  clear hst
  have HOK : Hid (PartOK n g c fp Node) := ok
  have HN : Hid (Node w) := hn
  clear ok hn
  go_enter Try.func9, Try.ntmps9
  go_wp2_with fail
  refine (newProgram_any _).mono ?_
  rintro e w2 ⟨rfl, hw2⟩
  obtain ⟨p, hp⟩ : ∃ p, p = w.heap.size := ⟨_, rfl⟩
  rw [← hp]
  have K2 : Kept (fun _ => False) w w2 := by rw [hw2]; exact (Kept.refl _ _).alloc _
  have P2 : w2.heap[p]? = some (.cells #[.slice none 0 0, .slice none 0 0] 60 (0, 0)) := by rw [hw2, hp]; exact heap_alloc_new w _
  have hpw : w.heap.size ≤ p := by omega
  clear hw2 hp
  go_wp2_with fail
  refine (newSets_any _).mono ?_
  rintro e w3 ⟨rfl, hw3⟩
  obtain ⟨mm, hmm⟩ : ∃ mm, mm = w2.heap.size := ⟨_, rfl⟩
  rw [← hmm]
  have K3 : Kept (fun _ => False) w2 w3 := by rw [hw3]; exact (Kept.refl _ _).alloc _
  have M3 : w3.heap[mm]? = some (.map #[] 0) := by rw [hw3, hmm]; exact heap_alloc_new w2 _
  have hpm : p ≠ mm := by have := lt_of_block P2; omega
  have hmw : w.heap.size ≤ mm := by have := K2.size; omega
  clear hw3 hmm
  have P3 := K3.heap P2 (fun h => h)
  have K13 : Hid (Kept (fun _ => False) w w3) := K2.trans K3 (fun _ _ h => h)
  have N3 : Node w3 := HOK.out.kept HN.out K13.out (fun _ _ h => h)
  have HC : Hid (Calls Try.prog 33 #[.pointer (some ⟨p, 0, none⟩), .pointer (some ⟨n, 0, none⟩), .map (some mm)] w3 fun e w' => e = .returned (.tuple #[]) ∧ EmSt p mm w3 none none w' st) := by
    rw [← HST.out]
    exact EmSt.call HOK.out N3 (fun k hk h => by have := HOK.out.lt HN.out k hk; rcases emF_none _ _ _ h with h | h <;> omega) ⟨none, 0, none, 0, emSt_new P3 M3 hpm, EmTo.refl _ _ _ _ _⟩ (by simp; omega) (Nat.le_refl _)
  have hlen : st.P.length ≤ 4194000 := by rw [← HST.out, PG.step_length HOK.out.sized]; simp; omega
  clear K2 K3 P2 M3 P3 N3
  go_wp2_with fail
  refine (zzEmit_any p n mm w3 (fun w' => EmSt p mm w3 none none w' st) HC.out).mono ?_
  rintro e w5 ⟨rfl, S5⟩
  have HS5 : Hid (EmSt p mm w3 none none w5 st) := S5
  clear S5
  go_wp2_with fail
  refine (endMatch_any p mm w3 none none st (by omega) w5 HS5.out).mono ?_
  rintro e w6 ⟨rfl, S6⟩
  have HS6 : Hid (EmSt p mm w3 none none w6 (st.push ⟨3, 0, 0⟩)) := S6
  clear S6 HS5 HC
  go_wp2_with fail
  go_ret
  exact ⟨p, mm, w3, rfl, HS6.out, emSt_kept HS6.out K13.out hpw hmw⟩

/-- The matcher on a compiled part. -/
theorem EmSt.says {p m : Nat} {w0 : World} {ai0 as0 : Option Addr} {g : PG} {c : Nat} {R : List UInt8 → Prop} {w : World} (h : EmSt p m w0 ai0 as0 w ((g.step ⟨[], []⟩).push ⟨3, 0, 0⟩)) (hg : g.Good c) (rg : Recog g c R) (hc : c ≤ 4194000) (t : ByteArray) (ht : t.size ≤ maxLen) :
    Calls Try.prog 11 #[.pointer (some ⟨p, 0, none⟩), .string t] w fun e w' => ∃ b : Bool, e = .returned (.bool b) ∧ (b = true ↔ R t.data.toList) ∧ Kept (fun _ => False) w w' := by
  have hl : (g.step ⟨[], []⟩).P.length = c := by rw [PG.step_length hg.sized]; simp
  have hL : (g.step ⟨[], []⟩).L.length ≤ c := by have := PG.step_sets hg.sized ⟨[], []⟩; simpa using this
  refine zzMatches_any p t w _ (fun e w' h => ⟨_, h.choose_spec.1⟩) ?_
  refine (EmSt.matches h (St.Ok.step (fun i hi => by cases hi) hg) (by omega) (by omega) t ht).mono ?_
  rintro e w' ⟨b, rfl, hb, hk⟩
  exact ⟨b, rfl, hb.trans (step_acc rg t.data.toList), hk⟩

theorem toList_inj {a b : ByteArray} (h : a.data.toList = b.data.toList) : a = b := by
  cases a; cases b; simp at h; simp [h]

set_option maxHeartbeats 400000 in
theorem bytesLit (a s : ByteArray) (ha : a.size ≤ maxLen) (hs : s.size ≤ maxLen) (w : World) :
    Calls Try.prog 8 #[.string a, .string s] w fun e w' => e = .returned (.bool (decide (a.size + s.size ≤ 1048576))) ∧ w = w' := by
  unfold maxLen at ha hs
  by_cases h1 : a.size ≤ 1048576
  · by_cases h2 : s.size ≤ 1048576
    · by_cases h3 : a.size + s.size ≤ 1048576
      · go_enter Try.func8, Try.ntmps8
        go_wp2_with fail
        go_ret
        exact ⟨by simp [h3], rfl⟩
      · go_enter Try.func8, Try.ntmps8
        go_wp2_with fail
        go_ret
        exact ⟨by simp [h3], rfl⟩
    · have h3 : ¬ a.size + s.size ≤ 1048576 := by omega
      go_enter Try.func8, Try.ntmps8
      go_wp2_with fail
      go_ret
      exact ⟨by simp [h3], rfl⟩
  · have h3 : ¬ a.size + s.size ≤ 1048576 := by omega
    go_enter Try.func8, Try.ntmps8
    go_wp2_with fail
    go_ret
    exact ⟨by simp [h3], rfl⟩

theorem litWf (l : List UInt8) : ∀ x ∈ l.map single, x.Wf := by
  intro x hx
  obtain ⟨c, _, rfl⟩ := List.mem_map.1 hx
  exact single_wf c

set_option maxHeartbeats 1000000 in
theorem lit_walk (a s : ByteArray) (ha : a.size ≤ maxLen) (hs : s.size ≤ maxLen) (w : World) :
    Calls Try.prog 3 #[.string a, .string s] w fun e w' => e = .returned (.bool true) ∧ Below w.heap.size w w' := by
  have HA : Hid (a.size ≤ maxLen) := ha
  have HS : Hid (s.size ≤ maxLen) := hs
  unfold maxLen at ha hs
  by_cases h1 : a.size + s.size ≤ 1048576
  · by_cases h2 : a.size ≤ 65536 ∧ s.size ≤ 65536
    · obtain ⟨h2, h3⟩ := h2
      go_enter Try.func3, Try.ntmps3
      go_wp2_with fail
      refine (bytesLit a s HA.out HS.out _).mono ?_
      rintro e w1 ⟨rfl, rfl⟩
      rw [decide_eq_true h1]
      go_wp2_with fail
      refine (zzLiteral_any a (by omega) _).mono ?_
      rintro e w2 ⟨n, aa, cap, bs, rfl, L2⟩
      have HL2 : Hid (LitSt w w2 n aa cap bs (a.data.toList.map single)) := L2
      clear L2
      unfold ptrV
      have hlen : (a.data.toList.map single).length = a.size := by simp
      go_wp2_with fail
      refine (compile_any n _ _ _ _ (seqPart n aa cap bs (a.data.toList.map single) (litWf _)) (by omega) _ rfl _ HL2.out.sq).mono ?_
      rintro e w3 ⟨p, m, w0, rfl, S3, K3⟩
      have HS3 : Hid (EmSt p m w0 none none w3 (((seqG (a.data.toList.map single)).step ⟨[], []⟩).push ⟨3, 0, 0⟩)) := S3
      have HK3 : Hid (Kept (fun _ => False) w w3) := HL2.out.kept.trans K3 (fun _ _ h => h)
      clear S3 K3 HL2
      unfold ptrV
      go_wp2_with fail
      refine (EmSt.says HS3.out (seqG_good _) (seqG_recog _) (by omega) s HS.out).mono ?_
      rintro e w4 ⟨b, rfl, hb, K4⟩
      have KF : Below w.heap.size w w4 := (HK3.out.trans K4 (fun _ _ h => h)).below (Nat.le_refl _) (fun _ _ h => h)
      rw [seqR_lit] at hb
      clear HK3 HS3 K4
      by_cases hsa : s = a
      · subst hsa
        have : b = true := hb.2 rfl
        subst this
        clear hb
        go_wp2_with fail
        go_ret
        exact ⟨rfl, KF⟩
      · have : b = false := by
          cases b
          · rfl
          · exact (hsa (toList_inj (hb.1 rfl))).elim
        subst this
        clear hb
        go_wp2_with fail
        go_ret
        exact ⟨by simp; rw [ByteArray.toList_eq, ByteArray.toList_eq]; exact fun h => hsa (toList_inj h), KF⟩
    · by_cases h3 : a.size ≤ 65536
      · have h4 : ¬ s.size ≤ 65536 := fun h => h2 ⟨h3, h⟩
        clear h2
        go_enter Try.func3, Try.ntmps3
        go_wp2_with fail
        refine (bytesLit a s HA.out HS.out _).mono ?_
        rintro e w1 ⟨rfl, rfl⟩
        rw [decide_eq_true h1]
        go_wp2_with fail
        go_ret
        exact ⟨rfl, Below.refl _ _⟩
      · clear h2
        go_enter Try.func3, Try.ntmps3
        go_wp2_with fail
        refine (bytesLit a s HA.out HS.out _).mono ?_
        rintro e w1 ⟨rfl, rfl⟩
        rw [decide_eq_true h1]
        go_wp2_with fail
        go_ret
        exact ⟨rfl, Below.refl _ _⟩
  · go_enter Try.func3, Try.ntmps3
    go_wp2_with fail
    refine (bytesLit a s HA.out HS.out _).mono ?_
    rintro e w1 ⟨rfl, rfl⟩
    rw [decide_eq_false h1]
    go_wp2_with fail
    go_ret
    exact ⟨rfl, Below.refl _ _⟩
end Go.Proofs.Qxb6000456a
