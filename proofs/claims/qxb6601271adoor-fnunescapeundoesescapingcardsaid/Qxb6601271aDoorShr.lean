import Derived.Test.Qxb6601271aDoorUn
import Derived.ProofKit
set_option linter.unusedVariables false
set_option linter.unusedSimpArgs false
namespace Go.Proofs.Qxb6601271aDoor
open Go.RowKit

theorem unStep_cases (c : UInt8) (rest : List UInt8) : unStep c rest = (c, rest) ∨ (c = 92 ∧ 3 ≤ rest.length ∧ (unStep c rest).2 = rest.drop 3) := by
  unfold unStep
  split
  · rename_i h
    split
    · exact .inr ⟨h.1, h.2, rfl⟩
    · exact .inl rfl
  · exact .inl rfl

theorem unesc_shrinks : ∀ (n : Nat) (l : List UInt8), l.length ≤ n → ∃ d, l.length = (unesc l).length + 3 * d ∧ d ≤ l.count 92 ∧ (l.count 92 = 0 → unesc l = l) := by
  intro n
  induction n with
  | zero =>
    intro l h
    have : l = [] := List.eq_nil_of_length_eq_zero (by omega)
    subst this
    exact ⟨0, rfl, Nat.le_refl _, fun _ => rfl⟩
  | succ n ih =>
    intro l h
    cases l with
    | nil => exact ⟨0, rfl, Nat.le_refl _, fun _ => rfl⟩
    | cons c rest =>
      simp only [List.length_cons] at h
      rw [unesc_cons]
      rcases unStep_cases c rest with e | ⟨e1, e2, e3⟩
      · rw [e]
        obtain ⟨d, h1, h2, h3⟩ := ih rest (by omega)
        refine ⟨d, by simp only [List.length_cons]; omega, ?_, ?_⟩
        · rw [List.count_cons]; omega
        · intro h4
          rw [List.count_cons] at h4
          rw [h3 (by omega)]
      · rw [e3]
        obtain ⟨d, h1, h2, h3⟩ := ih (rest.drop 3) (by simp; omega)
        have hle : (rest.drop 3).count 92 ≤ rest.count 92 := List.Sublist.count_le 92 (List.drop_sublist 3 rest)
        have hl : (rest.drop 3).length = rest.length - 3 := List.length_drop
        refine ⟨d + 1, by simp only [List.length_cons]; omega, ?_, ?_⟩
        · rw [List.count_cons, e1]; simp; omega
        · intro h4
          rw [List.count_cons, e1] at h4
          simp at h4

set_option maxHeartbeats 400000 in
theorem zzunescape_any (s : ByteArray) (hs : s.size ≤ 4294967296) (w : World) (hv : Vars w) (h4 : 4 ≤ w.heap.size) :
    Calls Tryd.prog 10 #[.string s] w fun e w' => e = .returned (.string ⟨(unesc s.data.toList).toArray⟩) ∧ Below w.heap.size w w' := by
  have HV : Hid (Vars w) := hv
  clear hv
  go_enter Tryd.func10, Tryd.ntmps10
  go_wp2_with fail
  refine (unescape_any s hs w HV.out h4).mono ?_
  rintro e w' ⟨rfl, hb⟩
  have HB : Hid (Below w.heap.size w w') := hb
  clear hb
  go_wp2_with fail
  go_ret
  exact ⟨rfl, HB.out⟩

set_option maxHeartbeats 400000 in
theorem bytes13 (s : ByteArray) (hs : s.size ≤ maxLen) (w : World) : Calls Tryd.prog 13 #[.string s] w fun e w' => e = .returned (.bool (decide (s.size ≤ 1048576))) ∧ w = w' := by
  unfold maxLen at hs
  by_cases h1 : s.size ≤ 1048576
  · go_enter Tryd.func13, Tryd.ntmps13
    go_wp2_with fail
    go_ret
    exact ⟨by simp [h1], rfl⟩
  · go_enter Tryd.func13, Tryd.ntmps13
    go_wp2_with fail
    go_ret
    exact ⟨by simp [h1], rfl⟩

theorem mk_toList (l : List UInt8) : (⟨l.toArray⟩ : ByteArray).data.toList = l := by simp
theorem toList_inj {a b : ByteArray} (h : a.data.toList = b.data.toList) : a = b := by
  cases a; cases b; simp at h; simp [h]

set_option maxHeartbeats 1000000 in
set_option maxRecDepth 100000 in
theorem shr_walk (s : ByteArray) (hs : s.size ≤ maxLen) (w : World) (hv : Vars w) (h4 : 4 ≤ w.heap.size) :
    Calls Tryd.prog 5 #[.string s] w fun e w' => e = .returned (.bool true) ∧ Below w.heap.size w w' := by
  have HS : Hid (s.size ≤ maxLen) := hs
  have HV : Hid (Vars w) := hv
  unfold maxLen at hs
  clear hv
  by_cases h1 : s.size ≤ 1048576
  · go_enter Tryd.func5, Tryd.ntmps5
    go_wp2_with fail
    refine (bytes13 s HS.out _).mono ?_
    rintro e w1 ⟨rfl, rfl⟩
    rw [decide_eq_true h1]
    go_wp2_with fail
    refine (zzunescape_any s (by omega) _ HV.out h4).mono ?_
    rintro e w1 ⟨rfl, hb1⟩
    have HB : Hid (Below w.heap.size w w1) := hb1
    clear hb1
    obtain ⟨u, hu⟩ : ∃ u : ByteArray, u = ⟨(unesc s.data.toList).toArray⟩ := ⟨_, rfl⟩
    have hul : u.size = (unesc s.data.toList).length := by rw [hu]; simp [ByteArray.size]
    have hsl : s.data.toList.length = s.size := by simp
    obtain ⟨d, q1, q2, q3⟩ := unesc_shrinks s.data.toList.length s.data.toList (Nat.le_refl _)
    rw [hsl, ← hul] at q1
    have HQ2 : Hid (d ≤ s.data.toList.count 92) := q2
    have HQ3 : Hid (s.data.toList.count 92 = 0 → u = s) := by
      intro h
      apply toList_inj
      rw [hu, mk_toList]
      exact q3 h
    have HSL : Hid (s.data.toList.length = s.size) := hsl
    have HU : Hid (u = ⟨(unesc s.data.toList).toArray⟩) := hu
    rw [← hu]
    clear hu hul q2 q3 hsl
    have hle : u.size ≤ s.size := by omega
    have hsub : (s.size : Int) - (u.size : Int) = 3 * (d : Int) := by omega
    have HSUB : Hid ((s.size : Int) - (u.size : Int) = 3 * (d : Int)) := hsub
    have hmod : ((((s.size : Int) - (u.size : Int)) % 3) != 0) = false := by rw [hsub]; simp
    have hdl : d ≤ s.size := by omega
    clear hsub q1
    go_wp2_with fail
    go_loop [4, 5] (fun v i => ∃ (k c : Nat), k ≤ s.size ∧ c ≤ k ∧ i = .int .i64 k ∧ v = .int .i64 c ∧ Hid (c = (s.data.toList.take k).count 92)) (fun _ i => s.size - (intOf i).toNat)
    case atStart => exact ⟨0, 0, Nat.zero_le _, Nat.le_refl _, rfl, rfl, rfl⟩
    case round =>
      obtain ⟨k, c, hk, hck, rfl, rfl, HC⟩ := hrel
      by_cases hlt : k < s.size
      · have HX : Hid ((s.data.toList.take (k + 1)).count 92 = (s.data.toList.take k).count 92 + (if s[k]'hlt = 92 then 1 else 0)) := by
          rw [Hid, List.take_add_one, List.getElem?_eq_getElem (by rw [HSL.out]; exact hlt)]
          simp only [Option.toList_some, List.count_append, List.count_cons, List.count_nil, Nat.zero_add]
          congr 1
          have e : s.data.toList[k]'(by rw [HSL.out]; exact hlt) = s[k]'hlt := rfl
          rw [e]
          by_cases h : s[k]'hlt = 92
          · simp [h]
          · simp [h]
        have hc256 : (s[k]'hlt).toNat < 256 := UInt8.toNat_lt _
        by_cases h92 : s[k]'hlt = 92
        · have hb : (((s[k]'hlt).toNat : Int) == 92) = true := by rw [h92]; rfl
          have HC2 : Hid (c + 1 = (s.data.toList.take (k + 1)).count 92) := by rw [Hid, HX.out, if_pos h92, HC.out]
          clear h92 HX HC
          go_wp2_with fail
          go_round
          case rel => exact ⟨k + 1, c + 1, by omega, by omega, by go_num, by go_num, HC2⟩
          case measure => simp [intOf]; omega
        · have hb : (((s[k]'hlt).toNat : Int) == 92) = false := by
            rw [beq_eq_false_iff_ne]
            intro h
            exact h92 (UInt8.toNat.inj (by rw [show ((92 : UInt8).toNat) = 92 from rfl]; omega))
          have HC2 : Hid (c = (s.data.toList.take (k + 1)).count 92) := by rw [Hid, HX.out, if_neg h92, HC.out]; rfl
          clear h92 HX HC
          go_wp2_with fail
          go_round
          case rel => exact ⟨k + 1, c, by omega, by omega, by go_num, rfl, HC2⟩
          case measure => simp [intOf]; omega
      · have hke : k = s.size := by omega
        subst hke
        have HC2 : Hid (c = s.data.toList.count 92) := by
          have := HC.out
          rw [← HSL.out, List.take_length] at this
          exact this
        have hdc : d ≤ c := by rw [HC2.out]; exact HQ2.out
        have hquo : ¬ (c : Int) < ((s.size : Int) - (u.size : Int)) / 3 := by rw [HSUB.out]; omega
        clear HC hlt
        by_cases hc0 : c = 0
        · have hus : u = s := HQ3.out (by rw [← HC2.out]; exact hc0)
          have hb0 : ((c : Int) == 0) = true := by rw [hc0]; rfl
          subst hus
          clear hc0 HC2 HQ3
          go_wp2_with fail
          go_ret
          exact ⟨by simp, HB.out⟩
        · have hb0 : ((c : Int) == 0) = false := by rw [beq_eq_false_iff_ne]; omega
          clear hc0 HC2 HQ3
          go_wp2_with fail
          go_ret
          exact ⟨rfl, HB.out⟩
  · go_enter Tryd.func5, Tryd.ntmps5
    go_wp2_with fail
    refine (bytes13 s HS.out _).mono ?_
    rintro e w1 ⟨rfl, rfl⟩
    rw [decide_eq_false h1]
    go_wp2_with fail
    go_ret
    exact ⟨rfl, Below.refl _ _⟩
end Go.Proofs.Qxb6601271aDoor
