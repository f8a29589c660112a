import Derived.Test.Qxb6600238aRl
set_option linter.unusedVariables false
set_option linter.unusedSimpArgs false
set_option linter.unusedSectionVars false
namespace Go.Proofs.Qxb6600238a
open Go.Shelf Go.RowKit Go.Lib Go.Sort

theorem drop_at (s : ByteArray) (k : Nat) (h : k < s.size) : s.data.toList.drop k = s[k]'h :: s.data.toList.drop (k + 1) := by
  rw [List.drop_eq_getElem_cons (by simpa using h)]; rfl
theorem cmp_end (a b : List UInt8) : compareBytes a b = if a.length < b.length then (if a = [] then -1 else compareBytes a b) else compareBytes a b := by
  split
  · split
    · rename_i h1 h2
      subst h2
      cases b with
      | nil => simp at h1
      | cons y b => rfl
    · rfl
  · rfl

set_option maxHeartbeats 4000000 in
set_option maxRecDepth 1000000 in
theorem compare_any (a b : ByteArray) (ha : a.size ≤ maxLen) (hb : b.size ≤ maxLen) (w : World) : Calls Try.prog 21 #[.string a, .string b] w fun e w' => e = .returned (.int .i64 (compareBytes a.data.toList b.data.toList)) ∧ ∃ q, w' = w.drewN q := by
  unfold maxLen at ha hb
  by_cases hba : b.size < a.size
  · have hbai : (b.size : Int) < (a.size : Int) := by omega
    go_enter Try.func21, Try.ntmps21
    go_wp2_with fail
    go_loopw [6] (fun vi wq => ∃ (i q : Nat), i ≤ b.size ∧ vi = .int .i64 i ∧ Hid (wq = w.drewN q ∧ compareBytes a.data.toList b.data.toList = compareBytes (a.data.toList.drop i) (b.data.toList.drop i))) (fun vi _ => b.size - (intOf vi).toNat)
    case atStart => exact ⟨0, 0, Nat.zero_le _, rfl, rfl, rfl⟩
    case round =>
      obtain ⟨i, q, hin, rfl, HR⟩ := hrel
      by_cases hlt : i < b.size
      · have hlti : (i : Int) < (b.size : Int) := by omega
        have hia : i < a.size := by omega
        have hib : i < b.size := by omega
        have HS : Hid (compareBytes a.data.toList b.data.toList = if a[i]'hia < b[i]'hib then -1 else if b[i]'hib < a[i]'hia then 1 else compareBytes (a.data.toList.drop (i + 1)) (b.data.toList.drop (i + 1))) := by
          rw [Hid, HR.out.2, drop_at a i hia, drop_at b i hib]; rfl
        have HW : Hid (∃ q, wr = w.drewN q) := ⟨q, HR.out.1⟩
        clear HR
        have hxa : (a[i]'hia).toNat < 256 := UInt8.toNat_lt _
        have hxb : (b[i]'hib).toNat < 256 := UInt8.toNat_lt _
        by_cases h1 : a[i]'hia < b[i]'hib
        · have h1i : ((a[i]'hia).toNat : Int) < ((b[i]'hib).toNat : Int) := by have := UInt8.lt_iff_toNat_lt.1 h1; omega
          have HV : Hid (compareBytes a.data.toList b.data.toList = -1) := by rw [Hid, HS.out, if_pos h1]
          clear HS h1
          go_wp2_with fail
          go_quiet (fail)
          go_wp2_with fail
          go_ret
          obtain ⟨q, hq⟩ := HW.out
          exact ⟨by rw [HV.out]; rfl, q + nq, by rw [hq, World.drewN_drewN]⟩
        · have h1i : ¬ ((a[i]'hia).toNat : Int) < ((b[i]'hib).toNat : Int) := by have := mt UInt8.lt_iff_toNat_lt.2 h1; omega
          by_cases h2 : b[i]'hib < a[i]'hia
          · have h2i : ((b[i]'hib).toNat : Int) < ((a[i]'hia).toNat : Int) := by have := UInt8.lt_iff_toNat_lt.1 h2; omega
            have HV : Hid (compareBytes a.data.toList b.data.toList = 1) := by rw [Hid, HS.out, if_neg h1, if_pos h2]
            clear HS h1 h2
            go_wp2_with fail
            go_quiet (fail)
            have HW2 : Hid (∃ q, wr.drewN nq = w.drewN q) := by
              obtain ⟨q, hq⟩ := HW.out
              exact ⟨q + nq, by rw [hq, World.drewN_drewN]⟩
            clear HW
            generalize wr.drewN nq = w2 at HW2 ⊢
            clear nq
            go_wp2_with fail
            go_quiet (fail)
            go_wp2_with fail
            go_ret
            obtain ⟨q, hq⟩ := HW2.out
            exact ⟨by rw [HV.out]; rfl, q + nq, by rw [hq, World.drewN_drewN]⟩
          · have h2i : ¬ ((b[i]'hib).toNat : Int) < ((a[i]'hia).toNat : Int) := by have := mt UInt8.lt_iff_toNat_lt.2 h2; omega
            have HV : Hid (compareBytes a.data.toList b.data.toList = compareBytes (a.data.toList.drop (i + 1)) (b.data.toList.drop (i + 1))) := by rw [Hid, HS.out, if_neg h1, if_neg h2]
            clear HS h1 h2
            go_wp2_with fail
            go_quiet (fail)
            have HW2 : Hid (∃ q, wr.drewN nq = w.drewN q) := by
              obtain ⟨q, hq⟩ := HW.out
              exact ⟨q + nq, by rw [hq, World.drewN_drewN]⟩
            clear HW
            generalize wr.drewN nq = w2 at HW2 ⊢
            clear nq
            go_wp2_with fail
            go_quiet (fail)
            have HW3 : Hid (∃ q, w2.drewN nq = w.drewN q) := by
              obtain ⟨q, hq⟩ := HW2.out
              exact ⟨q + nq, by rw [hq, World.drewN_drewN]⟩
            clear HW2
            generalize w2.drewN nq = w3 at HW3 ⊢
            clear nq
            go_wp2_with fail
            go_roundw
            case rel =>
              obtain ⟨q, hq⟩ := HW3.out
              exact ⟨i + 1, q, by omega, by go_num, hq, HV.out⟩
            case measure => simp [intOf]; omega
      · have hie : i = b.size := by omega
        have hlti : ¬ (i : Int) < (b.size : Int) := by omega
        have HW : Hid (∃ q, wr = w.drewN q) := ⟨q, HR.out.1⟩
        have hd : b.data.toList.drop i = [] := List.drop_of_length_le (by simp; omega)
        have habi : ¬ (a.size : Int) < (b.size : Int) := by omega
        have hbai : (b.size : Int) < (a.size : Int) := by omega
        have HV : Hid (compareBytes a.data.toList b.data.toList = 1) := by
          rw [Hid, HR.out.2, hd, drop_at a i (by omega)]; rfl
        clear HR hd
        go_wp2_with fail
        go_ret
        exact ⟨by rw [HV.out]; rfl, HW.out⟩
  · have hbai : ¬ (b.size : Int) < (a.size : Int) := by omega
    go_enter Try.func21, Try.ntmps21
    go_wp2_with fail
    go_loopw [6] (fun vi wq => ∃ (i q : Nat), i ≤ a.size ∧ vi = .int .i64 i ∧ Hid (wq = w.drewN q ∧ compareBytes a.data.toList b.data.toList = compareBytes (a.data.toList.drop i) (b.data.toList.drop i))) (fun vi _ => a.size - (intOf vi).toNat)
    case atStart => exact ⟨0, 0, Nat.zero_le _, rfl, rfl, rfl⟩
    case round =>
      obtain ⟨i, q, hin, rfl, HR⟩ := hrel
      by_cases hlt : i < a.size
      · have hlti : (i : Int) < (a.size : Int) := by omega
        have hia : i < a.size := by omega
        have hib : i < b.size := by omega
        have HS : Hid (compareBytes a.data.toList b.data.toList = if a[i]'hia < b[i]'hib then -1 else if b[i]'hib < a[i]'hia then 1 else compareBytes (a.data.toList.drop (i + 1)) (b.data.toList.drop (i + 1))) := by
          rw [Hid, HR.out.2, drop_at a i hia, drop_at b i hib]; rfl
        have HW : Hid (∃ q, wr = w.drewN q) := ⟨q, HR.out.1⟩
        clear HR
        have hxa : (a[i]'hia).toNat < 256 := UInt8.toNat_lt _
        have hxb : (b[i]'hib).toNat < 256 := UInt8.toNat_lt _
        by_cases h1 : a[i]'hia < b[i]'hib
        · have h1i : ((a[i]'hia).toNat : Int) < ((b[i]'hib).toNat : Int) := by have := UInt8.lt_iff_toNat_lt.1 h1; omega
          have HV : Hid (compareBytes a.data.toList b.data.toList = -1) := by rw [Hid, HS.out, if_pos h1]
          clear HS h1
          go_wp2_with fail
          go_quiet (fail)
          go_wp2_with fail
          go_ret
          obtain ⟨q, hq⟩ := HW.out
          exact ⟨by rw [HV.out]; rfl, q + nq, by rw [hq, World.drewN_drewN]⟩
        · have h1i : ¬ ((a[i]'hia).toNat : Int) < ((b[i]'hib).toNat : Int) := by have := mt UInt8.lt_iff_toNat_lt.2 h1; omega
          by_cases h2 : b[i]'hib < a[i]'hia
          · have h2i : ((b[i]'hib).toNat : Int) < ((a[i]'hia).toNat : Int) := by have := UInt8.lt_iff_toNat_lt.1 h2; omega
            have HV : Hid (compareBytes a.data.toList b.data.toList = 1) := by rw [Hid, HS.out, if_neg h1, if_pos h2]
            clear HS h1 h2
            go_wp2_with fail
            go_quiet (fail)
            have HW2 : Hid (∃ q, wr.drewN nq = w.drewN q) := by
              obtain ⟨q, hq⟩ := HW.out
              exact ⟨q + nq, by rw [hq, World.drewN_drewN]⟩
            clear HW
            generalize wr.drewN nq = w2 at HW2 ⊢
            clear nq
            go_wp2_with fail
            go_quiet (fail)
            go_wp2_with fail
            go_ret
            obtain ⟨q, hq⟩ := HW2.out
            exact ⟨by rw [HV.out]; rfl, q + nq, by rw [hq, World.drewN_drewN]⟩
          · have h2i : ¬ ((b[i]'hib).toNat : Int) < ((a[i]'hia).toNat : Int) := by have := mt UInt8.lt_iff_toNat_lt.2 h2; omega
            have HV : Hid (compareBytes a.data.toList b.data.toList = compareBytes (a.data.toList.drop (i + 1)) (b.data.toList.drop (i + 1))) := by rw [Hid, HS.out, if_neg h1, if_neg h2]
            clear HS h1 h2
            go_wp2_with fail
            go_quiet (fail)
            have HW2 : Hid (∃ q, wr.drewN nq = w.drewN q) := by
              obtain ⟨q, hq⟩ := HW.out
              exact ⟨q + nq, by rw [hq, World.drewN_drewN]⟩
            clear HW
            generalize wr.drewN nq = w2 at HW2 ⊢
            clear nq
            go_wp2_with fail
            go_quiet (fail)
            have HW3 : Hid (∃ q, w2.drewN nq = w.drewN q) := by
              obtain ⟨q, hq⟩ := HW2.out
              exact ⟨q + nq, by rw [hq, World.drewN_drewN]⟩
            clear HW2
            generalize w2.drewN nq = w3 at HW3 ⊢
            clear nq
            go_wp2_with fail
            go_roundw
            case rel =>
              obtain ⟨q, hq⟩ := HW3.out
              exact ⟨i + 1, q, by omega, by go_num, hq, HV.out⟩
            case measure => simp [intOf]; omega
      · have hie : i = a.size := by omega
        have hlti : ¬ (i : Int) < (a.size : Int) := by omega
        have hab1 : a.size ≤ b.size := by omega
        have HW : Hid (∃ q, wr = w.drewN q) := ⟨q, HR.out.1⟩
        have hd : a.data.toList.drop i = [] := List.drop_of_length_le (by simp; omega)
        by_cases hab : a.size < b.size
        · have habi : (a.size : Int) < (b.size : Int) := by omega
          have HV : Hid (compareBytes a.data.toList b.data.toList = -1) := by
            rw [Hid, HR.out.2, hd, drop_at b i (by omega)]; rfl
          clear HR hd
          go_wp2_with fail
          go_ret
          exact ⟨by rw [HV.out]; rfl, HW.out⟩
        · have habi : ¬ (a.size : Int) < (b.size : Int) := by omega
          have hbai : ¬ (b.size : Int) < (a.size : Int) := by omega
          have HV : Hid (compareBytes a.data.toList b.data.toList = 0) := by
            rw [Hid, HR.out.2, hd, List.drop_of_length_le (show b.data.toList.length ≤ i by simp; omega)]; rfl
          clear HR hd
          go_wp2_with fail
          go_ret
          exact ⟨by rw [HV.out]; rfl, HW.out⟩
end Go.Proofs.Qxb6600238a
