import Derived.Test.Qxb6600238aFn4
set_option linter.unusedVariables false
set_option linter.unusedSimpArgs false
set_option linter.unusedSectionVars false
namespace Go.Proofs.Qxb6600238a
open Go.Shelf Go.RowKit Go.Lib Go.Sort

theorem sAsc_of (l : List Lbl) (h : ∀ j, j + 1 < l.length → compareBytes (nm (l.getD j lblD)) (nm (l.getD (j + 1) lblD)) < 0) : SAsc l := by
  unfold SAsc
  rw [List.pairwise_iff_getElem]
  have key : ∀ d i, i + d + 1 < l.length → compareBytes (nm (l.getD i lblD)) (nm (l.getD (i + d + 1) lblD)) < 0 := by
    intro d
    induction d with
    | zero => intro i hi; exact h i hi
    | succ d ih =>
      intro i hi
      exact cmpB_trans _ _ _ (ih i (by omega)) (h (i + d + 1) (by omega))
  intro i j hi hj hij
  have := key (j - i - 1) i (by omega)
  rw [show i + (j - i - 1) + 1 = j by omega, getD_eq l i hi, getD_eq l j hj] at this
  exact this

theorem compare_quiet (x y : ByteArray) (hx : x.size ≤ maxLen) (hy : y.size ≤ maxLen) (w : World) (n : Nat) :
    Calls Try.prog 21 #[.string x, .string y] (w.drewN n) fun e w' => e = .returned (.int .i64 (compareBytes x.data.toList y.data.toList)) ∧ ∃ m, w' = w.drewN m :=
  (compare_any x y hx hy (w.drewN n)).mono fun e w' ⟨h1, q, h2⟩ => ⟨h1, n + q, by rw [h2, World.drewN_drewN]⟩

set_option maxHeartbeats 2000000 in
set_option maxRecDepth 100000 in
theorem isSet_any (p1 p2 : Option Addr) (n1 n2 c1 c2 : Nat) (ns vs : List ByteArray) (w : World) (h : StrS w p1 n1 ns) (h' : StrS w p2 n2 vs) (hsz : ∀ s ∈ ns, s.size ≤ maxLen) (k1 : n1 ≤ 4096) (k2 : n2 ≤ 4096) :
    Calls Try.prog 17 #[.slice p1 n1 c1, .slice p2 n2 c2] w fun e w' =>
      (e = .returned (.bool false) ∨ (e = .returned (.bool true) ∧ n1 = n2 ∧ SAsc (zipL ns vs) ∧ ∀ j, j < n1 → vs.getD j ByteArray.empty ≠ ByteArray.empty)) ∧ ∃ q, w' = w.drewN q := by
  have HH : Hid (StrS w p1 n1 ns ∧ StrS w p2 n2 vs) := ⟨h, h'⟩
  have HZ : Aside _ := hsz
  clear h h' hsz
  by_cases hnn : n1 = n2
  · have hq : ((n1 : Int) != (n2 : Int)) = false := by rw [hnn]; simp
    have HNN : Hid (n1 = n2) := hnn
    have hle : n1 ≤ n2 := by omega
    have hge : n2 ≤ n1 := by omega
    clear hnn
    go_enter Try.func17, Try.ntmps17
    go_wp2_with fail
    go_loopw [5] (fun vi wq => ∃ (i q : Nat), i ≤ n1 ∧ vi = .int .i64 i ∧ Hid (wq = w.drewN q ∧ (∀ j, j < i → vs.getD j ByteArray.empty ≠ ByteArray.empty) ∧ (∀ j, j + 1 < i → compareBytes (ns.getD j ByteArray.empty).data.toList (ns.getD (j + 1) ByteArray.empty).data.toList < 0))) (fun vi _ => n1 - (intOf vi).toNat)
    case atStart => exact ⟨0, 0, Nat.zero_le _, rfl, rfl, fun j hj => by omega, fun j hj => by omega⟩
    case round =>
      obtain ⟨i, q, hin, rfl, HR⟩ := hrel
      have HB : Hid (Below w.heap.size w wr) := by rw [Hid, HR.out.1]; exact below_drewN _ w q
      by_cases hlt : i < n1
      · have hlti : (i : Int) < (n1 : Int) := by omega
        have hlti2 : (i : Int) < (n2 : Int) := by omega
        obtain ⟨b1, o1, rfl, hb1, hc1⟩ := HH.out.1.2 i hlt
        obtain ⟨b2, o2, rfl, hb2, hc2⟩ := HH.out.2.2 i (by omega)
        have cv := hc2 i (by omega)
        rw [← cell_below HB.out hb2] at cv
        have cn := hc1 i hlt
        rw [← cell_below HB.out hb1] at cn
        by_cases hv : vs.getD i ByteArray.empty = ByteArray.empty
        · have hq2 : ((vs.getD i ByteArray.empty).toList == []) = true := by rw [hv, baNil]; rfl
          generalize vs.getD i ByteArray.empty = v at cv hq2
          clear hv hc1 hc2
          have HW : Hid (∃ q, wr = w.drewN q) := ⟨q, HR.out.1⟩
          clear HR
          go_wp2_with fail
          go_ret
          exact ⟨.inl rfl, HW.out⟩
        · have hq2 : ((vs.getD i ByteArray.empty).toList == []) = false := by rw [beq_eq_false_iff_ne]; exact fun h => hv (baInj (h.trans baNil.symm))
          have HV2 : Hid (∀ j, j < i + 1 → vs.getD j ByteArray.empty ≠ ByteArray.empty) := by
            intro j hj
            rcases Nat.lt_or_ge j i with h1 | h1
            · exact HR.out.2.1 j h1
            · have : j = i := by omega
              subst this; exact hv
          generalize vs.getD i ByteArray.empty = v at cv hq2
          clear hv
          rcases Nat.eq_zero_or_pos i with h0 | h0
          · subst h0
            rw [Nat.add_zero] at cv cn
            have HR2 : Hid ((∃ q, wr = w.drewN q) ∧ (∀ j, j < 0 + 1 → vs.getD j ByteArray.empty ≠ ByteArray.empty) ∧ (∀ j, j + 1 < 0 + 1 → compareBytes (ns.getD j ByteArray.empty).data.toList (ns.getD (j + 1) ByteArray.empty).data.toList < 0)) := ⟨⟨q, HR.out.1⟩, HV2.out, fun j hj => by omega⟩
            clear HR hc1 hc2
            go_wp2_with fail
            go_quiet (fail)
            have HR3 : Hid ((∃ q, wr.drewN nq = w.drewN q) ∧ (∀ j, j < 0 + 1 → vs.getD j ByteArray.empty ≠ ByteArray.empty) ∧ (∀ j, j + 1 < 0 + 1 → compareBytes (ns.getD j ByteArray.empty).data.toList (ns.getD (j + 1) ByteArray.empty).data.toList < 0)) := by
              obtain ⟨⟨q, hq⟩, r1, r2⟩ := HR2.out
              exact ⟨⟨q + nq, by rw [hq, World.drewN_drewN]⟩, r1, r2⟩
            clear HR2 cv cn HB
            generalize wr.drewN nq = w3 at HR3 ⊢
            go_wp2_with fail
            go_roundw
            case rel =>
              obtain ⟨⟨q, hq⟩, r1, r2⟩ := HR3.out
              exact ⟨0 + 1, q, by omega, by go_num, hq, r1, r2⟩
            case measure => simp [intOf]; omega
          · obtain ⟨ip, rfl⟩ : ∃ ip, i = ip + 1 := ⟨i - 1, by omega⟩
            have cp := hc1 ip (by omega)
            rw [← cell_below HB.out hb1] at cp
            have hgu : decide ((0 : Int) < ((ip + 1 : Nat) : Int)) = true := decide_eq_true (by omega)
            have hpos : (0 : Int) < (ip : Int) + 1 := by omega
            have hx : (ns.getD ip ByteArray.empty).size ≤ maxLen := HZ.out _ (by
              have hl : ip < ns.length := by rw [HH.out.1.1]; omega
              simp only [List.getD, List.getElem?_eq_getElem hl, Option.getD_some]; exact List.getElem_mem hl)
            have hy : (ns.getD (ip + 1) ByteArray.empty).size ≤ maxLen := HZ.out _ (by
              have hl : ip + 1 < ns.length := by rw [HH.out.1.1]; omega
              simp only [List.getD, List.getElem?_eq_getElem hl, Option.getD_some]; exact List.getElem_mem hl)
            have cc := fun n => compare_quiet _ _ hx hy wr n
            have HR0 : Hid ((∃ q, wr = w.drewN q) ∧ (∀ j, j < ip + 1 + 1 → vs.getD j ByteArray.empty ≠ ByteArray.empty) ∧ (compareBytes (ns.getD ip ByteArray.empty).data.toList (ns.getD (ip + 1) ByteArray.empty).data.toList < 0 → ∀ j, j + 1 < ip + 1 + 1 → compareBytes (ns.getD j ByteArray.empty).data.toList (ns.getD (j + 1) ByteArray.empty).data.toList < 0)) := by
              refine ⟨⟨q, HR.out.1⟩, HV2.out, fun hlt0 j hj => ?_⟩
              rcases Nat.lt_or_ge j ip with h1 | h1
              · exact HR.out.2.2 j (by omega)
              · have : j = ip := by omega
                subst this; exact hlt0
            clear HR HV2 hx hy hc1 hc2
            have e1 : ((ip : Int) + 1).toNat = ip + 1 := by omega
            have e2 : (ip : Int) + 1 - 1 = (ip : Int) := by omega
            have p1 : (0 : Int) ≤ (ip : Int) + 1 := by omega
            have hlt3 : (ip : Int) < (n1 : Int) := by omega
            have hlt4 : (ip : Int) + 1 < (n1 : Int) := by omega
            generalize compareBytes (ns.getD ip ByteArray.empty).data.toList (ns.getD (ip + 1) ByteArray.empty).data.toList = r at cc HR0
            generalize ns.getD ip ByteArray.empty = x at cp cc
            generalize ns.getD (ip + 1) ByteArray.empty = y at cn cc
            by_cases hr : r < 0
            · have hr2 : ¬ 0 ≤ r := by omega
              have hr3 : decide (0 ≤ r) = false := decide_eq_false hr2
              go_wp2_with fail
              go_quiet (first | (go_at_call 21; exact cc _))
              have HR3 : Hid ((∃ q, wr.drewN nq = w.drewN q) ∧ (∀ j, j < ip + 1 + 1 → vs.getD j ByteArray.empty ≠ ByteArray.empty) ∧ (∀ j, j + 1 < ip + 1 + 1 → compareBytes (ns.getD j ByteArray.empty).data.toList (ns.getD (j + 1) ByteArray.empty).data.toList < 0)) := by
                obtain ⟨⟨q, hq⟩, r1, r2⟩ := HR0.out
                exact ⟨⟨q + nq, by rw [hq, World.drewN_drewN]⟩, r1, r2 (by omega)⟩
              clear HR0 cv cn cp cc HB
              generalize wr.drewN nq = w3 at HR3 ⊢
              go_wp2_with fail
              go_roundw
              case rel =>
                obtain ⟨⟨q, hq⟩, r1, r2⟩ := HR3.out
                exact ⟨ip + 1 + 1, q, by omega, by go_num, hq, r1, r2⟩
              case measure => simp [intOf]; omega
            · have hr2 : 0 ≤ r := by omega
              have HW : Hid (∃ q, wr = w.drewN q) := HR0.out.1
              clear HR0
              go_wp2_with fail
              go_quiet (first | (go_at_call 21; exact cc _))
              go_wp2_with fail
              go_ret
              refine ⟨.inl rfl, ?_⟩
              obtain ⟨q, hq⟩ := HW.out
              exact ⟨q + nq, by rw [hq, World.drewN_drewN]⟩
      · have hlti : ¬ (i : Int) < (n1 : Int) := by omega
        have HF : Hid ((n1 = n2 ∧ SAsc (zipL ns vs) ∧ ∀ j, j < n1 → vs.getD j ByteArray.empty ≠ ByteArray.empty) ∧ ∃ q, wr = w.drewN q) := by
          obtain ⟨r0, r1, r2⟩ := HR.out
          have hl1 := HH.out.1.1
          have hl2 : vs.length = n1 := by rw [HH.out.2.1]; omega
          refine ⟨⟨HNN.out, ?_, fun j hj => r1 j (by omega)⟩, q, r0⟩
          apply sAsc_of
          intro j hj
          rw [zipL_len ns vs n1 hl1 hl2] at hj
          rw [zipL_getD ns vs n1 hl1 hl2 j (by omega), zipL_getD ns vs n1 hl1 hl2 (j + 1) hj]
          exact r2 j (by omega)
        clear HR HB
        go_wp2_with fail
        go_ret
        exact ⟨.inr ⟨rfl, HF.out.1⟩, HF.out.2⟩
  · have hq : ((n1 : Int) != (n2 : Int)) = true := by simp; omega
    clear hnn
    go_enter Try.func17, Try.ntmps17
    go_wp2_with fail
    go_ret
    exact ⟨.inl rfl, 0, rfl⟩
end Go.Proofs.Qxb6600238a
