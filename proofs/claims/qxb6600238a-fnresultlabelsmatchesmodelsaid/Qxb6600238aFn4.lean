import Derived.Test.Qxb6600238aFn1
import Derived.Test.Qxb6600238aFn3
set_option linter.unusedVariables false
set_option linter.unusedSimpArgs false
set_option linter.unusedSectionVars false
namespace Go.Proofs.Qxb6600238a
open Go.Shelf Go.RowKit Go.Lib Go.Sort

/-- What the result should carry for a name. -/
def expL (card : Int) (on drop : Bool) (ml il : List ByteArray) (many one : List Lbl) (x : ByteArray) : ByteArray :=
  if Lib.containsS il x = true then getL one x else if dropped card on drop ml x = true then ByteArray.empty else getL many x

set_option maxHeartbeats 4000000 in
set_option maxRecDepth 100000 in
theorem expected_any (card : Int) (on drop : Bool) (p1 p2 p3 p4 p5 p6 : Option Addr) (n1 n2 n3 n5 c1 c2 c3 c4 c5 c6 : Nat) (ml il mn mv on1 ov : List ByteArray) (x : ByteArray) (w : World)
    (h1 : StrS w p1 n1 ml) (h2 : StrS w p2 n2 il) (h3 : StrS w p3 n3 mn) (h4 : StrS w p4 n3 mv) (h5 : StrS w p5 n5 on1) (h6 : StrS w p6 n5 ov) (k1 : n1 ≤ 4096) (k2 : n2 ≤ 4096) (k3 : n3 ≤ 4096) (k5 : n5 ≤ 4096) :
    Calls Try.prog 22 #[.int .i64 card, .bool on, .slice p1 n1 c1, .slice p2 n2 c2, .slice p3 n3 c3, .slice p4 n3 c4, .slice p5 n5 c5, .slice p6 n5 c6, .bool drop, .string x] w fun e w' =>
      e = .returned (.string (expL card on drop ml il (zipL mn mv) (zipL on1 ov) x)) ∧ w = w' := by
  have cI := has_any p2 n2 c2 il x w h2 k2
  have cM := has_any p1 n1 c1 ml x w h1 k1
  have cO := valueOf_any p5 p6 n5 c5 c6 on1 ov x w h5 h6 k5
  have cV := valueOf_any p3 p4 n3 c3 c4 mn mv x w h3 h4 k3
  clear h1 h2 h3 h4 h5 h6 k1 k2 k3 k5
  obtain ⟨r, hr⟩ : ∃ r, r = expL card on drop ml il (zipL mn mv) (zipL on1 ov) x := ⟨_, rfl⟩
  rw [← hr]
  unfold expL dropped at hr
  generalize getL (zipL on1 ov) x = vo at cO hr
  generalize getL (zipL mn mv) x = vm at cV hr
  cases hI : Lib.containsS il x with
  | true =>
    rw [hI] at cI hr
    have HRR : Hid (r = vo) := by rw [Hid, hr]; rfl
    clear hr hI
    go_enter Try.func22, Try.ntmps22
    go_wp2_with fail
    refine cI.mono ?_
    rintro e w1 ⟨rfl, rfl⟩
    go_wp2_with fail
    refine cO.mono ?_
    rintro e w1 ⟨rfl, rfl⟩
    go_wp2_with fail
    go_ret
    exact ⟨by rw [HRR.out]; rfl, rfl⟩
  | false =>
    rw [hI] at cI hr
    clear hI
    by_cases hv : vm = ByteArray.empty
    · have HRR : Hid (r = vm) := by
        rw [Hid, hr, hv]
        split
        · rename_i h; cases h
        · split <;> rfl
      have hq : (vm.toList == []) = true := by rw [hv, baNil]; rfl
      have HV : Hid (vm = ByteArray.empty) := hv
      clear hr hv
      go_enter Try.func22, Try.ntmps22
      go_wp2_with fail
      refine cI.mono ?_
      rintro e w1 ⟨rfl, rfl⟩
      go_wp2_with fail
      refine cV.mono ?_
      rintro e w1 ⟨rfl, rfl⟩
      go_wp2_with fail
      go_ret
      exact ⟨by rw [HRR.out, HV.out]; rfl, rfl⟩
    · have hq : (vm.toList == []) = false := by rw [beq_eq_false_iff_ne]; exact fun h => hv (baInj (h.trans baNil.symm))
      clear hv
      cases drop with
      | true =>
        by_cases hmx : x = metric
        · have hmx3 : (x.toList == [95, 95, 110, 97, 109, 101, 95, 95]) = true := by rw [hmx, metric_list]; rfl
          rw [decide_eq_true hmx] at hr
          have HRR : Hid (r = ByteArray.empty) := by rw [Hid, hr]; rfl
          clear hr hmx
          go_enter Try.func22, Try.ntmps22
          go_wp2_with fail
          refine cI.mono ?_
          rintro e w1 ⟨rfl, rfl⟩
          go_wp2_with fail
          refine cV.mono ?_
          rintro e w1 ⟨rfl, rfl⟩
          go_wp2_with fail
          go_ret
          exact ⟨by rw [HRR.out]; rfl, rfl⟩
        · have hmx3 : (x.toList == [95, 95, 110, 97, 109, 101, 95, 95]) = false := by rw [beq_eq_false_iff_ne, ← metric_list]; exact fun h => hmx (baInj h)
          rw [decide_eq_false hmx] at hr
          clear hmx
          by_cases hc : card = 0
          · have hc0 : (card == 0) = true := by rw [hc]; rfl
            rw [decide_eq_true hc] at hr
            clear hc
            cases hM : Lib.containsS ml x with
            | true =>
              rw [hM] at hr cM
              clear hM
              cases on with
              | true =>
                have HRR : Hid (r = vm) := by rw [Hid, hr]; rfl
                clear hr
                go_enter Try.func22, Try.ntmps22
                go_wp2_with fail
                refine cI.mono ?_
                rintro e w1 ⟨rfl, rfl⟩
                go_wp2_with fail
                refine cV.mono ?_
                rintro e w1 ⟨rfl, rfl⟩
                go_wp2_with fail
                refine cM.mono ?_
                rintro e w1 ⟨rfl, rfl⟩
                go_wp2_with fail
                go_ret
                exact ⟨by rw [HRR.out]; rfl, rfl⟩
              | false =>
                have HRR : Hid (r = ByteArray.empty) := by rw [Hid, hr]; rfl
                clear hr
                go_enter Try.func22, Try.ntmps22
                go_wp2_with fail
                refine cI.mono ?_
                rintro e w1 ⟨rfl, rfl⟩
                go_wp2_with fail
                refine cV.mono ?_
                rintro e w1 ⟨rfl, rfl⟩
                go_wp2_with fail
                refine cM.mono ?_
                rintro e w1 ⟨rfl, rfl⟩
                go_wp2_with fail
                go_ret
                exact ⟨by rw [HRR.out]; rfl, rfl⟩
            | false =>
              rw [hM] at hr cM
              clear hM
              cases on with
              | true =>
                have HRR : Hid (r = ByteArray.empty) := by rw [Hid, hr]; rfl
                clear hr
                go_enter Try.func22, Try.ntmps22
                go_wp2_with fail
                refine cI.mono ?_
                rintro e w1 ⟨rfl, rfl⟩
                go_wp2_with fail
                refine cV.mono ?_
                rintro e w1 ⟨rfl, rfl⟩
                go_wp2_with fail
                refine cM.mono ?_
                rintro e w1 ⟨rfl, rfl⟩
                go_wp2_with fail
                go_ret
                exact ⟨by rw [HRR.out]; rfl, rfl⟩
              | false =>
                have HRR : Hid (r = vm) := by rw [Hid, hr]; rfl
                clear hr
                go_enter Try.func22, Try.ntmps22
                go_wp2_with fail
                refine cI.mono ?_
                rintro e w1 ⟨rfl, rfl⟩
                go_wp2_with fail
                refine cV.mono ?_
                rintro e w1 ⟨rfl, rfl⟩
                go_wp2_with fail
                refine cM.mono ?_
                rintro e w1 ⟨rfl, rfl⟩
                go_wp2_with fail
                go_ret
                exact ⟨by rw [HRR.out]; rfl, rfl⟩
          · have hc0 : (card == 0) = false := by rw [beq_eq_false_iff_ne]; exact hc
            rw [decide_eq_false hc] at hr
            have HRR : Hid (r = vm) := by rw [Hid, hr]; rfl
            clear hr hc
            go_enter Try.func22, Try.ntmps22
            go_wp2_with fail
            refine cI.mono ?_
            rintro e w1 ⟨rfl, rfl⟩
            go_wp2_with fail
            refine cV.mono ?_
            rintro e w1 ⟨rfl, rfl⟩
            go_wp2_with fail
            go_ret
            exact ⟨by rw [HRR.out]; rfl, rfl⟩
      | false =>
        by_cases hc : card = 0
        · have hc0 : (card == 0) = true := by rw [hc]; rfl
          rw [decide_eq_true hc] at hr
          clear hc
          cases hM : Lib.containsS ml x with
          | true =>
            rw [hM] at hr cM
            clear hM
            cases on with
            | true =>
              have HRR : Hid (r = vm) := by rw [Hid, hr]; rfl
              clear hr
              go_enter Try.func22, Try.ntmps22
              go_wp2_with fail
              refine cI.mono ?_
              rintro e w1 ⟨rfl, rfl⟩
              go_wp2_with fail
              refine cV.mono ?_
              rintro e w1 ⟨rfl, rfl⟩
              go_wp2_with fail
              refine cM.mono ?_
              rintro e w1 ⟨rfl, rfl⟩
              go_wp2_with fail
              go_ret
              exact ⟨by rw [HRR.out]; rfl, rfl⟩
            | false =>
              have HRR : Hid (r = ByteArray.empty) := by rw [Hid, hr]; rfl
              clear hr
              go_enter Try.func22, Try.ntmps22
              go_wp2_with fail
              refine cI.mono ?_
              rintro e w1 ⟨rfl, rfl⟩
              go_wp2_with fail
              refine cV.mono ?_
              rintro e w1 ⟨rfl, rfl⟩
              go_wp2_with fail
              refine cM.mono ?_
              rintro e w1 ⟨rfl, rfl⟩
              go_wp2_with fail
              go_ret
              exact ⟨by rw [HRR.out]; rfl, rfl⟩
          | false =>
            rw [hM] at hr cM
            clear hM
            cases on with
            | true =>
              have HRR : Hid (r = ByteArray.empty) := by rw [Hid, hr]; rfl
              clear hr
              go_enter Try.func22, Try.ntmps22
              go_wp2_with fail
              refine cI.mono ?_
              rintro e w1 ⟨rfl, rfl⟩
              go_wp2_with fail
              refine cV.mono ?_
              rintro e w1 ⟨rfl, rfl⟩
              go_wp2_with fail
              refine cM.mono ?_
              rintro e w1 ⟨rfl, rfl⟩
              go_wp2_with fail
              go_ret
              exact ⟨by rw [HRR.out]; rfl, rfl⟩
            | false =>
              have HRR : Hid (r = vm) := by rw [Hid, hr]; rfl
              clear hr
              go_enter Try.func22, Try.ntmps22
              go_wp2_with fail
              refine cI.mono ?_
              rintro e w1 ⟨rfl, rfl⟩
              go_wp2_with fail
              refine cV.mono ?_
              rintro e w1 ⟨rfl, rfl⟩
              go_wp2_with fail
              refine cM.mono ?_
              rintro e w1 ⟨rfl, rfl⟩
              go_wp2_with fail
              go_ret
              exact ⟨by rw [HRR.out]; rfl, rfl⟩
        · have hc0 : (card == 0) = false := by rw [beq_eq_false_iff_ne]; exact hc
          rw [decide_eq_false hc] at hr
          have HRR : Hid (r = vm) := by rw [Hid, hr]; rfl
          clear hr hc
          go_enter Try.func22, Try.ntmps22
          go_wp2_with fail
          refine cI.mono ?_
          rintro e w1 ⟨rfl, rfl⟩
          go_wp2_with fail
          refine cV.mono ?_
          rintro e w1 ⟨rfl, rfl⟩
          go_wp2_with fail
          go_ret
          exact ⟨by rw [HRR.out]; rfl, rfl⟩

set_option maxHeartbeats 1000000 in
theorem sizes_any (p1 p2 p3 p4 p5 p6 : Option Addr) (n1 n2 n3 n4 n5 n6 c1 c2 c3 c4 c5 c6 : Nat) (l1 l2 l3 l4 l5 l6 : List ByteArray) (w : World)
    (h1 : StrS w p1 n1 l1) (h2 : StrS w p2 n2 l2) (h3 : StrS w p3 n3 l3) (h4 : StrS w p4 n4 l4) (h5 : StrS w p5 n5 l5) (h6 : StrS w p6 n6 l6)
    (m1 : n1 ≤ maxLen) (m2 : n2 ≤ maxLen) (m3 : n3 ≤ maxLen) (m4 : n4 ≤ maxLen) (m5 : n5 ≤ maxLen) (m6 : n6 ≤ maxLen) :
    Calls Try.prog 16 #[.slice p1 n1 c1, .slice p2 n2 c2, .slice p3 n3 c3, .slice p4 n4 c4, .slice p5 n5 c5, .slice p6 n6 c6] w fun e w' =>
      (e = .returned (.bool false) ∨ (e = .returned (.bool true) ∧ n1 ≤ 4096 ∧ n2 ≤ 4096 ∧ n3 ≤ 4096 ∧ n4 ≤ 4096 ∧ n5 ≤ 4096 ∧ n6 ≤ 4096)) ∧ w = w' := by
  have d1 := bytes_any p1 n1 c1 l1 w h1 m1
  have d2 := bytes_any p2 n2 c2 l2 w h2 m2
  have d3 := bytes_any p3 n3 c3 l3 w h3 m3
  have d4 := bytes_any p4 n4 c4 l4 w h4 m4
  have d5 := bytes_any p5 n5 c5 l5 w h5 m5
  have d6 := bytes_any p6 n6 c6 l6 w h6 m6
  clear h1 h2 h3 h4 h5 h6
  unfold maxLen at m1 m2 m3 m4 m5 m6
  by_cases q1 : (4096 : Int) < (n1 : Int)
  · go_enter Try.func16, Try.ntmps16
    go_wp2_with fail
    go_ret
    exact ⟨.inl rfl, rfl⟩
  · by_cases q2 : (4096 : Int) < (n2 : Int)
    · go_enter Try.func16, Try.ntmps16
      go_wp2_with fail
      go_ret
      exact ⟨.inl rfl, rfl⟩
    · by_cases q3 : (4096 : Int) < (n3 : Int)
      · go_enter Try.func16, Try.ntmps16
        go_wp2_with fail
        go_ret
        exact ⟨.inl rfl, rfl⟩
      · by_cases q4 : (4096 : Int) < (n4 : Int)
        · go_enter Try.func16, Try.ntmps16
          go_wp2_with fail
          go_ret
          exact ⟨.inl rfl, rfl⟩
        · by_cases q5 : (4096 : Int) < (n5 : Int)
          · go_enter Try.func16, Try.ntmps16
            go_wp2_with fail
            go_ret
            exact ⟨.inl rfl, rfl⟩
          · by_cases q6 : (4096 : Int) < (n6 : Int)
            · go_enter Try.func16, Try.ntmps16
              go_wp2_with fail
              go_ret
              exact ⟨.inl rfl, rfl⟩
            · have HN : Hid (n1 ≤ 4096 ∧ n2 ≤ 4096 ∧ n3 ≤ 4096 ∧ n4 ≤ 4096 ∧ n5 ≤ 4096 ∧ n6 ≤ 4096) := ⟨by omega, by omega, by omega, by omega, by omega, by omega⟩
              go_enter Try.func16, Try.ntmps16
              go_wp2_with fail
              refine d1.mono ?_
              rintro e w1 ⟨⟨x1, rfl, hx1⟩, rfl⟩
              clear d1
              go_wp2_with fail
              refine d2.mono ?_
              rintro e w1 ⟨⟨x2, rfl, hx2⟩, rfl⟩
              clear d2
              go_wp2_with fail
              refine d3.mono ?_
              rintro e w1 ⟨⟨x3, rfl, hx3⟩, rfl⟩
              clear d3
              go_wp2_with fail
              refine d4.mono ?_
              rintro e w1 ⟨⟨x4, rfl, hx4⟩, rfl⟩
              clear d4
              go_wp2_with fail
              refine d5.mono ?_
              rintro e w1 ⟨⟨x5, rfl, hx5⟩, rfl⟩
              clear d5
              go_wp2_with fail
              refine d6.mono ?_
              rintro e w1 ⟨⟨x6, rfl, hx6⟩, rfl⟩
              clear d6
              by_cases hs : x1 + x2 + x3 + x4 + x5 + x6 ≤ 1048576
              · have hsi : (x1 : Int) + (x2 : Int) + (x3 : Int) + (x4 : Int) + (x5 : Int) + (x6 : Int) ≤ 1048576 := by omega
                go_wp2_with fail
                go_ret
                exact ⟨.inr ⟨rfl, HN.out⟩, rfl⟩
              · have hsi : ¬ (x1 : Int) + (x2 : Int) + (x3 : Int) + (x4 : Int) + (x5 : Int) + (x6 : Int) ≤ 1048576 := by omega
                go_wp2_with fail
                go_ret
                exact ⟨.inl (congrArg (fun b => Ending.returned (.bool b)) (decide_eq_false (by omega))), rfl⟩

set_option maxHeartbeats 1000000 in
theorem zzres_any (B : Nat) (w : World) (mb : Nat) (card : Int) (on drop : Bool) (mlp : Option Addr) (mln mlc : Nat) (ml : List ByteArray) (inp : Option Addr) (inn inc : Nat) (il : List ByteArray) (g1 n1 c1 : Nat) (many : List Lbl) (g2 n2 c2 : Nat) (one : List Lbl)
    (h : RlPre B w mb card on mlp mln mlc ml inp inn inc il g1 n1 c1 many g2 n2 c2 one) (hone : SAsc one) (h1 : n1 ≤ 4096) (h2 : n2 ≤ 4096) (h3 : mln ≤ 4096) (h4 : inn ≤ 4096) :
    Calls Try.prog 19 #[.pointer (some ⟨mb, 0, none⟩), .slice (some ⟨g1, 0, none⟩) n1 c1, .slice (some ⟨g2, 0, none⟩) n2 c2, .bool drop] w fun e w' =>
      ∃ g' n' cap', e = .returned (.slice (some ⟨g', 0, none⟩) n' cap') ∧ ∃ got, OwnL w.heap.size w' g' n' cap' got ∧ ResSpec card on drop ml il many one got ∧ Below w.heap.size w w' := by
  have c := resLabels_any B w mb card on drop mlp mln mlc ml inp inn inc il g1 n1 c1 many g2 n2 c2 one h hone h1 h2 h3 h4
  clear h hone
  go_enter Try.func19, Try.ntmps19
  go_wp2_with fail
  refine c.mono ?_
  rintro e w1 ⟨g', n', cap', rfl, hq⟩
  have HQ : Hid _ := hq
  clear hq c
  go_wp2_with fail
  go_ret
  exact ⟨g', n', cap', rfl, HQ.out⟩
end Go.Proofs.Qxb6600238a
