import Derived.Test.Qxb6000456aRw
namespace Go.Proofs.Qxb6000456a
open Go.RowKit
set_option linter.unusedVariables false
set_option linter.unusedSimpArgs false

set_option maxHeartbeats 2000000 in
set_option maxRecDepth 100000 in
theorem rw_walk (a s : ByteArray) (l m : Int) (ha : a.size ≤ maxLen) (hs : s.size ≤ maxLen) (w : World) :
    Calls Try.prog 6 #[.string a, .int .i64 l, .int .i64 m, .string s] w fun e w' => e = .returned (.bool true) ∧ Below w.heap.size w w' := by
  have HA : Hid (a.size ≤ maxLen) := ha
  have HS : Hid (s.size ≤ maxLen) := hs
  unfold maxLen at ha hs
  by_cases h0 : a.size + s.size ≤ 1048576
  · by_cases h1 : a.size ≤ 65536
    · by_cases h2 : s.size ≤ 65536
      · by_cases h3 : 0 ≤ l
        · by_cases h4 : l ≤ 65536
          · by_cases h5 : -1 ≤ m
            · by_cases h6 : m ≤ 65536
              · by_cases h7 : m = -1 ∨ l ≤ m
                · obtain ⟨n, rfl⟩ := Int.eq_ofNat_of_zero_le h3
                  by_cases h8 : 0 < a.size → hiOf n m + 1 ≤ 1048576 / (a.size : Int)
                  · exact rw_main a s n m h1 h2 (by omega) h5 h6 h7 h8 w
                  · have h9 : 0 < a.size := Classical.byContradiction fun h => h8 (fun h' => (h h').elim)
                    have h10 : ¬ (hiOf n m + 1 ≤ 1048576 / (a.size : Int)) := fun h => h8 (fun _ => h)
                    clear h8
                    have H7 : Hid (m = -1 ∨ (n : Int) ≤ m) := h7
                    clear h7
                    go_enter Try.func6, Try.ntmps6
                    go_wp2_with fail
                    refine (bytesRw a s _ _ HA.out HS.out _).mono ?_
                    rintro e w1 ⟨rfl, rfl⟩
                    rw [decide_eq_true h0]
                    go_upto_region 9 with fail
                    go_cut [47] (fun v w' => v = .bool false ∧ w = w')
                    case first =>
                      rcases H7.out with h | h
                      · subst h
                        go_wp2_with fail
                        go_meet
                        case rel => exact ⟨rfl, rfl⟩
                      · have h1 : (m != -1) = true := by simp; omega
                        go_wp2_with fail
                        go_meet
                        case rel => exact ⟨by simp; omega, rfl⟩
                    case rest =>
                      obtain ⟨rfl, rfl⟩ := hcut
                      by_cases h : (n : Int) < m
                      · have e : hiOf n m = m := by unfold hiOf; rw [if_pos h]
                        rw [e] at h10
                        clear e
                        go_wp2_with fail
                        go_ret
                        exact ⟨rfl, Below.refl _ _⟩
                      · have e : hiOf n m = n := by unfold hiOf; rw [if_neg h]
                        rw [e] at h10
                        clear e
                        go_wp2_with fail
                        go_ret
                        exact ⟨rfl, Below.refl _ _⟩
                · have h8 : (m != -1) = true := by simp; omega
                  have h9 : m < l := by omega
                  clear h7
                  go_enter Try.func6, Try.ntmps6
                  go_wp2_with fail
                  refine (bytesRw a s _ _ HA.out HS.out _).mono ?_
                  rintro e w1 ⟨rfl, rfl⟩
                  rw [decide_eq_true h0]
                  go_wp2_with fail
                  go_ret
                  exact ⟨rfl, Below.refl _ _⟩
              · go_enter Try.func6, Try.ntmps6
                go_wp2_with fail
                refine (bytesRw a s _ _ HA.out HS.out _).mono ?_
                rintro e w1 ⟨rfl, rfl⟩
                rw [decide_eq_true h0]
                go_wp2_with fail
                go_ret
                exact ⟨rfl, Below.refl _ _⟩
            · go_enter Try.func6, Try.ntmps6
              go_wp2_with fail
              refine (bytesRw a s _ _ HA.out HS.out _).mono ?_
              rintro e w1 ⟨rfl, rfl⟩
              rw [decide_eq_true h0]
              go_wp2_with fail
              go_ret
              exact ⟨rfl, Below.refl _ _⟩
          · go_enter Try.func6, Try.ntmps6
            go_wp2_with fail
            refine (bytesRw a s _ _ HA.out HS.out _).mono ?_
            rintro e w1 ⟨rfl, rfl⟩
            rw [decide_eq_true h0]
            go_wp2_with fail
            go_ret
            exact ⟨rfl, Below.refl _ _⟩
        · go_enter Try.func6, Try.ntmps6
          go_wp2_with fail
          refine (bytesRw a s _ _ HA.out HS.out _).mono ?_
          rintro e w1 ⟨rfl, rfl⟩
          rw [decide_eq_true h0]
          go_wp2_with fail
          go_ret
          exact ⟨rfl, Below.refl _ _⟩
      · go_enter Try.func6, Try.ntmps6
        go_wp2_with fail
        refine (bytesRw a s _ _ HA.out HS.out _).mono ?_
        rintro e w1 ⟨rfl, rfl⟩
        rw [decide_eq_true h0]
        go_wp2_with fail
        go_ret
        exact ⟨rfl, Below.refl _ _⟩
    · go_enter Try.func6, Try.ntmps6
      go_wp2_with fail
      refine (bytesRw a s _ _ HA.out HS.out _).mono ?_
      rintro e w1 ⟨rfl, rfl⟩
      rw [decide_eq_true h0]
      go_wp2_with fail
      go_ret
      exact ⟨rfl, Below.refl _ _⟩
  · go_enter Try.func6, Try.ntmps6
    go_wp2_with fail
    refine (bytesRw a s _ _ HA.out HS.out _).mono ?_
    rintro e w1 ⟨rfl, rfl⟩
    rw [decide_eq_false h0]
    go_wp2_with fail
    go_ret
    exact ⟨rfl, Below.refl _ _⟩
end Go.Proofs.Qxb6000456a

namespace Go.Proofs.Qxb6000456a.fnEmitRepeatWordSpec
open Go.ChangeShapes Go.WideShapes Go.ChangeAt Go.RowKit
open Go.ChangeMaps (open_string shut_string)
set_option linter.unusedVariables false

theorem own : ownKnob Try.prog.godebug = none := by kernel_rfl

set_option maxRecDepth 100000 in
theorem lifted (os : Os) (started : os.Started) (H : Type) (enc : TypeId × Value → H) :
    ReturnsInHanded {} Try.checked os 6 .any (Rows.fnEmitRepeatWordSpecSpec.pre6 enc Try.prog Try.f6 Rows.fnEmitRepeatWordSpecRow.domain false) (Rows.fnEmitRepeatWordSpecSpec.post enc Try.prog Try.f6 false true false false) := by
  refine returnsInHanded_of_change (C := Try.checked) own started (by kernel_rfl) Try.func6
    (ChangeSpec.witness6 (enc := enc) (C := Try.checked) false ⟨#[], #[.string ByteArray.empty, .int .i64 0, .int .i64 0, .string ByteArray.empty], []⟩ 8 (by kernel_rfl) (by kernel_rfl) (by kernel_rfl) (by kernel_rfl)) ?_
  intro W base args ds gs before hval0 hW hcnd _
  have hval : ∀ (j : Nat) t v, Try.f6.params[j]? = some t → args[j]? = some v → Value.okWide Try.prog W .any base t v := hval0
  have hW' := hW
  obtain ⟨p, q, hA0, hV, rfl, hfz, hnd⟩ := hW
  have hA : DataW.TrodAll enc Try.prog W 0 (fun _ => true) true Try.f6.params.toList args.toList ds p := hA0
  rw [Try.params6] at hA hval
  obtain ⟨v0, vs0, d0, ds0, p0, q0, hargs, rfl, rfl, h0, r0⟩ := trodAll_cons hA
  obtain ⟨v1, vs1, d1, ds1, p1, q1, rfl, rfl, rfl, h1, r1⟩ := trodAll_cons r0
  obtain ⟨v2, vs2, d2, ds2, p2, q2, rfl, rfl, rfl, h2, r2⟩ := trodAll_cons r1
  obtain ⟨v3, vs3, d3, ds3, p3, q3, rfl, rfl, rfl, h3, r3⟩ := trodAll_cons r2
  obtain ⟨rfl, rfl, rfl⟩ := trodAll_nil r3
  obtain rfl : args = #[v0, v1, v2, v3] := by cases args; simp_all
  obtain ⟨rfl, rfl⟩ := trodVars_none hV
  obtain ⟨a0, rfl, rfl, rfl, w0⟩ := open_string Try.underlying9 (hval 0 9 v0 rfl rfl) h0
  obtain ⟨a1, rfl, rfl, rfl, w1⟩ := open_int Try.underlying3 (hval 1 3 v1 rfl rfl) h1
  obtain ⟨a2, rfl, rfl, rfl, w2⟩ := open_int Try.underlying3 (hval 2 3 v2 rfl rfl) h2
  obtain ⟨a3, rfl, rfl, rfl, w3⟩ := open_string Try.underlying9 (hval 3 9 v3 rfl rfl) h3
  clear hA0 hval0
  refine (rw_walk a0 a3 a1 a2 w0 w3 W).mono fun e W' ⟨he, bel⟩ => ?_
  subst he
  exact ⟨_, rfl, _, _, _, [], _, [], hW', trodAll_mk1 (shut_bool Try.underlying4 _), (trodAll_cons_mk (shut_string Try.underlying9 w0) (trodAll_cons_mk (shut_int Try.underlying3 w1) (trodAll_cons_mk (shut_int Try.underlying3 w2) (trodAll_cons_mk (shut_string Try.underlying9 w3) trodAll_mk0)))), rfl, bel.frame _, fun h => by cases h⟩

theorem over : Rows.fnEmitRepeatWordSpecRow.holds Try.pinned (OpenSpec.ofChange Rows.fnEmitRepeatWordSpecSpec) :=
  OpenClaim.holds_of_wide 6 Try.f6 rfl rfl rfl rfl rfl rfl rfl ⟨rfl, rfl, rfl, rfl, rfl⟩ rfl rfl rfl rfl rfl (by kernel_rfl) Try.func6 (by kernel_rfl)
    (of_decide_eq_true (by kernel_rfl)) (by unfold Func.isWrapper; first | (rw [if_pos (by decide +kernel)]; kernel_rfl) | (rw [if_neg (by decide +kernel)]; exact ⟨rfl, rfl⟩))
    (fun os started H enc _ => lifted os started H enc)

theorem proved : Rows.FnEmitRepeatWordSpecSaid := over
end Go.Proofs.Qxb6000456a.fnEmitRepeatWordSpec

namespace Go.Proofs.Qxb6000456a
theorem fnEmitRepeatWordSpec_proved : Rows.FnEmitRepeatWordSpecSaid := fnEmitRepeatWordSpec.proved
end Go.Proofs.Qxb6000456a
