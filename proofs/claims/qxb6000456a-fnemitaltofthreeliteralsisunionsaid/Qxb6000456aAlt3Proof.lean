import Derived.Test.Qxb6000456aAlt3
namespace Go.Proofs.Qxb6000456a
open Go.RowKit
set_option linter.unusedVariables false
set_option linter.unusedSimpArgs false

set_option maxHeartbeats 2000000 in
theorem alt_walk (a b c s : ByteArray) (ha : a.size ≤ maxLen) (hb : b.size ≤ maxLen) (hc : c.size ≤ maxLen) (hs : s.size ≤ maxLen) (w : World) :
    Calls Try.prog 4 #[.string a, .string b, .string c, .string s] w fun e w' => e = .returned (.bool true) ∧ Below w.heap.size w w' := by
  have HA : Hid (a.size ≤ maxLen) := ha
  have HB : Hid (b.size ≤ maxLen) := hb
  have HC : Hid (c.size ≤ maxLen) := hc
  have HS : Hid (s.size ≤ maxLen) := hs
  unfold maxLen at ha hb hc hs
  by_cases h0 : a.size + b.size + c.size + s.size ≤ 1048576
  · by_cases h1 : a.size ≤ 65536
    · by_cases h2 : b.size ≤ 65536
      · by_cases h3 : c.size ≤ 65536
        · by_cases h4 : s.size ≤ 65536
          · exact alt_main a b c s h1 h2 h3 h4 w
          · go_enter Try.func4, Try.ntmps4
            go_wp2_with fail
            refine (bytesAlt a b c s HA.out HB.out HC.out HS.out _).mono ?_
            rintro e w1 ⟨rfl, rfl⟩
            rw [decide_eq_true h0]
            go_wp2_with fail
            go_ret
            exact ⟨rfl, Below.refl _ _⟩
        · go_enter Try.func4, Try.ntmps4
          go_wp2_with fail
          refine (bytesAlt a b c s HA.out HB.out HC.out HS.out _).mono ?_
          rintro e w1 ⟨rfl, rfl⟩
          rw [decide_eq_true h0]
          go_wp2_with fail
          go_ret
          exact ⟨rfl, Below.refl _ _⟩
      · go_enter Try.func4, Try.ntmps4
        go_wp2_with fail
        refine (bytesAlt a b c s HA.out HB.out HC.out HS.out _).mono ?_
        rintro e w1 ⟨rfl, rfl⟩
        rw [decide_eq_true h0]
        go_wp2_with fail
        go_ret
        exact ⟨rfl, Below.refl _ _⟩
    · go_enter Try.func4, Try.ntmps4
      go_wp2_with fail
      refine (bytesAlt a b c s HA.out HB.out HC.out HS.out _).mono ?_
      rintro e w1 ⟨rfl, rfl⟩
      rw [decide_eq_true h0]
      go_wp2_with fail
      go_ret
      exact ⟨rfl, Below.refl _ _⟩
  · go_enter Try.func4, Try.ntmps4
    go_wp2_with fail
    refine (bytesAlt a b c s HA.out HB.out HC.out HS.out _).mono ?_
    rintro e w1 ⟨rfl, rfl⟩
    rw [decide_eq_false h0]
    go_wp2_with fail
    go_ret
    exact ⟨rfl, Below.refl _ _⟩
end Go.Proofs.Qxb6000456a

namespace Go.Proofs.Qxb6000456a.fnEmitAltOfThreeLiteralsIsUnion
open Go.ChangeShapes Go.WideShapes Go.ChangeAt Go.RowKit
open Go.ChangeMaps (open_string shut_string)
set_option linter.unusedVariables false

theorem own : ownKnob Try.prog.godebug = none := by kernel_rfl

set_option maxRecDepth 100000 in
theorem lifted (os : Os) (started : os.Started) (H : Type) (enc : TypeId × Value → H) :
    ReturnsInHanded {} Try.checked os 4 .any (Rows.fnEmitAltOfThreeLiteralsIsUnionSpec.pre6 enc Try.prog Try.f4 Rows.fnEmitAltOfThreeLiteralsIsUnionRow.domain false) (Rows.fnEmitAltOfThreeLiteralsIsUnionSpec.post enc Try.prog Try.f4 false true false false) := by
  refine returnsInHanded_of_change (C := Try.checked) own started (by kernel_rfl) Try.func4
    (ChangeSpec.witness6 (enc := enc) (C := Try.checked) false ⟨#[], #[.string ByteArray.empty, .string ByteArray.empty, .string ByteArray.empty, .string ByteArray.empty], []⟩ 8 (by kernel_rfl) (by kernel_rfl) (by kernel_rfl) (by kernel_rfl)) ?_
  intro W base args ds gs before hval0 hW hcnd _
  have hval : ∀ (j : Nat) t v, Try.f4.params[j]? = some t → args[j]? = some v → Value.okWide Try.prog W .any base t v := hval0
  have hW' := hW
  obtain ⟨p, q, hA0, hV, rfl, hfz, hnd⟩ := hW
  have hA : DataW.TrodAll enc Try.prog W 0 (fun _ => true) true Try.f4.params.toList args.toList ds p := hA0
  rw [Try.params4] at hA hval
  obtain ⟨v0, vs0, d0, ds0, p0, q0, hargs, rfl, rfl, h0, r0⟩ := trodAll_cons hA
  obtain ⟨v1, vs1, d1, ds1, p1, q1, rfl, rfl, rfl, h1, r1⟩ := trodAll_cons r0
  obtain ⟨v2, vs2, d2, ds2, p2, q2, rfl, rfl, rfl, h2, r2⟩ := trodAll_cons r1
  obtain ⟨v3, vs3, d3, ds3, p3, q3, rfl, rfl, rfl, h3, r3⟩ := trodAll_cons r2
  obtain ⟨rfl, rfl, rfl⟩ := trodAll_nil r3
  obtain rfl : args = #[v0, v1, v2, v3] := by cases args; simp_all
  obtain ⟨rfl, rfl⟩ := trodVars_none hV
  obtain ⟨a0, rfl, rfl, rfl, w0⟩ := open_string Try.underlying9 (hval 0 9 v0 rfl rfl) h0
  obtain ⟨a1, rfl, rfl, rfl, w1⟩ := open_string Try.underlying9 (hval 1 9 v1 rfl rfl) h1
  obtain ⟨a2, rfl, rfl, rfl, w2⟩ := open_string Try.underlying9 (hval 2 9 v2 rfl rfl) h2
  obtain ⟨a3, rfl, rfl, rfl, w3⟩ := open_string Try.underlying9 (hval 3 9 v3 rfl rfl) h3
  clear hA0 hval0
  refine (alt_walk a0 a1 a2 a3 w0 w1 w2 w3 W).mono fun e W' ⟨he, bel⟩ => ?_
  subst he
  exact ⟨_, rfl, _, _, _, [], _, [], hW', trodAll_mk1 (shut_bool Try.underlying4 _), (trodAll_cons_mk (shut_string Try.underlying9 w0) (trodAll_cons_mk (shut_string Try.underlying9 w1) (trodAll_cons_mk (shut_string Try.underlying9 w2) (trodAll_cons_mk (shut_string Try.underlying9 w3) trodAll_mk0)))), rfl, bel.frame _, fun h => by cases h⟩

theorem over : Rows.fnEmitAltOfThreeLiteralsIsUnionRow.holds Try.pinned (OpenSpec.ofChange Rows.fnEmitAltOfThreeLiteralsIsUnionSpec) :=
  OpenClaim.holds_of_wide 4 Try.f4 rfl rfl rfl rfl rfl rfl rfl ⟨rfl, rfl, rfl, rfl, rfl⟩ rfl rfl rfl rfl rfl (by kernel_rfl) Try.func4 (by kernel_rfl)
    (of_decide_eq_true (by kernel_rfl)) (by unfold Func.isWrapper; first | (rw [if_pos (by decide +kernel)]; kernel_rfl) | (rw [if_neg (by decide +kernel)]; exact ⟨rfl, rfl⟩))
    (fun os started H enc _ => lifted os started H enc)

theorem proved : Rows.FnEmitAltOfThreeLiteralsIsUnionSaid := over
end Go.Proofs.Qxb6000456a.fnEmitAltOfThreeLiteralsIsUnion

namespace Go.Proofs.Qxb6000456a
theorem fnEmitAltOfThreeLiteralsIsUnion_proved : Rows.FnEmitAltOfThreeLiteralsIsUnionSaid := fnEmitAltOfThreeLiteralsIsUnion.proved
end Go.Proofs.Qxb6000456a
