import Derived.Test.Qxb6000456aRbc
import Derived.ProofKit
import Derived.OpenShut
import Derived.ShutString
import Derived.ChangeOld
import Derived.Lib.SmallJoins
namespace Go.Proofs.Qxb6000456a
open Go.RowKit
set_option linter.unusedVariables false
set_option linter.unusedSimpArgs false

set_option maxHeartbeats 1000000 in
set_option maxRecDepth 100000 in
theorem rbc_walk (x : S4) (hx : x.Wf) (l m : Int) (s : ByteArray) (hs : s.size ≤ maxLen) (w : World) :
    Calls Try.prog 5 #[.agg #[.int .u64 x.a, .int .u64 x.b, .int .u64 x.c, .int .u64 x.d], .int .i64 l, .int .i64 m, .string s] w fun e w' => e = .returned (.bool true) ∧ Below w.heap.size w w' := by
  unfold maxLen at hs
  by_cases h0 : s.size ≤ 1048576
  · by_cases h1 : s.size ≤ 65536
    · by_cases h2 : l < 0
      · go_enter Try.func5, Try.ntmps5
        go_wp2_with fail
        refine (bytes15_yes x _ _ s (by omega) _).mono ?_
        rintro e w1 ⟨rfl, hw1⟩
        have K1 : Below w.heap.size w w1 := by rw [hw1]; exact ((Kept.refl (fun _ => False) w).alloc _ |>.alloc _).below (Nat.le_refl _) (fun _ _ h => h)
        clear hw1
        go_wp2_with fail
        go_ret
        exact ⟨rfl, K1⟩
      · by_cases h3 : l ≤ 65536
        · by_cases h4 : m < -1
          · go_enter Try.func5, Try.ntmps5
            go_wp2_with fail
            refine (bytes15_yes x _ _ s (by omega) _).mono ?_
            rintro e w1 ⟨rfl, hw1⟩
            have K1 : Below w.heap.size w w1 := by rw [hw1]; exact ((Kept.refl (fun _ => False) w).alloc _ |>.alloc _).below (Nat.le_refl _) (fun _ _ h => h)
            clear hw1
            go_wp2_with fail
            go_ret
            exact ⟨rfl, K1⟩
          · by_cases h5 : m ≤ 65536
            · by_cases h6 : m = -1 ∨ l ≤ m
              · obtain ⟨n, rfl⟩ := Int.eq_ofNat_of_zero_le (show 0 ≤ l by omega)
                exact rbc_main x hx n m s h1 (by omega) (by omega) h5 h6 w
              · have h7 : (m != -1) = true := by simp; omega
                have h8 : m < l := by omega
                clear h6
                go_enter Try.func5, Try.ntmps5
                go_wp2_with fail
                refine (bytes15_yes x _ _ s (by omega) _).mono ?_
                rintro e w1 ⟨rfl, hw1⟩
                have K1 : Below w.heap.size w w1 := by rw [hw1]; exact ((Kept.refl (fun _ => False) w).alloc _ |>.alloc _).below (Nat.le_refl _) (fun _ _ h => h)
                clear hw1
                go_wp2_with fail
                go_ret
                exact ⟨rfl, K1⟩
            · go_enter Try.func5, Try.ntmps5
              go_wp2_with fail
              refine (bytes15_yes x _ _ s (by omega) _).mono ?_
              rintro e w1 ⟨rfl, hw1⟩
              have K1 : Below w.heap.size w w1 := by rw [hw1]; exact ((Kept.refl (fun _ => False) w).alloc _ |>.alloc _).below (Nat.le_refl _) (fun _ _ h => h)
              clear hw1
              go_wp2_with fail
              go_ret
              exact ⟨rfl, K1⟩
        · go_enter Try.func5, Try.ntmps5
          go_wp2_with fail
          refine (bytes15_yes x _ _ s (by omega) _).mono ?_
          rintro e w1 ⟨rfl, hw1⟩
          have K1 : Below w.heap.size w w1 := by rw [hw1]; exact ((Kept.refl (fun _ => False) w).alloc _ |>.alloc _).below (Nat.le_refl _) (fun _ _ h => h)
          clear hw1
          go_wp2_with fail
          go_ret
          exact ⟨rfl, K1⟩
    · go_enter Try.func5, Try.ntmps5
      go_wp2_with fail
      refine (bytes15_yes x _ _ s (by omega) _).mono ?_
      rintro e w1 ⟨rfl, hw1⟩
      have K1 : Below w.heap.size w w1 := by rw [hw1]; exact ((Kept.refl (fun _ => False) w).alloc _ |>.alloc _).below (Nat.le_refl _) (fun _ _ h => h)
      clear hw1
      go_wp2_with fail
      go_ret
      exact ⟨rfl, K1⟩
  · go_enter Try.func5, Try.ntmps5
    go_wp2_with fail
    refine (bytes15_no x _ _ s (by omega) (by omega) _).mono ?_
    rintro e w1 ⟨rfl, hw1⟩
    have K1 : Below w.heap.size w w1 := by rw [hw1]; exact ((Kept.refl (fun _ => False) w).alloc _ |>.alloc _).below (Nat.le_refl _) (fun _ _ h => h)
    clear hw1
    go_wp2_with fail
    go_ret
    exact ⟨rfl, K1⟩
end Go.Proofs.Qxb6000456a

namespace Go.Proofs.Qxb6000456a.fnEmitRepeatByteClassSpec
open Go.ChangeShapes Go.WideShapes Go.ChangeAt Go.RowKit
open Go.ChangeMaps (open_string shut_string)
set_option linter.unusedVariables false

theorem own : ownKnob Try.prog.godebug = none := by kernel_rfl
theorem cells32 : Try.prog.cellsOf 32 = 4 := by kernel_rfl
theorem cells31 : Try.prog.cellsOf 31 = 1 := by kernel_rfl

theorem okWide_array {P : Program} {w : World} {r : Reach} {base : Nat} {t e : TypeId} {n : Nat} {v : Value} (ht : P.underlying t = some (.array n e)) (h : Value.okWide P w r base t v) : ∃ cs, v = .agg cs ∧ cs.size = P.cellsOf t := by
  cases v <;> simp_all [Value.okWide]

theorem u64_of_wf {n : Int} (h : (Lit.int .u64 n).wf = true) : u64ok n := by
  have := bounds_u64 h
  exact ⟨by omega, by omega⟩

theorem open_set {H : Type} {enc : TypeId × Value → H} {W : World} {r : Reach} {base b0 : Nat} {sp : Nat → Bool} {held : Bool} {v : Value} {d : DataW H} {p : List MemPlace} (hv : Value.okWide Try.prog W r b0 32 v) (h : DataW.Trod enc Try.prog W base sp held 32 v d p) :
    ∃ x : S4, x.Wf ∧ v = .agg #[.int .u64 x.a, .int .u64 x.b, .int .u64 x.c, .int .u64 x.d] := by
  obtain ⟨cs, rfl, hsz⟩ := okWide_array Try.underlying32 hv
  obtain ⟨c0, c1, c2, c3, rfl⟩ := Joins.array4 (hsz.trans cells32)
  obtain ⟨fuel, hf⟩ := h
  obtain ⟨xs, m, _, _, _, hlen, hi⟩ := DataW.trod_array Try.underlying32 hf
  match xs, hlen with
  | [y0, y1, y2, y3], _ =>
    have h0 := hi 0 (by omega)
    have h1 := hi 1 (by omega)
    have h2 := hi 2 (by omega)
    have h3 := hi 3 (by omega)
    simp [Value.cells, cells31] at h0 h1 h2 h3
    obtain ⟨a, e0, _, wa⟩ := DataW.trod_int Try.underlying31 h0
    obtain ⟨b, e1, _, wb⟩ := DataW.trod_int Try.underlying31 h1
    obtain ⟨c, e2, _, wc⟩ := DataW.trod_int Try.underlying31 h2
    obtain ⟨d, e3, _, wd⟩ := DataW.trod_int Try.underlying31 h3
    simp at e0 e1 e2 e3
    subst e0 e1 e2 e3
    exact ⟨⟨a, b, c, d⟩, ⟨u64_of_wf wa, u64_of_wf wb, u64_of_wf wc, u64_of_wf wd⟩, rfl⟩

set_option maxRecDepth 100000 in
theorem lifted (os : Os) (started : os.Started) (H : Type) (enc : TypeId × Value → H) :
    ReturnsInHanded {} Try.checked os 5 .any (Rows.fnEmitRepeatByteClassSpecSpec.pre6 enc Try.prog Try.f5 Rows.fnEmitRepeatByteClassSpecRow.domain false) (Rows.fnEmitRepeatByteClassSpecSpec.post enc Try.prog Try.f5 false true false false) := by
  refine returnsInHanded_of_change (C := Try.checked) own started (by kernel_rfl) Try.func5
    (ChangeSpec.witness6 (enc := enc) (C := Try.checked) false ⟨#[], #[.agg #[.int .u64 0, .int .u64 0, .int .u64 0, .int .u64 0], .int .i64 0, .int .i64 0, .string ByteArray.empty], []⟩ 8 (by kernel_rfl) (by kernel_rfl) (by kernel_rfl) (by kernel_rfl)) ?_
  intro W base args ds gs before hval0 hW hcnd _
  have hval : ∀ (j : Nat) t v, Try.f5.params[j]? = some t → args[j]? = some v → Value.okWide Try.prog W .any base t v := hval0
  have hW' := hW
  obtain ⟨p, q, hA0, hV, rfl, hfz, hnd⟩ := hW
  have hA : DataW.TrodAll enc Try.prog W 0 (fun _ => true) true Try.f5.params.toList args.toList ds p := hA0
  rw [Try.params5] at hA hval
  obtain ⟨v0, vs0, d0, ds0, p0, q0, hargs, rfl, rfl, h0, r0⟩ := trodAll_cons hA
  obtain ⟨v1, vs1, d1, ds1, p1, q1, rfl, rfl, rfl, h1, r1⟩ := trodAll_cons r0
  obtain ⟨v2, vs2, d2, ds2, p2, q2, rfl, rfl, rfl, h2, r2⟩ := trodAll_cons r1
  obtain ⟨v3, vs3, d3, ds3, p3, q3, rfl, rfl, rfl, h3, r3⟩ := trodAll_cons r2
  obtain ⟨rfl, rfl, rfl⟩ := trodAll_nil r3
  obtain rfl : args = #[v0, v1, v2, v3] := by cases args; simp_all
  obtain ⟨rfl, rfl⟩ := trodVars_none hV
  have k0 := h0
  have lt0 : ∀ x ∈ p0, x.block < W.heap.size := by obtain ⟨m, hm⟩ := k0; exact DataW.trod_lt m _ _ _ hm
  obtain ⟨x, hx, rfl⟩ := open_set (hval 0 32 v0 rfl rfl) h0
  obtain ⟨a1, rfl, rfl, rfl, w1⟩ := open_int Try.underlying3 (hval 1 3 v1 rfl rfl) h1
  obtain ⟨a2, rfl, rfl, rfl, w2⟩ := open_int Try.underlying3 (hval 2 3 v2 rfl rfl) h2
  obtain ⟨a3, rfl, rfl, rfl, w3⟩ := open_string Try.underlying9 (hval 3 9 v3 rfl rfl) h3
  clear hA0 hval0
  refine (rbc_walk x hx a1 a2 a3 w3 W).mono fun e W' ⟨he, bel⟩ => ?_
  subst he
  exact ⟨_, rfl, _, _, _, [], _, [], hW', trodAll_mk1 (shut_bool Try.underlying4 _), (trodAll_cons_mk (Below.trod Try.laidOut (by kernel_rfl) (of_decide_eq_true (by kernel_rfl)) k0 bel lt0) (trodAll_cons_mk (shut_int Try.underlying3 w1) (trodAll_cons_mk (shut_int Try.underlying3 w2) (trodAll_cons_mk (shut_string Try.underlying9 w3) trodAll_mk0)))), rfl, bel.frame _, fun h => by cases h⟩

theorem over : Rows.fnEmitRepeatByteClassSpecRow.holds Try.pinned (OpenSpec.ofChange Rows.fnEmitRepeatByteClassSpecSpec) :=
  OpenClaim.holds_of_wide 5 Try.f5 rfl rfl rfl rfl rfl rfl rfl ⟨rfl, rfl, rfl, rfl, rfl⟩ rfl rfl rfl rfl rfl (by kernel_rfl) Try.func5 (by kernel_rfl)
    (of_decide_eq_true (by kernel_rfl)) (by unfold Func.isWrapper; first | (rw [if_pos (by decide +kernel)]; kernel_rfl) | (rw [if_neg (by decide +kernel)]; exact ⟨rfl, rfl⟩))
    (fun os started H enc _ => lifted os started H enc)

theorem proved : Rows.FnEmitRepeatByteClassSpecSaid := over
#print axioms proved
end Go.Proofs.Qxb6000456a.fnEmitRepeatByteClassSpec

namespace Go.Proofs.Qxb6000456a
theorem fnEmitRepeatByteClassSpec_proved : Rows.FnEmitRepeatByteClassSpecSaid := fnEmitRepeatByteClassSpec.proved
end Go.Proofs.Qxb6000456a
