import Derived.Test.Qxb6600238aLaw
import Derived.ProofKit
import Derived.SliceStrings
import Derived.OpenShut
set_option linter.unusedVariables false
set_option linter.unusedSimpArgs false
namespace Go.Proofs.Qxb6600238a.fnResultLabelsMatchesModel
open Go.ChangeShapes Go.WideShapes Go.ChangeAt Go.RowKit
open Go.ChangeMaps (open_string shut_string)

theorem own : ownKnob Try.prog.godebug = none := by kernel_rfl
theorem laidOut : laidOutB Try.prog = true := by kernel_rfl
theorem cells9 : Try.prog.cellsOf 9 = 1 := by kernel_rfl

theorem open_words {H : Type} {enc : TypeId × Value → H} {W : World} {a0 : Option Addr} {len cap fuel : Nat} {x : DataW H × List MemPlace}
    (hf : DataW.trod enc Try.prog W 0 (fun _ => true) true fuel 27 [.slice a0 len cap] = some x) :
    ∃ ws : List ByteArray, len ≤ maxLen ∧ (∀ s ∈ ws, s.size ≤ maxLen) ∧ StrS W a0 len ws := by
  rcases open_strings Try.underlying27 Try.underlying9 cells9 hf with ⟨hcs, hx⟩ | ⟨a, len', cap', ss, hcs, _, hl, hm, hz, hx, hcell, hws⟩
  · simp at hcs
    obtain ⟨rfl, rfl, rfl⟩ := hcs
    exact ⟨[], Nat.zero_le _, fun s hs => (by cases hs), rfl, fun j hj => by omega⟩
  · simp at hcs
    obtain ⟨rfl, rfl, rfl⟩ := hcs
    simp only [if_true] at hz
    refine ⟨ss.take len, by omega, fun s hs => hws s (List.mem_of_mem_take hs), by simp; omega, ?_⟩
    intro i hi
    obtain ⟨b, off, spot⟩ := a
    have hspot : spot = none := by simpa [Addr.add] using World.cell?_spot (hcell 0 (by omega))
    subst hspot
    have hb : b < W.heap.size := by
      have := block_lt_of_cell (hcell 0 (by omega))
      simpa [Addr.add] using this
    refine ⟨b, off, rfl, hb, fun j hj => ?_⟩
    have h1 := hcell j (by omega)
    rw [Addr.add_lit] at h1
    rw [h1]
    simp [List.getElem_take, List.getD, List.getElem?_eq_getElem (show j < ss.length by omega), hj, List.getElem?_take]

set_option maxRecDepth 100000 in
set_option maxHeartbeats 1000000 in
theorem lifted (os : Os) (started : os.Started) (H : Type) (enc : TypeId × Value → H) :
    ReturnsInHanded {} Try.checked os 6 .any (Rows.fnResultLabelsMatchesModelSpec.pre6 enc Try.prog Try.f6 Rows.fnResultLabelsMatchesModelRow.domain false) (Rows.fnResultLabelsMatchesModelSpec.post enc Try.prog Try.f6 false true false false) := by
  refine returnsInHanded_of_change (C := Try.checked) own started (by kernel_rfl) Try.func6
    (ChangeSpec.witness6 (enc := enc) (C := Try.checked) false ⟨#[], #[.int .i64 0, .bool false, .slice none 0 0, .slice none 0 0, .slice none 0 0, .slice none 0 0, .slice none 0 0, .slice none 0 0, .bool false], []⟩ 8 (by kernel_rfl) (by kernel_rfl) (by kernel_rfl) (by kernel_rfl)) ?_
  intro W base args ds gs before hval0 hW hcnd _
  have hval : ∀ (j : Nat) t v, Try.f6.params[j]? = some t → args[j]? = some v → Value.okWide Try.prog W .any base t v := hval0
  have hW' := hW
  obtain ⟨p, q, hA0, hV, rfl, hfz, hnd⟩ := hW
  have hA : DataW.TrodAll enc Try.prog W 0 (fun _ => true) true Try.f6.params.toList args.toList ds p := hA0
  rw [Try.params6] at hA hval
  obtain ⟨v0, vs0, d0, ds0, p0, q0, hargs, rfl, rfl, h0, r0⟩ := trodAll_cons hA
  obtain ⟨v1, vs1, d1, ds1, p1, q1, rfl, rfl, rfl, h1, r1⟩ := trodAll_cons r0
  obtain ⟨v2, vs2, d2, ds2, p2, q2, rfl, rfl, rfl, h2, r2⟩ := trodAll_cons r1
  obtain ⟨v3, vs3, d3, ds3, p3, q3, rfl, rfl, rfl, h3, r3⟩ := trodAll_cons r2
  obtain ⟨v4, vs4, d4, ds4, p4, q4, rfl, rfl, rfl, h4, r4⟩ := trodAll_cons r3
  obtain ⟨v5, vs5, d5, ds5, p5, q5, rfl, rfl, rfl, h5, r5⟩ := trodAll_cons r4
  obtain ⟨v6, vs6, d6, ds6, p6, q6, rfl, rfl, rfl, h6, r6⟩ := trodAll_cons r5
  obtain ⟨v7, vs7, d7, ds7, p7, q7, rfl, rfl, rfl, h7, r7⟩ := trodAll_cons r6
  obtain ⟨v8, vs8, d8, ds8, p8, q8, rfl, rfl, rfl, h8, r8⟩ := trodAll_cons r7
  obtain ⟨rfl, rfl, rfl⟩ := trodAll_nil r8
  obtain rfl : args = #[v0, v1, v2, v3, v4, v5, v6, v7, v8] := by cases args; simp_all
  obtain ⟨rfl, rfl⟩ := trodVars_none hV
  have k0 := h0
  have k1 := h1
  have k2 := h2
  have k3 := h3
  have k4 := h4
  have k5 := h5
  have k6 := h6
  have k7 := h7
  have k8 := h8
  have lt2 : ∀ x ∈ p2, x.block < W.heap.size := by obtain ⟨m, hm⟩ := k2; exact DataW.trod_lt m _ _ _ hm
  have lt3 : ∀ x ∈ p3, x.block < W.heap.size := by obtain ⟨m, hm⟩ := k3; exact DataW.trod_lt m _ _ _ hm
  have lt4 : ∀ x ∈ p4, x.block < W.heap.size := by obtain ⟨m, hm⟩ := k4; exact DataW.trod_lt m _ _ _ hm
  have lt5 : ∀ x ∈ p5, x.block < W.heap.size := by obtain ⟨m, hm⟩ := k5; exact DataW.trod_lt m _ _ _ hm
  have lt6 : ∀ x ∈ p6, x.block < W.heap.size := by obtain ⟨m, hm⟩ := k6; exact DataW.trod_lt m _ _ _ hm
  have lt7 : ∀ x ∈ p7, x.block < W.heap.size := by obtain ⟨m, hm⟩ := k7; exact DataW.trod_lt m _ _ _ hm
  obtain ⟨a2, n2, c2, rfl⟩ := okWide_slice Try.underlying27 (hval 2 27 v2 rfl rfl)
  obtain ⟨a3, n3, c3, rfl⟩ := okWide_slice Try.underlying27 (hval 3 27 v3 rfl rfl)
  obtain ⟨a4, n4, c4, rfl⟩ := okWide_slice Try.underlying27 (hval 4 27 v4 rfl rfl)
  obtain ⟨a5, n5, c5, rfl⟩ := okWide_slice Try.underlying27 (hval 5 27 v5 rfl rfl)
  obtain ⟨a6, n6, c6, rfl⟩ := okWide_slice Try.underlying27 (hval 6 27 v6 rfl rfl)
  obtain ⟨a7, n7, c7, rfl⟩ := okWide_slice Try.underlying27 (hval 7 27 v7 rfl rfl)
  obtain ⟨f2, g2⟩ := h2
  obtain ⟨f3, g3⟩ := h3
  obtain ⟨f4, g4⟩ := h4
  obtain ⟨f5, g5⟩ := h5
  obtain ⟨f6, g6⟩ := h6
  obtain ⟨f7, g7⟩ := h7
  obtain ⟨l2, m2, s2, w2⟩ := open_words (by simpa [Value.cells] using g2)
  obtain ⟨l3, m3, s3, w3⟩ := open_words (by simpa [Value.cells] using g3)
  obtain ⟨l4, m4, s4, w4⟩ := open_words (by simpa [Value.cells] using g4)
  obtain ⟨l5, m5, s5, w5⟩ := open_words (by simpa [Value.cells] using g5)
  obtain ⟨l6, m6, s6, w6⟩ := open_words (by simpa [Value.cells] using g6)
  obtain ⟨l7, m7, s7, w7⟩ := open_words (by simpa [Value.cells] using g7)
  obtain ⟨a0, rfl, rfl, rfl, w0⟩ := open_int Try.underlying3 (hval 0 3 v0 rfl rfl) h0
  obtain ⟨a1, rfl, rfl, rfl⟩ := open_bool Try.underlying4 (hval 1 4 v1 rfl rfl) h1
  obtain ⟨a8, rfl, rfl, rfl⟩ := open_bool Try.underlying4 (hval 8 4 v8 rfl rfl) h8
  clear hA0 hval0
  refine (law_any a0 a1 a8 a2 a3 a4 a5 a6 a7 n2 n3 n4 n5 n6 n7 c2 c3 c4 c5 c6 c7 l2 l3 l4 l5 l6 l7 W w2 w3 w4 w5 w6 w7 m2 m3 m4 m5 m6 m7 s3 s4 s6).mono fun e W' ⟨he, bel⟩ => ?_
  subst he
  exact ⟨_, rfl, _, _, _, [], _, [], hW', trodAll_mk1 (shut_bool Try.underlying4 _), (trodAll_cons_mk (shut_int Try.underlying3 w0) (trodAll_cons_mk (shut_bool Try.underlying4 _)
    (trodAll_cons_mk (Below.trod laidOut (by kernel_rfl) (of_decide_eq_true (by kernel_rfl)) k2 bel lt2)
    (trodAll_cons_mk (Below.trod laidOut (by kernel_rfl) (of_decide_eq_true (by kernel_rfl)) k3 bel lt3)
    (trodAll_cons_mk (Below.trod laidOut (by kernel_rfl) (of_decide_eq_true (by kernel_rfl)) k4 bel lt4)
    (trodAll_cons_mk (Below.trod laidOut (by kernel_rfl) (of_decide_eq_true (by kernel_rfl)) k5 bel lt5)
    (trodAll_cons_mk (Below.trod laidOut (by kernel_rfl) (of_decide_eq_true (by kernel_rfl)) k6 bel lt6)
    (trodAll_cons_mk (Below.trod laidOut (by kernel_rfl) (of_decide_eq_true (by kernel_rfl)) k7 bel lt7)
    (trodAll_cons_mk (shut_bool Try.underlying4 _) trodAll_mk0))))))))), rfl, bel.frame _, fun h => by cases h⟩

theorem over : Rows.fnResultLabelsMatchesModelRow.holds Try.pinned (OpenSpec.ofChange Rows.fnResultLabelsMatchesModelSpec) :=
  OpenClaim.holds_of_wide 6 Try.f6 rfl rfl rfl rfl rfl rfl rfl ⟨rfl, rfl, rfl, rfl, rfl⟩ rfl rfl rfl rfl rfl (by kernel_rfl) Try.func6 (by kernel_rfl)
    (of_decide_eq_true (by kernel_rfl)) (by unfold Func.isWrapper; first | (rw [if_pos (by decide +kernel)]; kernel_rfl) | (rw [if_neg (by decide +kernel)]; exact ⟨rfl, rfl⟩))
    (fun os started H enc _ => lifted os started H enc)
end Go.Proofs.Qxb6600238a.fnResultLabelsMatchesModel

namespace Go.Proofs.Qxb6600238a
theorem fnResultLabelsMatchesModel_proved : Rows.FnResultLabelsMatchesModelSaid := fnResultLabelsMatchesModel.over
end Go.Proofs.Qxb6600238a
