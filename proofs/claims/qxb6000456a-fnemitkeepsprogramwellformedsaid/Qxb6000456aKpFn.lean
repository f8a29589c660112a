import Derived.Test.Qxb6000456aKpLaw
import Derived.Test.Qxb6000456aAlt3
import Derived.Deep.DeepCutAuto
namespace Go.Proofs.Qxb6000456a
open Go.RowKit
set_option linter.unusedVariables false
set_option linter.unusedSimpArgs false

set_option maxHeartbeats 400000 in
theorem instCount_any (p n ci : Nat) (a : Option Addr) (w : World) (h0 : w.cell? ⟨p, 0, none⟩ = some (.slice a n ci)) :
    Calls Try.prog 24 #[.pointer (some ⟨p, 0, none⟩)] w fun e w' => e = .returned (.int .i64 n) ∧ w = w' := by
  go_enter Try.func24, Try.ntmps24
  go_wp2
  go_ret
  exact ⟨rfl, rfl⟩
set_option maxHeartbeats 400000 in
theorem setCount_any (p n ci : Nat) (a : Option Addr) (w : World) (h0 : w.cell? ⟨p, 1, none⟩ = some (.slice a n ci)) :
    Calls Try.prog 25 #[.pointer (some ⟨p, 0, none⟩)] w fun e w' => e = .returned (.int .i64 n) ∧ w = w' := by
  go_enter Try.func25, Try.ntmps25
  go_wp2
  go_ret
  exact ⟨rfl, rfl⟩
set_option maxHeartbeats 400000 in
theorem instAt_any (p gi n ci k : Nat) (o a x : Nat) (w : World) (h0 : w.cell? ⟨p, 0, none⟩ = some (.slice (some ⟨gi, 0, none⟩) n ci)) (hk : k < n) (hx : w.cell? ⟨gi, k * 3, none⟩ = some (.int .u8 o)) (hy : w.cell? ⟨gi, k * 3 + 1, none⟩ = some (.int .i32 a)) (hz : w.cell? ⟨gi, k * 3 + 2, none⟩ = some (.int .i32 x)) :
    Calls Try.prog 26 #[.pointer (some ⟨p, 0, none⟩), .int .i64 k] w fun e w' => e = .returned (.tuple #[.int .u8 o, .int .i32 a, .int .i32 x]) ∧ Kept (fun _ => False) w w' := by
  go_enter Try.func26, Try.ntmps26
  go_wp2_with fail
  go_quiet (fail)
  go_wp2_with fail
  go_ret3
  exact ⟨rfl, (((Kept.refl _ w).alloc _).drewN _)⟩
set_option maxHeartbeats 400000 in
theorem setAt_any (p gs n cs k : Nat) (x : S4) (w : World) (h0 : w.cell? ⟨p, 1, none⟩ = some (.slice (some ⟨gs, 0, none⟩) n cs)) (hk : k < n) (ha : w.cell? ⟨gs, k * 4, none⟩ = some (.int .u64 x.a)) (hb : w.cell? ⟨gs, k * 4 + 1, none⟩ = some (.int .u64 x.b)) (hc : w.cell? ⟨gs, k * 4 + 2, none⟩ = some (.int .u64 x.c)) (hd : w.cell? ⟨gs, k * 4 + 3, none⟩ = some (.int .u64 x.d)) :
    Calls Try.prog 27 #[.pointer (some ⟨p, 0, none⟩), .int .i64 k] w fun e w' => e = .returned (.agg #[.int .u64 x.a, .int .u64 x.b, .int .u64 x.c, .int .u64 x.d]) ∧ Kept (fun _ => False) w w' := by
  have hpw : p < w.heap.size := block_lt_of_cell h0
  have hgw : gs < w.heap.size := block_lt_of_cell ha
  go_enter Try.func27, Try.ntmps27
  go_wp2_with fail
  refine bodyPost_ret (results_cell_row (p := 4) (ty := 32) rfl _ _ w.heap.size 32 _ (0, 0) (.array 4 31) rfl (heap_alloc_new w _) (by kernel_rfl) rfl (by kernel_rfl)) rfl ?_
  exact ⟨rfl, (Kept.refl _ w).alloc _⟩

/-- A bool, and nothing else. -/
def BoolPost (w : World) (e : Ending) (w' : World) : Prop := (∃ b : Bool, e = .returned (.bool b)) ∧ w = w'
theorem BoolPost.mk (w : World) (b : Bool) : BoolPost w (.returned (.bool b)) w := ⟨⟨b, rfl⟩, rfl⟩

/-- The words' slice as it came in. -/
def Words (w : World) (ao : Option Addr) (ws : List ByteArray) : Prop := ∀ i (h : i < ws.length), ∃ b off, ao = some ⟨b, off, none⟩ ∧ w.cell? ⟨b, off + i, none⟩ = some (.string ws[i])

set_option maxHeartbeats 1000000 in
theorem bytesKp (ao : Option Addr) (cap : Nat) (ws : List ByteArray) (hm : ws.length ≤ maxLen) (hw : ∀ s ∈ ws, s.size ≤ maxLen) (l most : Int) (w : World) (hW : Words w ao ws) :
    Calls Try.prog 23 #[.slice ao ws.length cap, .int .i64 l, .int .i64 most] w fun e w' => BoolPost w e w' := by
  unfold maxLen at hm
  have HW : Hid (Words w ao ws) := hW
  have HS : Hid (∀ s ∈ ws, s.size ≤ maxLen) := hw
  clear hW hw
  by_cases h1 : ws.length ≤ 1048576
  · go_enter Try.func23, Try.ntmps23
    go_wp2_with fail
    go_loop [7, 8] (fun t i => ∃ (k T : Nat), k ≤ ws.length ∧ T ≤ 1048576 ∧ i = .int .i64 k ∧ t = .int .i64 T) (fun _ i => ws.length - (intOf i).toNat)
    case atStart => exact ⟨0, ws.length, Nat.zero_le _, h1, rfl, by simp⟩
    case round =>
      obtain ⟨k, T, hk, hT, rfl, rfl⟩ := hrel
      by_cases hlt : k < ws.length
      · obtain ⟨b, off, hao, hc⟩ := HW.out k hlt
        subst hao
        have hsz := HS.out ws[k] (List.getElem_mem hlt)
        unfold maxLen at hsz
        generalize ws[k] = s at *
        by_cases h2 : s.size ≤ 1048576
        · by_cases h3 : T + s.size ≤ 1048576
          · go_wp2_with fail
            go_round
            case rel => exact ⟨k + 1, T + s.size, by omega, by omega, by go_num, by go_num⟩
            case measure => simp [intOf]; omega
          · go_wp2_with fail
            go_ret
            exact BoolPost.mk _ _
        · go_wp2_with fail
          go_ret
          exact BoolPost.mk _ _
      · go_wp2_with fail
        go_ret
        exact BoolPost.mk _ _
  · go_enter Try.func23, Try.ntmps23
    go_wp2_with fail
    go_ret
    exact BoolPost.mk _ _
end Go.Proofs.Qxb6000456a
