import Derived.Test.Qxb6000456aKp1b
import Derived.Deep.CutBlock
namespace Go.Proofs.Qxb6000456a
open Go.RowKit
set_option linter.unusedVariables false
set_option linter.unusedSimpArgs false

theorem size_le_bytes {ws : List ByteArray} {s : ByteArray} (h : s ∈ ws) : s.size ≤ bytesOf ws := by
  induction ws with
  | nil => cases h
  | cons t ws ih =>
    rcases List.mem_cons.1 h with rfl | h
    · simp only [bytesOf]; omega
    · have := ih h; simp only [bytesOf]; omega

set_option maxHeartbeats 4000000 in
set_option maxRecDepth 100000 in
theorem kp_walk (ao : Option Addr) (cap : Nat) (ws : List ByteArray) (l most : Int) (hlen : ws.length ≤ maxLen) (hsz : ∀ s ∈ ws, s.size ≤ maxLen) (hnil : ao = none → ws = [] ∧ cap = 0) (w : World) (hW : Words w ao ws) :
    Calls Try.prog 7 #[.slice ao ws.length cap, .int .i64 l, .int .i64 most] w fun e w' => e = .returned (.bool true) ∧ Below w.heap.size w w' := by
  have HLen : Hid (ws.length ≤ maxLen) := hlen
  have HSz : Hid (∀ s ∈ ws, s.size ≤ maxLen) := hsz
  have Hnil : Hid (ao = none → ws = [] ∧ cap = 0) := hnil
  have HW : Hid (Words w ao ws) := hW
  have hlen2 : ws.length ≤ 9223372036854775807 := by unfold maxLen at hlen; omega
  clear hlen hsz hnil hW
  go_enter Try.func7, Try.ntmps7
  go_wp2_with fail
  refine (bytesKp ao cap ws HLen.out HSz.out l most _ HW.out).mono ?_
  rintro e w1 ⟨⟨b1, rfl⟩, rfl⟩
  cases b1
  · go_wp2_with fail
    go_ret
    exact ⟨rfl, Below.refl _ _⟩
  · by_cases hm : ws.length ≤ 65536
    · go_upto_block 0 with fail
      go_cut [7] (fun v w' => v = .int .i64 (bytesOf ws) ∧ bytesOf ws ≤ 1048576 ∧ w = w')
      case first =>
        go_wp2_with fail
        go_loop [7, 8] (fun t i => ∃ (k T : Nat), k ≤ ws.length ∧ T ≤ 1048576 ∧ i = .int .i64 k ∧ t = .int .i64 T ∧ Hid (T = bytesOf (ws.take k))) (fun _ i => ws.length - (intOf i).toNat)
        case atStart => exact ⟨0, 0, Nat.zero_le _, by omega, rfl, rfl, rfl⟩
        case round =>
          obtain ⟨k, T, hk, hT, rfl, rfl, HT⟩ := hrel
          by_cases hlt : k < ws.length
          · obtain ⟨b, off, hao, hc⟩ := HW.out k hlt
            subst hao
            have hsz := HSz.out (ws[k]'hlt) (List.getElem_mem hlt)
            unfold maxLen at hsz
            have HX : Hid (bytesOf (ws.take (k + 1)) = bytesOf (ws.take k) + (ws[k]'hlt).size) := by
              rw [Hid, List.take_succ_eq_append_getElem hlt, bytesOf_snoc]
            generalize ws[k]'hlt = s at *
            by_cases h2 : s.size ≤ 1048576
            · by_cases h3 : T + s.size ≤ 1048576
              · have HT2 : Hid (T + s.size = bytesOf (ws.take (k + 1))) := by rw [Hid, HX.out, HT.out]
                clear HX HT
                go_wp2_with fail
                go_round
                case rel => exact ⟨k + 1, T + s.size, by omega, by omega, by go_num, by go_num, HT2⟩
                case measure => simp [intOf]; omega
              · go_wp2_with fail
                go_ret
                exact ⟨rfl, Below.refl _ _⟩
            · go_wp2_with fail
              go_ret
              exact ⟨rfl, Below.refl _ _⟩
          · have hke : k = ws.length := by omega
            subst hke
            have HT2 : Hid (T = bytesOf ws) := by have := HT.out; rw [List.take_length] at this; exact this
            clear HT
            go_wp2_with fail
            go_meet
            case rel => exact ⟨by rw [HT2.out], by rw [← HT2.out]; exact hT, rfl⟩
      case rest =>
        obtain ⟨rfl, hB, rfl⟩ := hcut
        apply ‹∀ (a : Act) (w : World), Code.wp Try.prog _ _ a w → _›
        exact kp1b w w l cap most ao ws (bytesOf ws) Hnil rfl hm hB (Kept.refl _ _) HW (fun s hs => Nat.le_trans (size_le_bytes hs) hB) _ _ _ _ _ _ _ _ _ _ _ _ _ _ _ _ _ _ _ _ _ _ _ _ _ _ _ _ _ _ _ _ _ _ _ _ _ _ _ _ _ _ _ _ _ _ _ _ _ _ _ _ _ _ _ _ _ _ _ _ _ _ _ _ _ _ _ _ _ _ _ _ _ _ _ _ _ _ _ _ _ _ _ _ _ _ _ _ _ _ _ _ _ _ _ _ _ _ _ _ _ _ _ _ _ _ _ _ _ _ _ _ _ _ _ _ _ _ _ _ _ _ _ _ _ _ _ _ _ _ _ _ _ _ _ _ _ _ _ _ _ _ _ _ _ _ _ _ _ _ _ _ _ _ _ _ _ _ _ _ _ _ _ _ _ _ _ _ _ _ _ _ _ _ _ _ _ _ _ _ _ _ _ _ _ _ _ _ _ _ _ _ _ _ _ _ _ _ _ _ _ _ _ _ _ _ _ _ _ _ _ _ _ _ _ _ _ _ _ _ _ _ _ _ _ _ _ _ _ _ _ _ _ _ _ _ _ _ _ _ _ _ _ _ _ _ _ _ _ _ _ _ _ _ _ _ _ _ _ _ _ _ _ _ _ _ _ _ _ _ _ _ _ _ _ _ _ _ _ _ _ _ _ _ _ _ _ _ _ _ _ _ _ _ _ _ _ _ _ _ _ _ _ _ _ _ _ _ _ _ _ _ _ _ _ _ _ _ _ _ _ _ _ _ _ _ _ _ _ _ _ _ _
    · go_wp2_with fail
      go_ret
      exact ⟨rfl, Below.refl _ _⟩
end Go.Proofs.Qxb6000456a
