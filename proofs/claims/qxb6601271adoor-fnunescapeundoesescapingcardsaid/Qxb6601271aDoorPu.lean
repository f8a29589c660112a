import Derived.Test.Qxb6601271aDoorBld
import Derived.Lib.ConvBytes
import Derived.Lib.Hide
import Derived.Laws.Strings3
import Derived.Laws.Closers25
import Derived.Laws.Closers25b
import Derived.BigCall
import Derived.BigGuard
set_option linter.unusedVariables false
set_option linter.unusedSimpArgs false
namespace Go.Proofs.Qxb6601271aDoor
open Go.RowKit

/-- What ParseUint(s, 8, 8) reads: the number, or none. -/
def parse8 : Nat → List UInt8 → Option Nat
  | acc, [] => some acc
  | acc, c :: cs => if 48 ≤ c.toNat ∧ c.toNat ≤ 55 then (if 255 < acc * 8 + (c.toNat - 48) then none else parse8 (acc * 8 + (c.toNat - 48)) cs) else none

def PuPost (r : Option Nat) (e : Ending) : Prop :=
  match r with
  | some n => e = .returned (.tuple #[.int .u64 n, .nilIface])
  | none => ∃ v k, e = .returned (.tuple #[.int .u64 v, .iface 67 (.int .i64 k)]) ∧ (k = 1 ∨ k = 2)

theorem lower_any (c : Int) (w : World) : Calls Tryd.prog 43 #[.int .u8 c] w fun e w' => e = .returned (.int .u8 (bits .or .u8 c 32)) ∧ w' = w := by
  go_enter Tryd.func43, Tryd.ntmps43
  go_wp2
  go_ret
  exact ⟨rfl, rfl⟩

set_option maxHeartbeats 32000000 in
set_option maxRecDepth 100000 in
theorem inner_any (t : ByteArray) (hne : t.size ≠ 0) (hmax : t.size ≤ 9223372036854775806) (w : World) :
    Calls Tryd.prog 37 #[.string t, .int .i64 8, .int .i64 8] w fun e w' => PuPost (parse8 0 t.data.toList) e ∧ w' = Lib.bytesWorld w 5 t := by
  have hemp : t.toList.isEmpty = false := by
    rw [← decide_eq_emptyBytes]
    exact decide_eq_false (fun h => hne (by rw [h]; rfl))
  have hcv := Lib.run_convert_string_bytes (P := Tryd.prog) w 9 23 5 t (u := .string) Tryd.underlying9 Tryd.underlying23 Tryd.underlying5
  have hB : ∀ j, j < t.size → (Lib.bytesWorld w 5 t).cell? ⟨w.heap.size, j, none⟩ = some (.int .u8 (t.data.toList.getD j 0).toNat) := fun j hj => Lib.bytesWorld_cell w 5 t j hj
  obtain ⟨W1, hW1⟩ : ∃ W1, W1 = Lib.bytesWorld w 5 t := ⟨_, rfl⟩
  rw [← hW1] at hcv hB ⊢
  clear hW1
  obtain ⟨bs, hL⟩ : ∃ bs, bs = t.data.toList := ⟨_, rfl⟩
  have hLn : bs.length = t.size := by rw [hL, Lib.size_eq]
  rw [← hL] at hB ⊢
  clear hL
  have hmv : IntKind.u64.wrap (IntKind.u64.wrap 256 - 1) = 255 := by
    rw [IntKind.wrap_u64, IntKind.wrap_u64]
    decide
  go_enter Tryd.func37, Tryd.ntmps37
  go_wp2
  go_loop [12, 13, 101] (fun vu vn vi => ∃ (k acc : Nat) (a : Int), vu = .bool false ∧ vn = .int .u64 a ∧ vi = .int .i64 k ∧ k ≤ t.size ∧ Hid (a = (acc : Int) ∧ acc ≤ 255 ∧ parse8 0 bs = parse8 acc (bs.drop k)))
    (fun _ _ vi => t.size - (intOf vi).toNat)
  case atStart => exact ⟨0, 0, 0, rfl, rfl, rfl, by omega, rfl, by omega, rfl⟩
  case round =>
    obtain ⟨k, acc, a, rfl, rfl, rfl, hk, hh⟩ := hrel
    obtain ⟨ha, hacc, hdec⟩ := hh.out
    clear hh
    have a0 : 0 ≤ a := by omega
    have a1 : a ≤ 255 := by omega
    by_cases hkn : k < t.size
    · have hc := hB k hkn
      have hdrop : bs.drop k = bs[k]'(by omega) :: bs.drop (k + 1) := List.drop_eq_getElem_cons (by omega)
      have hget : bs.getD k 0 = bs[k]'(by omega) := by simp [List.getD, List.getElem?_eq_getElem (show k < bs.length by omega)]
      rw [hdrop] at hdec
      rw [hget] at hc
      generalize bs[k]'(by omega) = c at hc hdec
      have hc256 : c.toNat < 256 := c.toNat_lt
      clear hB hdrop hget
      by_cases hdig : 48 ≤ c.toNat ∧ c.toNat ≤ 55
      · obtain ⟨hd0, hd1⟩ := hdig
        by_cases hov : 255 < acc * 8 + (c.toNat - 48)
        · have hF : parse8 acc (c :: bs.drop (k + 1)) = none := by simp [parse8, hd0, hd1, hov]
          have HF : Hid (parse8 0 bs = none) := hdec.trans hF
          have iov : 255 < a * 8 + ((c.toNat : Int) - 48) := by omega
          clear hacc hF hov ha hdec
          go_wp2
          go_ret2
          refine ⟨?_, rfl⟩
          rw [HF.out]
          exact ⟨_, 1, rfl, .inl rfl⟩
        · have hF : parse8 acc (c :: bs.drop (k + 1)) = parse8 (acc * 8 + (c.toNat - 48)) (bs.drop (k + 1)) := by simp [parse8, hd0, hd1, hov]
          have HN : Hid (a * 8 + ((c.toNat : Int) - 48) = ((acc * 8 + (c.toNat - 48) : Nat) : Int) ∧ acc * 8 + (c.toNat - 48) ≤ 255 ∧ parse8 0 bs = parse8 (acc * 8 + (c.toNat - 48)) (bs.drop (k + 1))) := ⟨by omega, by omega, hdec.trans hF⟩
          have iov : a * 8 + ((c.toNat : Int) - 48) ≤ 255 := by omega
          clear hacc hF hov hdec ha
          go_wp2
          refine ⟨⟨k + 1, acc * 8 + (c.toNat - 48), a * 8 + ((c.toNat : Int) - 48), rfl, (by first | rfl | (congr 1; omega)), (by first | rfl | (congr 1; omega)), by omega, HN⟩, by simp [intOf]; omega⟩
      · have hF : parse8 acc (c :: bs.drop (k + 1)) = none := by simp only [parse8, if_neg hdig]
        have HF : Hid (parse8 0 bs = none) := hdec.trans hF
        clear hacc hF ha hdec
        have hv0 := bits_lo_u8 .or (c.toNat : Int) 32
        have hv1 := bits_hi_u8 .or (c.toNat : Int) 32
        have hu0 := bits_lo_u8 .or 95 32
        have hu1 := bits_hi_u8 .or 95 32
        go_wp2_with (go_at_call 43; refine (lower_any _ _).mono ?_; rintro e w' ⟨rfl, rfl⟩)
        all_goals go_ret2
        all_goals exact ⟨by rw [HF.out]; exact ⟨_, 2, rfl, .inr rfl⟩, rfl⟩
    · have hkk : k = t.size := by omega
      subst hkk
      have hF : parse8 acc (bs.drop t.size) = some acc := by rw [List.drop_eq_nil_of_le (by omega)]; rfl
      have HF : Hid (parse8 0 bs = some acc) := hdec.trans hF
      subst ha
      clear hacc hF a0 a1 hdec
      go_wp2
      go_ret2
      exact ⟨by rw [HF.out]; rfl, rfl⟩
end Go.Proofs.Qxb6601271aDoor
