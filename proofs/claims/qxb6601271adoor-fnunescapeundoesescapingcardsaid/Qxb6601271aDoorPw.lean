import Derived.Test.Qxb6601271aDoorPu
import Derived.Test.Qxb6601271aDoorShelf
import Derived.Lib.AtoiErrMem
set_option linter.unusedVariables false
set_option linter.unusedSimpArgs false
namespace Go.Proofs.Qxb6601271aDoor
open Go.RowKit

/-- The two error variables hold errors, or nothing. -/
def ErrV (w : World) (k : Nat) : Prop := ∃ ev, w.cell? ⟨k, 0, none⟩ = some ev ∧ (ev = .nilIface ∨ ∃ te pe, ev = .iface te pe)
def Vars (w : World) : Prop := ErrV w 2 ∧ ErrV w 3
theorem ErrV.below {w w' : World} {B k : Nat} (h : ErrV w k) (hb : Below B w w') (hk : k < B) : ErrV w' k := by
  obtain ⟨ev, h1, h2⟩ := h
  exact ⟨ev, by rw [World.cell?_of_block (w := w) (a := ⟨k, 0, none⟩) (hb.block k hk)]; exact h1, h2⟩
theorem Vars.below {w w' : World} {B : Nat} (h : Vars w) (hb : Below B w w') (hB : 4 ≤ B) : Vars w' := ⟨h.1.below hb (by omega), h.2.below hb (by omega)⟩

def PwPost (r : Option Nat) (e : Ending) : Prop :=
  match r with
  | some n => e = .returned (.tuple #[.int .u64 n, .nilIface])
  | none => ∃ v N, e = .returned (.tuple #[.int .u64 v, .iface 69 (.pointer (some ⟨N, 0, none⟩))])

set_option maxHeartbeats 1000000 in
theorem parseUint_any (t : ByteArray) (hne : t.size ≠ 0) (hmax : t.size ≤ 4096) (w : World) (hv : Vars w) (h4 : 4 ≤ w.heap.size) :
    Calls Tryd.prog 30 #[.string t, .int .i64 8, .int .i64 8] w fun e w' => PwPost (parse8 0 t.data.toList) e ∧ Below w.heap.size w w' := by
  have HV : Hid (Vars w) := hv
  have hmax2 : t.size ≤ 281474976710656 := by omega
  clear hv
  go_enter Tryd.func30, Tryd.ntmps30
  go_wp2_with fail
  refine (inner_any t hne (by omega) _).mono ?_
  rintro e w1 ⟨hp, rfl⟩
  have HB : Hid (Below w.heap.size w (Lib.bytesWorld w 5 t)) := Lib.bytesWorld_below w 5 t
  generalize Lib.bytesWorld w 5 t = w1 at *
  cases hr : parse8 0 t.data.toList with
  | some n =>
    rw [hr] at hp
    have hp' : e = .returned (.tuple #[.int .u64 n, .nilIface]) := hp
    subst hp'
    have HR : Hid (parse8 0 t.data.toList = some n) := hr
    clear hp hr
    go_wp2_with fail
    go_ret2
    exact ⟨by rw [HR.out]; rfl, HB.out⟩
  | none =>
    rw [hr] at hp
    obtain ⟨v, k, rfl, hk⟩ := hp
    have HR : Hid (parse8 0 t.data.toList = none) := hr
    clear hr
    rcases hk with rfl | rfl
    · go_wp2_with fail
      obtain ⟨ev, hc, hev⟩ := (HV.out.below HB.out h4).2
      refine (Tryd.strconv_toError_range _ t 8 8 ev w1 hmax2 hc hev).mono ?_
      rintro e w2 ⟨N, rfl, _, _, hb2⟩
      have HB2 : Hid (Below w.heap.size w w2) := HB.out.trans (hb2.mono HB.out.size)
      clear hb2 hc hev
      go_wp2_with fail
      go_ret2
      exact ⟨by rw [HR.out]; exact ⟨_, _, rfl⟩, HB2.out⟩
    · go_wp2_with fail
      obtain ⟨ev, hc, hev⟩ := (HV.out.below HB.out h4).1
      refine (Tryd.strconv_toError_syntax _ t 8 8 ev w1 hmax2 hc hev).mono ?_
      rintro e w2 ⟨N, rfl, _, _, hb2⟩
      have HB2 : Hid (Below w.heap.size w w2) := HB.out.trans (hb2.mono HB.out.size)
      clear hb2 hc hev
      go_wp2_with fail
      go_ret2
      exact ⟨by rw [HR.out]; exact ⟨_, _, rfl⟩, HB2.out⟩
end Go.Proofs.Qxb6601271aDoor
