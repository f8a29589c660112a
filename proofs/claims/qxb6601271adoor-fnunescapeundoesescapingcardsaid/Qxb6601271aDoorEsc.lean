import Derived.Test.Qxb6601271aDoorShr
import Derived.Deep.AppendLies
import Derived.Laws.MakeOwn
import Derived.Laws.IdiomStrings
set_option linter.unusedVariables false
set_option linter.unusedSimpArgs false
namespace Go.Proofs.Qxb6601271aDoor
open Go.RowKit

def octB (c : UInt8) : List UInt8 := [(92 : UInt8), (48 : UInt8) + (c >>> (6 : UInt8)), (48 : UInt8) + ((c >>> (3 : UInt8)) &&& (7 : UInt8)), (48 : UInt8) + (c &&& (7 : UInt8))]

/-- A row of bytes of its own. -/
def OwnB (B : Nat) (w : World) (g n cap : Nat) (out : List UInt8) : Prop := w.ownsRow B 5 1 (.slice (some ⟨g, 0, none⟩) n cap) n (Lib.byteCells out)
theorem OwnB.snoc {B : Nat} {w : World} {g n cap : Nat} {out : List UInt8} {x : Int} {c : UInt8} (h : w.ownsRow B 5 1 (.slice (some ⟨g, 0, none⟩) n cap) n (Lib.byteCells out ++ [.int .u8 x])) (hx : x = (c.toNat : Int)) : OwnB B w g n cap (out ++ [c]) := by
  unfold OwnB
  rw [← byteCells_snoc, ← hx]
  exact h

theorem all256 {p : UInt8 → Prop} (h : ∀ i : Fin 256, p (UInt8.ofNat i.val)) (c : UInt8) : p c := by
  have := h ⟨c.toNat, UInt8.toNat_lt c⟩
  simpa using this
theorem dig6 (c : UInt8) : (48 + (c.toNat : Int) / 64) % 256 = (((48 : UInt8) + (c >>> (6 : UInt8))).toNat : Int) := by
  revert c; apply all256; decide +kernel
theorem dig3 (c : UInt8) : (48 + bits BinOp.and IntKind.u8 ((c.toNat : Int) / 8) 7) % 256 = (((48 : UInt8) + ((c >>> (3 : UInt8)) &&& (7 : UInt8))).toNat : Int) := by
  revert c; apply all256; decide +kernel
theorem dig0 (c : UInt8) : (48 + bits BinOp.and IntKind.u8 (c.toNat : Int) 7) % 256 = (((48 : UInt8) + (c &&& (7 : UInt8))).toNat : Int) := by
  revert c; apply all256; decide +kernel

set_option maxHeartbeats 2000000 in
set_option maxRecDepth 100000 in
theorem appendOctal_any (B g n cap : Nat) (out : List UInt8) (c : UInt8) (w : World) (h : OwnB B w g n cap out) (hlen : n + 4 ≤ 140737488355328) (hB0 : B ≤ w.heap.size) :
    Calls Tryd.prog 23 #[.slice (some ⟨g, 0, none⟩) n cap, .int .u8 (c.toNat : Int)] w fun e w' => ∃ g' cap', e = .returned (.slice (some ⟨g', 0, none⟩) (n + 4) cap') ∧ OwnB B w' g' (n + 4) cap' (out ++ octB c) ∧ Below B w w' := by
  obtain ⟨i0, hi, hz0, hz1, hz2⟩ := info_parts infoB
  have HO0 : Hid (OwnB B w g n cap out ∧ Below B w w) := ⟨h, Below.refl _ _⟩
  clear h
  go_enter Tryd.func23, Tryd.ntmps23
  go_wp2_with (at_builtin; refine wpList_append_lies _ rfl _ _ 23 rfl B 5 i0 (.int .u8 0) 1 1 Tryd.underlying23 hi hz0 hz1 hz2 rfl (by decide) _ _ _ rfl (HO0.out.1.alloc _) ⟨w.heap.size, 0, none⟩ 1 1 [.int .u8 (92)] rfl rfl ?c1 ?c2 (by decide) ?c3 ?c4 ?c5 _ rfl ?_)
  case c1 =>
    intro j u hj
    match j, hj with
    | 0, hj => simp at hj; subst hj; simp [Addr.add]
  case c2 => intro u hu; simp at hu; subst hu; rfl
  case c3 => unfold maxLen; omega
  case c4 => omega
  case c5 => simp; omega
  intro g1 cap1 w1 ho hg _ hlt1
  have HO1 : Hid (OwnB B w1 g1 (n + 1) cap1 (out ++ [(92 : UInt8)]) ∧ Below B w w1) :=
    ⟨by simpa using OwnB.snoc ho rfl, HO0.out.2.trans (((Below.refl _ _).alloc hB0 _).grown hg (by simp; omega) (fun k hk => (HO0.out.1.lt k hk).1))⟩
  have hB1 : B ≤ w1.heap.size := by have := HO1.out.2.size; omega
  clear ho hg
  go_wp2_with (at_builtin; refine wpList_append_lies _ rfl _ _ 23 rfl B 5 i0 (.int .u8 0) 1 1 Tryd.underlying23 hi hz0 hz1 hz2 rfl (by decide) _ _ _ rfl (HO1.out.1.alloc _) ⟨w1.heap.size, 0, none⟩ 1 1 [.int .u8 ((48 + (c.toNat : Int) / 64) % 256)] rfl rfl ?c1 ?c2 (by decide) ?c3 ?c4 ?c5 _ rfl ?_)
  case c1 =>
    intro j u hj
    match j, hj with
    | 0, hj => simp at hj; subst hj; simp [Addr.add]
  case c2 => intro u hu; simp at hu; subst hu; rfl
  case c3 => unfold maxLen; omega
  case c4 => omega
  case c5 => simp; omega
  intro g2 cap2 w2 ho hg _ hlt2
  have HO2 : Hid (OwnB B w2 g2 (n + 2) cap2 (out ++ [(92 : UInt8)] ++ [(48 : UInt8) + (c >>> (6 : UInt8))]) ∧ Below B w w2) :=
    ⟨by simpa using OwnB.snoc ho (dig6 c), HO1.out.2.trans (((Below.refl _ _).alloc hB1 _).grown hg (by simp; omega) (fun k hk => (HO1.out.1.lt k hk).1))⟩
  have hB2 : B ≤ w2.heap.size := by have := HO2.out.2.size; omega
  clear ho hg
  go_wp2_with (at_builtin; refine wpList_append_lies _ rfl _ _ 23 rfl B 5 i0 (.int .u8 0) 1 1 Tryd.underlying23 hi hz0 hz1 hz2 rfl (by decide) _ _ _ rfl (HO2.out.1.alloc _) ⟨w2.heap.size, 0, none⟩ 1 1 [.int .u8 ((48 + bits BinOp.and IntKind.u8 ((c.toNat : Int) / 8) 7) % 256)] rfl rfl ?c1 ?c2 (by decide) ?c3 ?c4 ?c5 _ rfl ?_)
  case c1 =>
    intro j u hj
    match j, hj with
    | 0, hj => simp at hj; subst hj; simp [Addr.add]
  case c2 => intro u hu; simp at hu; subst hu; rfl
  case c3 => unfold maxLen; omega
  case c4 => omega
  case c5 => simp; omega
  intro g3 cap3 w3 ho hg _ hlt3
  have HO3 : Hid (OwnB B w3 g3 (n + 3) cap3 (out ++ [(92 : UInt8)] ++ [(48 : UInt8) + (c >>> (6 : UInt8))] ++ [(48 : UInt8) + ((c >>> (3 : UInt8)) &&& (7 : UInt8))]) ∧ Below B w w3) :=
    ⟨by simpa using OwnB.snoc ho (dig3 c), HO2.out.2.trans (((Below.refl _ _).alloc hB2 _).grown hg (by simp; omega) (fun k hk => (HO2.out.1.lt k hk).1))⟩
  have hB3 : B ≤ w3.heap.size := by have := HO3.out.2.size; omega
  clear ho hg
  go_wp2_with (at_builtin; refine wpList_append_lies _ rfl _ _ 23 rfl B 5 i0 (.int .u8 0) 1 1 Tryd.underlying23 hi hz0 hz1 hz2 rfl (by decide) _ _ _ rfl (HO3.out.1.alloc _) ⟨w3.heap.size, 0, none⟩ 1 1 [.int .u8 ((48 + bits BinOp.and IntKind.u8 (c.toNat : Int) 7) % 256)] rfl rfl ?c1 ?c2 (by decide) ?c3 ?c4 ?c5 _ rfl ?_)
  case c1 =>
    intro j u hj
    match j, hj with
    | 0, hj => simp at hj; subst hj; simp [Addr.add]
  case c2 => intro u hu; simp at hu; subst hu; rfl
  case c3 => unfold maxLen; omega
  case c4 => omega
  case c5 => simp; omega
  intro g4 cap4 w4 ho hg _ hlt4
  have HO4 : Hid (OwnB B w4 g4 (n + 4) cap4 (out ++ [(92 : UInt8)] ++ [(48 : UInt8) + (c >>> (6 : UInt8))] ++ [(48 : UInt8) + ((c >>> (3 : UInt8)) &&& (7 : UInt8))] ++ [(48 : UInt8) + (c &&& (7 : UInt8))]) ∧ Below B w w4) :=
    ⟨by simpa using OwnB.snoc ho (dig0 c), HO3.out.2.trans (((Below.refl _ _).alloc hB3 _).grown hg (by simp; omega) (fun k hk => (HO3.out.1.lt k hk).1))⟩
  have hB4 : B ≤ w4.heap.size := by have := HO4.out.2.size; omega
  clear ho hg
  go_wp2_with fail
  go_ret
  refine ⟨g4, cap4, rfl, ?_, HO4.out.2⟩
  have := HO4.out.1
  simpa [octB] using this
end Go.Proofs.Qxb6601271aDoor
