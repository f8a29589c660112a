import Derived.Test.Qxb6600238aOwn
import Derived.Shelf.SlicesE.Clone
import Derived.Deep.AppendLies
set_option linter.unusedVariables false
set_option linter.unusedSimpArgs false
set_option linter.unusedSectionVars false
namespace Go.Proofs.Qxb6600238a
open Go.Shelf Go.RowKit Go.Lib Go.Sort

/-- Sorted by name, equals allowed. -/
def SortedN (l : List Lbl) : Prop := l.Pairwise (fun x y => ¬ compareBytes (nm y) (nm x) < 0)
theorem sortedN_of (d : Array Lbl) (h : SortedIn (ltOf cfL) 0 d.size d) : SortedN d.toList := by
  unfold SortedN
  rw [List.pairwise_iff_getElem]
  intro i j hi hj hij
  have := h i j (Nat.zero_le _) hij (by simpa using hj)
  rw [getElem!_pos d i (by simpa using hi), getElem!_pos d j (by simpa using hj)] at this
  exact of_decide_eq_false this

theorem enters46 : ∀ args w, (callFunc 46 args).run Try.prog w = .ok (.enter 46 args) w := enters_of Try.func46 (by kernel_rfl) rfl

set_option maxHeartbeats 1000000 in
theorem sortStable_any (B g n cap : Nat) (l : List Lbl) (w : World) (h : OwnL B w g n cap l) (hn : n < 1152921504606846976) :
    Calls Try.prog 45 #[.slice (some ⟨g, 0, none⟩) n cap, .func (.func 46) #[] #[]] w fun e w' => e = .returned (.tuple #[]) ∧ ∃ l', SortedN l' ∧ Stab nm l l' ∧ OwnL B w' g n cap l' ∧ Below B w w' := by
  have hl := h.len
  have hlt : g < w.heap.size := by obtain ⟨_, _, h2, _⟩ := h.parts; exact h2
  have R : RowK encL 2 w g 0 l.toArray := ⟨fun _ => rfl, fun x v hv => by simp [encL] at hv; rcases hv with rfl | rfl <;> rfl, h.holds, hlt⟩
  have hc : CmpLays Try.prog 46 #[] encL 2 cfL g 0 l.toArray.size w := fun _ _ _ _ x y => closure46 x y _
  have c := stable_any encL cfL nm swoL keyL 46 #[] enters46 g 0 cap l.toArray w R hc (by simp; omega)
  have es : l.toArray.size = n := by simpa using hl
  rw [es] at c
  have HH : Hid (OwnL B w g n cap l) := h
  have HL : Hid (l.length = n) := hl
  clear h R hc es hl
  go_enter Try.func45, Try.ntmps45
  go_wp2_with fail
  refine c.mono ?_
  rintro e w' ⟨rfl, d', hG, S⟩
  have hds : d'.size = n := by rw [hG.1.1]; simpa using HL.out
  have hR : Hid (∃ l', SortedN l' ∧ Stab nm l l' ∧ OwnL B w' g n cap l' ∧ Below B w w') := by
    refine ⟨d'.toList, ?_, ?_, HH.out.sorted d' hds S⟩
    · apply sortedN_of
      rw [hds]
      exact hG.2.2
    · exact hG.2.1
  clear hG S hds c
  go_wp2_with fail
  go_end0
  exact ⟨rfl, hR.out⟩

def cloneRen : Go.Shelf.Ren := ⟨fun | 41 => 44 | n => n, fun | 22 => 36 | 23 => 41 | n => n, fun | n => n⟩
theorem cloneLays : SlLaysE0.n41 Try.prog cloneRen := {
  mixed := by kernel_rfl
  f41 := ⟨Try.f44.name, by kernel_rfl, Try.func44.trans (congrArg some (by kernel_rfl))⟩
  t4 := Try.underlying4
  a4 := Try.isAgg4
  z4 := Try.sizeOf4
  v4 := Try.zeroValue4
  t22 := Try.underlying36
  a22 := Try.isAgg36
  z22 := Try.sizeOf36
  v22 := Try.zeroValue36 }
theorem info41 : (Try.prog.info? 41).map (fun i => (i.zero, i.size, i.bytes)) = some (some (.agg #[.string ByteArray.empty, .string ByteArray.empty]), 2, 32) := by kernel_rfl

theorem clone_any (B g n cap : Nat) (l : List Lbl) (w : World) (h : OwnL B w g n cap l) (hn : n ≤ 1099511627776) (h0 : 0 < n) :
    Calls Try.prog 44 #[.slice (some ⟨g, 0, none⟩) n cap] w fun e w' => ∃ g' cap', e = .returned (.slice (some ⟨g', 0, none⟩) n cap') ∧ OwnL w.heap.size w' g' n cap' l ∧ Below w.heap.size w w' := by
  obtain ⟨i0, hi, hz0, hz1, hz2⟩ := info_parts info41
  have c := AnyE.slices_Clone cloneLays i0 _ 2 32 hi hz0 hz1 hz2 rfl (by decide) Try.sizeOf41 g 0 n cap (lcells l) w (by rw [lcells_length, h.len]) (by unfold maxLen; omega) (by omega)
    (fun j u hj => by
      have := h.cells (g := g) rfl j u hj
      simpa only [Addr.add_lit] using this) (lcells_one l)
  refine c.mono ?_
  rintro e w' ⟨v', rfl, ho, hv, hb⟩
  obtain ⟨g', cap', rfl, _, _⟩ := World.ownsRow.form ho h0
  exact ⟨g', cap', rfl, ho, hb⟩
end Go.Proofs.Qxb6600238a
