import Derived.Test.Qxb6601271aDoorShr
import Derived.ProofKit
import Derived.LaidMore
import Derived.OpenShut
import Derived.ShutString
import Derived.ChangeOld
import Derived.Stop.Joined
import Derived.Stop.LaidErr
set_option linter.unusedVariables false
namespace Go.Proofs.Qxb6601271aDoor
open Go.ChangeShapes Go.WideShapes Go.ChangeAt Go.RowKit

theorem own : ownKnob Tryd.prog.godebug = none := by kernel_rfl
theorem gR : Tryd.prog.globalNamed "strconv.ErrRange" = some 3 := by kernel_rfl
theorem gS : Tryd.prog.globalNamed "strconv.ErrSyntax" = some 2 := by kernel_rfl
theorem tR : (Tryd.prog.globals[3]?).map (·.type) = some 52 := by kernel_rfl
theorem tS : (Tryd.prog.globals[2]?).map (·.type) = some 52 := by kernel_rfl
theorem u52 : ∃ ms, Tryd.prog.underlying 52 = some (.interface ms) := ⟨_, Tryd.underlying52⟩
def theLaid : List (String × DataW Unit) := Rows.fnUnescapeShrinksByThreesRow.laid

theorem door_met (os : Os) (args : Array Value) : laidMetH Tryd.prog theLaid ((World.doorLaid Tryd.prog 400 os).forCall (fun _ _ => 0) ⟨#[], args, []⟩).memory :=
  laidMetH_of_parts3 (fuel := 8) (laidMet_of_run' 8 (by kernel_rfl) (by kernel_rfl)) (by kernel_rfl) (by kernel_rfl)

theorem cells103 : Tryd.prog.cellsOf 103 = 1 := by kernel_rfl
theorem cells9 : Tryd.prog.cellsOf 9 = 1 := by kernel_rfl
/-- The type's name as the given row bears it. -/
def rowName : String := match (Rows.laid_strconv_ErrRange (H := Unit)) with | .iface s _ => s | _ => "none"
theorem row101 (u : TypeId) (h : Tryd.prog.typeName? 3 u = some rowName) : u = 101 :=
  typeName_ptr_named (P := Tryd.prog) (tp := 101) (nm := "errors.errorString")
    ((congrArg (fun s => ((List.range Tryd.prog.types.size).all fun u => Tryd.prog.typeName? 3 u != some s || u == 101)) (by decide +kernel)).trans
      (show ((List.range Tryd.prog.types.size).all fun u => Tryd.prog.typeName? 3 u != some rowName || u == 101) = true by kernel_rfl))
    (by kernel_rfl) (by decide) u (h.trans (congrArg some (by decide +kernel)))

theorem vars_of {W : World} (h : laidMetH Tryd.prog theLaid W) : Vars W := by
  rw [MakeChecks.laidMetH_plain _ _ _ (by kernel_rfl)] at h
  have h3 : laidMet Tryd.prog [("strconv.ErrRange", Rows.laid_strconv_ErrRange), ("strconv.ErrSyntax", Rows.laid_strconv_ErrSyntax)] W := laidMet.tail (laidMet.tail (laidMet.tail h))
  obtain ⟨a1, s1, hv1, _⟩ := laid_sentinel h3 gR tR Tryd.underlying52 row101 Tryd.underlying101 Tryd.underlying103 rfl rfl Tryd.underlying9 cells103 cells9
  obtain ⟨a2, s2, hv2, _⟩ := laid_sentinel (laidMet.tail h3) gS tS Tryd.underlying52 row101 Tryd.underlying101 Tryd.underlying103 rfl rfl Tryd.underlying9 cells103 cells9
  have c1 : W.cell? ⟨3, 0, none⟩ = some (.iface 101 (.pointer (some a1))) := by simpa using World.var?_cell gR hv1 0
  have c2 : W.cell? ⟨2, 0, none⟩ = some (.iface 101 (.pointer (some a2))) := by simpa using World.var?_cell gS hv2 0
  exact ⟨⟨_, c2, .inr ⟨_, _, rfl⟩⟩, ⟨_, c1, .inr ⟨_, _, rfl⟩⟩⟩
end Go.Proofs.Qxb6601271aDoor
