/-
  DERIVED. GIVEN WITH THE SEED: THE CARDS: each row of Qxb6601271aDoorRows.lean that lists a variable, with what it lists TIED to the program's text (the seventh form; the later family's looks); each row that meets fmt, with fmt's text TOLD by the authors' own Lean function (tested against real Go, not proved from fmt's source: count such statements apart). THE CARD IS WHAT COUNTS. Prove the row's statement (the work); the ties are given (Qxb6601271aDoorTie.lean); close each card by the builder's one call (the guide's Derived/Test/ToyasCard.lean, 'card_holds'). Laid BY PROGRAM, IN A SANDBOX (cutbox-door.mjs). By AI agents, Wed Nov 11 2026. No macro, syntax, notation, axiom, sorry.
-/
import Derived.Test.Qxb6601271aDoorRows
import GoSem.ClaimSeven
namespace Go.Proofs.Qxb6601271aDoor
namespace Rows

/-- THE TIED CARD OF 'zzlaws_hosting_b1.FnUnescapeUndoesEscaping'. -/
def fnUnescapeUndoesEscapingCard : Claim7 := { stood := { row := fnUnescapeUndoesEscapingRow, standIns := [], harness := (true, "21e5c9c65a43629ae423ea310bfbc16e3f25cd9ef5d1b789789856b7db9c21fe"), looks := true }, kinds := [], alts := [], laidByText := true, laidKinds := [.data, .data, .data, .sentinel, .sentinel], laidTests := true, laidLooks := .later }
def FnUnescapeUndoesEscapingCardSaid : Prop := Claim7.holds Tryd.pinned (.plain (OpenSpec.ofChange fnUnescapeUndoesEscapingSpec)) fnUnescapeUndoesEscapingCard

/-- THE TIED CARD OF 'zzlaws_hosting_b1.FnUnescapeSplitsAtSafeCuts'. -/
def fnUnescapeSplitsAtSafeCutsCard : Claim7 := { stood := { row := fnUnescapeSplitsAtSafeCutsRow, standIns := [], harness := (true, "21e5c9c65a43629ae423ea310bfbc16e3f25cd9ef5d1b789789856b7db9c21fe"), looks := true }, kinds := [], alts := [], laidByText := true, laidKinds := [.data, .data, .data, .sentinel, .sentinel], laidTests := true, laidLooks := .later }
def FnUnescapeSplitsAtSafeCutsCardSaid : Prop := Claim7.holds Tryd.pinned (.plain (OpenSpec.ofChange fnUnescapeSplitsAtSafeCutsSpec)) fnUnescapeSplitsAtSafeCutsCard

/-- THE TIED CARD OF 'zzlaws_hosting_b1.FnUnescapeShrinksByThrees'. -/
def fnUnescapeShrinksByThreesCard : Claim7 := { stood := { row := fnUnescapeShrinksByThreesRow, standIns := [], harness := (true, "21e5c9c65a43629ae423ea310bfbc16e3f25cd9ef5d1b789789856b7db9c21fe"), looks := true }, kinds := [], alts := [], laidByText := true, laidKinds := [.data, .data, .data, .sentinel, .sentinel], laidTests := true, laidLooks := .later }
def FnUnescapeShrinksByThreesCardSaid : Prop := Claim7.holds Tryd.pinned (.plain (OpenSpec.ofChange fnUnescapeShrinksByThreesSpec)) fnUnescapeShrinksByThreesCard

/-- THE TIED CARD OF 'zzlaws_hosting_b1.FnParseMountsLineByLine'. -/
def fnParseMountsLineByLineCard : Claim7 := { stood := { row := fnParseMountsLineByLineRow, standIns := [], harness := (true, "21e5c9c65a43629ae423ea310bfbc16e3f25cd9ef5d1b789789856b7db9c21fe"), looks := true }, kinds := [], alts := [], laidByText := true, laidKinds := [.data, .data, .data, .data, .sentinel, .sentinel, .listed, .data, .pinned], laidTests := true, laidLooks := .later }
def FnParseMountsLineByLineCardSaid : Prop := Claim7.holds Tryd.pinned (.plain (OpenSpec.ofChange fnParseMountsLineByLineSpec)) fnParseMountsLineByLineCard

/-- THE TIED CARD OF 'zzlaws_hosting_b1.FnParseMountsReadsKernelLines'. -/
def fnParseMountsReadsKernelLinesCard : Claim7 := { stood := { row := fnParseMountsReadsKernelLinesRow, standIns := [], harness := (true, "21e5c9c65a43629ae423ea310bfbc16e3f25cd9ef5d1b789789856b7db9c21fe"), looks := true }, kinds := [], alts := [], laidByText := true, laidKinds := [.data, .data, .data, .data, .sentinel, .sentinel, .listed, .data, .pinned], laidTests := true, laidLooks := .later }
def FnParseMountsReadsKernelLinesCardSaid : Prop := Claim7.holds Tryd.pinned (.plain (OpenSpec.ofChange fnParseMountsReadsKernelLinesSpec)) fnParseMountsReadsKernelLinesCard
end Rows
end Go.Proofs.Qxb6601271aDoor
