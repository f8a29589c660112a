/-
  No cell of these rows narrows 'for every input' (looked for: loops, veiled, ifaces, maps, wideKeys, modest, calm, conditions, laid).
  DERIVED. THE GIVEN ROWS OF THIS SEAT. 6 by the template 'for every input the law returns true; each argument reads behind the call as it read before'; 0 by the template 'total and deterministic' (their statements: Qxb6600238aTotals.lean).
  GIVEN WITH THE SEED: the statements are not yours to turn. If you find one false, say at which input.
  Laid BY PROGRAM, IN A SANDBOX (cutbox-rows.mjs): the forced cells as the released guide's own fill.sh prints them over the translation dc8c0649f607416c… (all of the seat's roots in one cut). By AI agents, Wed Nov 11 2026. No macro, syntax, notation, axiom, sorry.
-/
import Derived.Test.Qxb6600238aChecked
import GoSem.Claim
import GoSem.ClaimJoined
import GoSem.ClaimMapViews
import Derived.JoinedTies
import Derived.KernelRfl
namespace Go.Proofs.Qxb6600238a
/- THE CELL 'sum', in the pinned program and in every row, IS THE sha256 OF THE DUMP (.gsa) THAT Qxb6600238aProg.lean LOADS. Nothing in Lean hashes anything: it is a label: what it is worth is what the hold of that sum in a sandbox is worth. -/
noncomputable def Try.pinned : Pinned := { name := "qxb6600238a", sum := "dc8c0649f607416c9775141cbe85ffd1d8622b92161f11947d851a07f7852b81", checked := Try.checked }
namespace Rows
def none {H : Type} : Left H := { results := [], args := [] }

/-- 'zzlaws_query_b1.FnSkipSpaceMatchesScanner': WHATEVER THE INPUT: true; the input reads as it did. -/
def fnSkipSpaceMatchesScannerSpec : ChangeSpec := { name := "fnSkipSpaceMatchesScanner", fn := fun _ => fun
  | [d1, d2] => { results := [.lit (.bool true)], args := [d1, d2] }
  | _ => none }
def fnSkipSpaceMatchesScannerRow : OpenClaim := { program := "qxb6600238a", sum := "dc8c0649f607416c9775141cbe85ffd1d8622b92161f11947d851a07f7852b81", func := "example.com/stepglass/stepglass/zzlaws_query_b1.FnSkipSpaceMatchesScanner", spec := "fnSkipSpaceMatchesScanner", inPlace := ["internal/bytealg.IndexByteString"], apart := false }
def FnSkipSpaceMatchesScannerSaid : Prop := fnSkipSpaceMatchesScannerRow.holds Try.pinned (OpenSpec.ofChange fnSkipSpaceMatchesScannerSpec)

/-- ITS FALSE NEIGHBOUR: 'it returns false'. Refute it at one input. -/
def fnSkipSpaceMatchesScannerWrong : ChangeSpec := { name := "fnSkipSpaceMatchesScanner", fn := fun _ => fun
  | [d1, d2] => { results := [.lit (.bool false)], args := [d1, d2] }
  | _ => none }
def FnSkipSpaceMatchesScannerWrongFalsely : Prop := fnSkipSpaceMatchesScannerRow.holds Try.pinned (OpenSpec.ofChange fnSkipSpaceMatchesScannerWrong)

/-- 'zzlaws_query_b1.FnSkipSpaceStopsAtToken': WHATEVER THE INPUT: true; the input reads as it did. -/
def fnSkipSpaceStopsAtTokenSpec : ChangeSpec := { name := "fnSkipSpaceStopsAtToken", fn := fun _ => fun
  | [d1, d2, d3] => { results := [.lit (.bool true)], args := [d1, d2, d3] }
  | _ => none }
def fnSkipSpaceStopsAtTokenRow : OpenClaim := { program := "qxb6600238a", sum := "dc8c0649f607416c9775141cbe85ffd1d8622b92161f11947d851a07f7852b81", func := "example.com/stepglass/stepglass/zzlaws_query_b1.FnSkipSpaceStopsAtToken", spec := "fnSkipSpaceStopsAtToken", inPlace := ["internal/bytealg.IndexByteString"], apart := false }
def FnSkipSpaceStopsAtTokenSaid : Prop := fnSkipSpaceStopsAtTokenRow.holds Try.pinned (OpenSpec.ofChange fnSkipSpaceStopsAtTokenSpec)

/-- ITS FALSE NEIGHBOUR: 'it returns false'. Refute it at one input. -/
def fnSkipSpaceStopsAtTokenWrong : ChangeSpec := { name := "fnSkipSpaceStopsAtToken", fn := fun _ => fun
  | [d1, d2, d3] => { results := [.lit (.bool false)], args := [d1, d2, d3] }
  | _ => none }
def FnSkipSpaceStopsAtTokenWrongFalsely : Prop := fnSkipSpaceStopsAtTokenRow.holds Try.pinned (OpenSpec.ofChange fnSkipSpaceStopsAtTokenWrong)

/-- 'zzlaws_query_b1.FnSkipSpaceLooksOnlyAhead': WHATEVER THE INPUT: true; the input reads as it did. -/
def fnSkipSpaceLooksOnlyAheadSpec : ChangeSpec := { name := "fnSkipSpaceLooksOnlyAhead", fn := fun _ => fun
  | [d1, d2, d3] => { results := [.lit (.bool true)], args := [d1, d2, d3] }
  | _ => none }
def fnSkipSpaceLooksOnlyAheadRow : OpenClaim := { program := "qxb6600238a", sum := "dc8c0649f607416c9775141cbe85ffd1d8622b92161f11947d851a07f7852b81", func := "example.com/stepglass/stepglass/zzlaws_query_b1.FnSkipSpaceLooksOnlyAhead", spec := "fnSkipSpaceLooksOnlyAhead", inPlace := ["internal/bytealg.IndexByteString"], apart := false }
def FnSkipSpaceLooksOnlyAheadSaid : Prop := fnSkipSpaceLooksOnlyAheadRow.holds Try.pinned (OpenSpec.ofChange fnSkipSpaceLooksOnlyAheadSpec)

/-- ITS FALSE NEIGHBOUR: 'it returns false'. Refute it at one input. -/
def fnSkipSpaceLooksOnlyAheadWrong : ChangeSpec := { name := "fnSkipSpaceLooksOnlyAhead", fn := fun _ => fun
  | [d1, d2, d3] => { results := [.lit (.bool false)], args := [d1, d2, d3] }
  | _ => none }
def FnSkipSpaceLooksOnlyAheadWrongFalsely : Prop := fnSkipSpaceLooksOnlyAheadRow.holds Try.pinned (OpenSpec.ofChange fnSkipSpaceLooksOnlyAheadWrong)

/-- 'zzlaws_query_b1.FnResultLabelsMatchesModel': WHATEVER THE INPUT: true; the input reads as it did. -/
def fnResultLabelsMatchesModelSpec : ChangeSpec := { name := "fnResultLabelsMatchesModel", fn := fun _ => fun
  | [d1, d2, d3, d4, d5, d6, d7, d8, d9] => { results := [.lit (.bool true)], args := [d1, d2, d3, d4, d5, d6, d7, d8, d9] }
  | _ => none }
def fnResultLabelsMatchesModelRow : OpenClaim := { program := "qxb6600238a", sum := "dc8c0649f607416c9775141cbe85ffd1d8622b92161f11947d851a07f7852b81", func := "example.com/stepglass/stepglass/zzlaws_query_b1.FnResultLabelsMatchesModel", spec := "fnResultLabelsMatchesModel", inPlace := ["internal/bytealg.abigen_runtime_cmpstring"], unfollowed := true, recurses := true, apart := false }
def FnResultLabelsMatchesModelSaid : Prop := fnResultLabelsMatchesModelRow.holds Try.pinned (OpenSpec.ofChange fnResultLabelsMatchesModelSpec)

/-- ITS FALSE NEIGHBOUR: 'it returns false'. Refute it at one input. -/
def fnResultLabelsMatchesModelWrong : ChangeSpec := { name := "fnResultLabelsMatchesModel", fn := fun _ => fun
  | [d1, d2, d3, d4, d5, d6, d7, d8, d9] => { results := [.lit (.bool false)], args := [d1, d2, d3, d4, d5, d6, d7, d8, d9] }
  | _ => none }
def FnResultLabelsMatchesModelWrongFalsely : Prop := fnResultLabelsMatchesModelRow.holds Try.pinned (OpenSpec.ofChange fnResultLabelsMatchesModelWrong)

/-- 'zzlaws_query_b1.FnResultLabelsOrderFree': WHATEVER THE INPUT: true; the input reads as it did. -/
def fnResultLabelsOrderFreeSpec : ChangeSpec := { name := "fnResultLabelsOrderFree", fn := fun _ => fun
  | [d1, d2, d3, d4, d5, d6, d7, d8, d9] => { results := [.lit (.bool true)], args := [d1, d2, d3, d4, d5, d6, d7, d8, d9] }
  | _ => none }
def fnResultLabelsOrderFreeRow : OpenClaim := { program := "qxb6600238a", sum := "dc8c0649f607416c9775141cbe85ffd1d8622b92161f11947d851a07f7852b81", func := "example.com/stepglass/stepglass/zzlaws_query_b1.FnResultLabelsOrderFree", spec := "fnResultLabelsOrderFree", inPlace := ["internal/bytealg.abigen_runtime_cmpstring"], unfollowed := true, recurses := true, apart := false }
def FnResultLabelsOrderFreeSaid : Prop := fnResultLabelsOrderFreeRow.holds Try.pinned (OpenSpec.ofChange fnResultLabelsOrderFreeSpec)

/-- ITS FALSE NEIGHBOUR: 'it returns false'. Refute it at one input. -/
def fnResultLabelsOrderFreeWrong : ChangeSpec := { name := "fnResultLabelsOrderFree", fn := fun _ => fun
  | [d1, d2, d3, d4, d5, d6, d7, d8, d9] => { results := [.lit (.bool false)], args := [d1, d2, d3, d4, d5, d6, d7, d8, d9] }
  | _ => none }
def FnResultLabelsOrderFreeWrongFalsely : Prop := fnResultLabelsOrderFreeRow.holds Try.pinned (OpenSpec.ofChange fnResultLabelsOrderFreeWrong)

/-- 'zzlaws_query_b1.FnResultLabelsDropNameOnlyName': WHATEVER THE INPUT: true; the input reads as it did. -/
def fnResultLabelsDropNameOnlyNameSpec : ChangeSpec := { name := "fnResultLabelsDropNameOnlyName", fn := fun _ => fun
  | [d1, d2, d3, d4, d5, d6, d7, d8] => { results := [.lit (.bool true)], args := [d1, d2, d3, d4, d5, d6, d7, d8] }
  | _ => none }
def fnResultLabelsDropNameOnlyNameRow : OpenClaim := { program := "qxb6600238a", sum := "dc8c0649f607416c9775141cbe85ffd1d8622b92161f11947d851a07f7852b81", func := "example.com/stepglass/stepglass/zzlaws_query_b1.FnResultLabelsDropNameOnlyName", spec := "fnResultLabelsDropNameOnlyName", inPlace := ["internal/bytealg.abigen_runtime_cmpstring"], unfollowed := true, recurses := true, apart := false }
def FnResultLabelsDropNameOnlyNameSaid : Prop := fnResultLabelsDropNameOnlyNameRow.holds Try.pinned (OpenSpec.ofChange fnResultLabelsDropNameOnlyNameSpec)

/-- ITS FALSE NEIGHBOUR: 'it returns false'. Refute it at one input. -/
def fnResultLabelsDropNameOnlyNameWrong : ChangeSpec := { name := "fnResultLabelsDropNameOnlyName", fn := fun _ => fun
  | [d1, d2, d3, d4, d5, d6, d7, d8] => { results := [.lit (.bool false)], args := [d1, d2, d3, d4, d5, d6, d7, d8] }
  | _ => none }
def FnResultLabelsDropNameOnlyNameWrongFalsely : Prop := fnResultLabelsDropNameOnlyNameRow.holds Try.pinned (OpenSpec.ofChange fnResultLabelsDropNameOnlyNameWrong)

end Rows
end Go.Proofs.Qxb6600238a
