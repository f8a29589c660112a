/-
  No cell of these rows narrows 'for every input' (looked for: loops, veiled, ifaces, maps, wideKeys, modest, calm, conditions, laid).
  DERIVED. THE GIVEN ROWS OF THIS SEAT. 5 by the template 'for every input the law returns true; each argument reads behind the call as it read before'; 0 by the template 'total and deterministic' (their statements: Qxb6000456aTotals.lean).
  GIVEN WITH THE SEED: the statements are not yours to turn. If you find one false, say at which input.
  Laid BY PROGRAM, IN A SANDBOX (cutbox-rows.mjs): the forced cells as the released guide's own fill.sh prints them over the translation 1236a38acb7f353b… (all of the seat's roots in one cut). By AI agents, Wed Nov 11 2026. No macro, syntax, notation, axiom, sorry.
-/
import Derived.Test.Qxb6000456aChecked
import GoSem.Claim
import GoSem.ClaimJoined
import GoSem.ClaimMapViews
import Derived.JoinedTies
import Derived.KernelRfl
namespace Go.Proofs.Qxb6000456a
/- THE CELL 'sum', in the pinned program and in every row, IS THE sha256 OF THE DUMP (.gsa) THAT Qxb6000456aProg.lean LOADS. Nothing in Lean hashes anything: it is a label: what it is worth is what the hold of that sum in a sandbox is worth. -/
noncomputable def Try.pinned : Pinned := { name := "qxb6000456a", sum := "1236a38acb7f353b64ebfcea1948e19e7645215852a85e310ab02d7f807734f2", checked := Try.checked }
namespace Rows
def none {H : Type} : Left H := { results := [], args := [] }

/-- 'zzlaws_internal_uritemplate_b1.FnEmitLiteralMatchesExactly': WHATEVER THE INPUT: true; the input reads as it did. -/
def fnEmitLiteralMatchesExactlySpec : ChangeSpec := { name := "fnEmitLiteralMatchesExactly", fn := fun _ => fun
  | [d1, d2] => { results := [.lit (.bool true)], args := [d1, d2] }
  | _ => none }
def fnEmitLiteralMatchesExactlyRow : OpenClaim := { program := "qxb6000456a", sum := "1236a38acb7f353b64ebfcea1948e19e7645215852a85e310ab02d7f807734f2", func := "example.com/interlock/interlock/zzlaws_internal_uritemplate_b1.FnEmitLiteralMatchesExactly", spec := "fnEmitLiteralMatchesExactly", recurses := true, plainKeys := false, apart := false }
def FnEmitLiteralMatchesExactlySaid : Prop := fnEmitLiteralMatchesExactlyRow.holds Try.pinned (OpenSpec.ofChange fnEmitLiteralMatchesExactlySpec)

/-- ITS FALSE NEIGHBOUR: 'it returns false'. Refute it at one input. -/
def fnEmitLiteralMatchesExactlyWrong : ChangeSpec := { name := "fnEmitLiteralMatchesExactly", fn := fun _ => fun
  | [d1, d2] => { results := [.lit (.bool false)], args := [d1, d2] }
  | _ => none }
def FnEmitLiteralMatchesExactlyWrongFalsely : Prop := fnEmitLiteralMatchesExactlyRow.holds Try.pinned (OpenSpec.ofChange fnEmitLiteralMatchesExactlyWrong)

/-- 'zzlaws_internal_uritemplate_b1.FnEmitAltOfThreeLiteralsIsUnion': WHATEVER THE INPUT: true; the input reads as it did. -/
def fnEmitAltOfThreeLiteralsIsUnionSpec : ChangeSpec := { name := "fnEmitAltOfThreeLiteralsIsUnion", fn := fun _ => fun
  | [d1, d2, d3, d4] => { results := [.lit (.bool true)], args := [d1, d2, d3, d4] }
  | _ => none }
def fnEmitAltOfThreeLiteralsIsUnionRow : OpenClaim := { program := "qxb6000456a", sum := "1236a38acb7f353b64ebfcea1948e19e7645215852a85e310ab02d7f807734f2", func := "example.com/interlock/interlock/zzlaws_internal_uritemplate_b1.FnEmitAltOfThreeLiteralsIsUnion", spec := "fnEmitAltOfThreeLiteralsIsUnion", recurses := true, plainKeys := false, apart := false }
def FnEmitAltOfThreeLiteralsIsUnionSaid : Prop := fnEmitAltOfThreeLiteralsIsUnionRow.holds Try.pinned (OpenSpec.ofChange fnEmitAltOfThreeLiteralsIsUnionSpec)

/-- ITS FALSE NEIGHBOUR: 'it returns false'. Refute it at one input. -/
def fnEmitAltOfThreeLiteralsIsUnionWrong : ChangeSpec := { name := "fnEmitAltOfThreeLiteralsIsUnion", fn := fun _ => fun
  | [d1, d2, d3, d4] => { results := [.lit (.bool false)], args := [d1, d2, d3, d4] }
  | _ => none }
def FnEmitAltOfThreeLiteralsIsUnionWrongFalsely : Prop := fnEmitAltOfThreeLiteralsIsUnionRow.holds Try.pinned (OpenSpec.ofChange fnEmitAltOfThreeLiteralsIsUnionWrong)

/-- 'zzlaws_internal_uritemplate_b1.FnEmitRepeatByteClassSpec': WHATEVER THE INPUT: true; the input reads as it did. -/
def fnEmitRepeatByteClassSpecSpec : ChangeSpec := { name := "fnEmitRepeatByteClassSpec", fn := fun _ => fun
  | [d1, d2, d3, d4] => { results := [.lit (.bool true)], args := [d1, d2, d3, d4] }
  | _ => none }
def fnEmitRepeatByteClassSpecRow : OpenClaim := { program := "qxb6000456a", sum := "1236a38acb7f353b64ebfcea1948e19e7645215852a85e310ab02d7f807734f2", func := "example.com/interlock/interlock/zzlaws_internal_uritemplate_b1.FnEmitRepeatByteClassSpec", spec := "fnEmitRepeatByteClassSpec", recurses := true, plainKeys := false, apart := false }
def FnEmitRepeatByteClassSpecSaid : Prop := fnEmitRepeatByteClassSpecRow.holds Try.pinned (OpenSpec.ofChange fnEmitRepeatByteClassSpecSpec)

/-- ITS FALSE NEIGHBOUR: 'it returns false'. Refute it at one input. -/
def fnEmitRepeatByteClassSpecWrong : ChangeSpec := { name := "fnEmitRepeatByteClassSpec", fn := fun _ => fun
  | [d1, d2, d3, d4] => { results := [.lit (.bool false)], args := [d1, d2, d3, d4] }
  | _ => none }
def FnEmitRepeatByteClassSpecWrongFalsely : Prop := fnEmitRepeatByteClassSpecRow.holds Try.pinned (OpenSpec.ofChange fnEmitRepeatByteClassSpecWrong)

/-- 'zzlaws_internal_uritemplate_b1.FnEmitRepeatWordSpec': WHATEVER THE INPUT: true; the input reads as it did. -/
def fnEmitRepeatWordSpecSpec : ChangeSpec := { name := "fnEmitRepeatWordSpec", fn := fun _ => fun
  | [d1, d2, d3, d4] => { results := [.lit (.bool true)], args := [d1, d2, d3, d4] }
  | _ => none }
def fnEmitRepeatWordSpecRow : OpenClaim := { program := "qxb6000456a", sum := "1236a38acb7f353b64ebfcea1948e19e7645215852a85e310ab02d7f807734f2", func := "example.com/interlock/interlock/zzlaws_internal_uritemplate_b1.FnEmitRepeatWordSpec", spec := "fnEmitRepeatWordSpec", recurses := true, plainKeys := false, apart := false }
def FnEmitRepeatWordSpecSaid : Prop := fnEmitRepeatWordSpecRow.holds Try.pinned (OpenSpec.ofChange fnEmitRepeatWordSpecSpec)

/-- ITS FALSE NEIGHBOUR: 'it returns false'. Refute it at one input. -/
def fnEmitRepeatWordSpecWrong : ChangeSpec := { name := "fnEmitRepeatWordSpec", fn := fun _ => fun
  | [d1, d2, d3, d4] => { results := [.lit (.bool false)], args := [d1, d2, d3, d4] }
  | _ => none }
def FnEmitRepeatWordSpecWrongFalsely : Prop := fnEmitRepeatWordSpecRow.holds Try.pinned (OpenSpec.ofChange fnEmitRepeatWordSpecWrong)

/-- 'zzlaws_internal_uritemplate_b1.FnEmitKeepsProgramWellFormed': WHATEVER THE INPUT: true; the input reads as it did. -/
def fnEmitKeepsProgramWellFormedSpec : ChangeSpec := { name := "fnEmitKeepsProgramWellFormed", fn := fun _ => fun
  | [d1, d2, d3] => { results := [.lit (.bool true)], args := [d1, d2, d3] }
  | _ => none }
def fnEmitKeepsProgramWellFormedRow : OpenClaim := { program := "qxb6000456a", sum := "1236a38acb7f353b64ebfcea1948e19e7645215852a85e310ab02d7f807734f2", func := "example.com/interlock/interlock/zzlaws_internal_uritemplate_b1.FnEmitKeepsProgramWellFormed", spec := "fnEmitKeepsProgramWellFormed", recurses := true, plainKeys := false, apart := false }
def FnEmitKeepsProgramWellFormedSaid : Prop := fnEmitKeepsProgramWellFormedRow.holds Try.pinned (OpenSpec.ofChange fnEmitKeepsProgramWellFormedSpec)

/-- ITS FALSE NEIGHBOUR: 'it returns false'. Refute it at one input. -/
def fnEmitKeepsProgramWellFormedWrong : ChangeSpec := { name := "fnEmitKeepsProgramWellFormed", fn := fun _ => fun
  | [d1, d2, d3] => { results := [.lit (.bool false)], args := [d1, d2, d3] }
  | _ => none }
def FnEmitKeepsProgramWellFormedWrongFalsely : Prop := fnEmitKeepsProgramWellFormedRow.holds Try.pinned (OpenSpec.ofChange fnEmitKeepsProgramWellFormedWrong)

end Rows
end Go.Proofs.Qxb6000456a
