/-
  No cell of these rows narrows 'for every input' (looked for: loops, veiled, ifaces, maps, wideKeys, modest, calm, conditions, laid).
  DERIVED. THE GIVEN ROWS OF THIS SEAT. 4 by the template 'for every input the law returns true; each argument reads behind the call as it read before'; 0 by the template 'total and deterministic' (their statements: Qxb6600845aTotals.lean).
  GIVEN WITH THE SEED: the statements are not yours to turn. If you find one false, say at which input.
  Laid BY PROGRAM, IN A SANDBOX (cutbox-rows.mjs): the forced cells as the released guide's own fill.sh prints them over the translation 39280dcd4896442f… (all of the seat's roots in one cut). By AI agents, Wed Nov 11 2026. No macro, syntax, notation, axiom, sorry.
-/
import Derived.Test.Qxb6600845aChecked
import GoSem.Claim
import GoSem.ClaimJoined
import GoSem.ClaimMapViews
import Derived.JoinedTies
import Derived.KernelRfl
namespace Go.Proofs.Qxb6600845a
/- THE CELL 'sum', in the pinned program and in every row, IS THE sha256 OF THE DUMP (.gsa) THAT Qxb6600845aProg.lean LOADS. Nothing in Lean hashes anything: it is a label: what it is worth is what the hold of that sum in a sandbox is worth. -/
noncomputable def Try.pinned : Pinned := { name := "qxb6600845a", sum := "39280dcd4896442f8f3e89dabdbc6fe08cfb4d8b1745b16eb415c14fb1781753", checked := Try.checked }
namespace Rows
def none {H : Type} : Left H := { results := [], args := [] }

/-- 'zzlaws_jcs_b1.FnHex4Spec': WHATEVER THE INPUT: true; the input reads as it did. -/
def fnHex4SpecSpec : ChangeSpec := { name := "fnHex4Spec", fn := fun _ => fun
  | [d1, d2] => { results := [.lit (.bool true)], args := [d1, d2] }
  | _ => none }
def fnHex4SpecRow : OpenClaim := { program := "qxb6600845a", sum := "39280dcd4896442f8f3e89dabdbc6fe08cfb4d8b1745b16eb415c14fb1781753", func := "example.com/onceward/onceward/zzlaws_jcs_b1.FnHex4Spec", spec := "fnHex4Spec", apart := false }
def FnHex4SpecSaid : Prop := fnHex4SpecRow.holds Try.pinned (OpenSpec.ofChange fnHex4SpecSpec)

/-- ITS FALSE NEIGHBOUR: 'it returns false'. Refute it at one input. -/
def fnHex4SpecWrong : ChangeSpec := { name := "fnHex4Spec", fn := fun _ => fun
  | [d1, d2] => { results := [.lit (.bool false)], args := [d1, d2] }
  | _ => none }
def FnHex4SpecWrongFalsely : Prop := fnHex4SpecRow.holds Try.pinned (OpenSpec.ofChange fnHex4SpecWrong)

/-- 'zzlaws_jcs_b1.FnHex4ReadsWrittenUnit': WHATEVER THE INPUT: true; the input reads as it did. -/
def fnHex4ReadsWrittenUnitSpec : ChangeSpec := { name := "fnHex4ReadsWrittenUnit", fn := fun _ => fun
  | [d1, d2, d3, d4] => { results := [.lit (.bool true)], args := [d1, d2, d3, d4] }
  | _ => none }
def fnHex4ReadsWrittenUnitRow : OpenClaim := { program := "qxb6600845a", sum := "39280dcd4896442f8f3e89dabdbc6fe08cfb4d8b1745b16eb415c14fb1781753", func := "example.com/onceward/onceward/zzlaws_jcs_b1.FnHex4ReadsWrittenUnit", spec := "fnHex4ReadsWrittenUnit", apart := false }
def FnHex4ReadsWrittenUnitSaid : Prop := fnHex4ReadsWrittenUnitRow.holds Try.pinned (OpenSpec.ofChange fnHex4ReadsWrittenUnitSpec)

/-- ITS FALSE NEIGHBOUR: 'it returns false'. Refute it at one input. -/
def fnHex4ReadsWrittenUnitWrong : ChangeSpec := { name := "fnHex4ReadsWrittenUnit", fn := fun _ => fun
  | [d1, d2, d3, d4] => { results := [.lit (.bool false)], args := [d1, d2, d3, d4] }
  | _ => none }
def FnHex4ReadsWrittenUnitWrongFalsely : Prop := fnHex4ReadsWrittenUnitRow.holds Try.pinned (OpenSpec.ofChange fnHex4ReadsWrittenUnitWrong)

/-- 'zzlaws_jcs_b1.FnSkipSpaceSpec': WHATEVER THE INPUT: true; the input reads as it did. -/
def fnSkipSpaceSpecSpec : ChangeSpec := { name := "fnSkipSpaceSpec", fn := fun _ => fun
  | [d1, d2] => { results := [.lit (.bool true)], args := [d1, d2] }
  | _ => none }
def fnSkipSpaceSpecRow : OpenClaim := { program := "qxb6600845a", sum := "39280dcd4896442f8f3e89dabdbc6fe08cfb4d8b1745b16eb415c14fb1781753", func := "example.com/onceward/onceward/zzlaws_jcs_b1.FnSkipSpaceSpec", spec := "fnSkipSpaceSpec", apart := false }
def FnSkipSpaceSpecSaid : Prop := fnSkipSpaceSpecRow.holds Try.pinned (OpenSpec.ofChange fnSkipSpaceSpecSpec)

/-- ITS FALSE NEIGHBOUR: 'it returns false'. Refute it at one input. -/
def fnSkipSpaceSpecWrong : ChangeSpec := { name := "fnSkipSpaceSpec", fn := fun _ => fun
  | [d1, d2] => { results := [.lit (.bool false)], args := [d1, d2] }
  | _ => none }
def FnSkipSpaceSpecWrongFalsely : Prop := fnSkipSpaceSpecRow.holds Try.pinned (OpenSpec.ofChange fnSkipSpaceSpecWrong)

/-- 'zzlaws_jcs_b1.FnSkipSpaceCrossesBuiltRun': WHATEVER THE INPUT: true; the input reads as it did. -/
def fnSkipSpaceCrossesBuiltRunSpec : ChangeSpec := { name := "fnSkipSpaceCrossesBuiltRun", fn := fun _ => fun
  | [d1, d2, d3] => { results := [.lit (.bool true)], args := [d1, d2, d3] }
  | _ => none }
def fnSkipSpaceCrossesBuiltRunRow : OpenClaim := { program := "qxb6600845a", sum := "39280dcd4896442f8f3e89dabdbc6fe08cfb4d8b1745b16eb415c14fb1781753", func := "example.com/onceward/onceward/zzlaws_jcs_b1.FnSkipSpaceCrossesBuiltRun", spec := "fnSkipSpaceCrossesBuiltRun", apart := false }
def FnSkipSpaceCrossesBuiltRunSaid : Prop := fnSkipSpaceCrossesBuiltRunRow.holds Try.pinned (OpenSpec.ofChange fnSkipSpaceCrossesBuiltRunSpec)

/-- ITS FALSE NEIGHBOUR: 'it returns false'. Refute it at one input. -/
def fnSkipSpaceCrossesBuiltRunWrong : ChangeSpec := { name := "fnSkipSpaceCrossesBuiltRun", fn := fun _ => fun
  | [d1, d2, d3] => { results := [.lit (.bool false)], args := [d1, d2, d3] }
  | _ => none }
def FnSkipSpaceCrossesBuiltRunWrongFalsely : Prop := fnSkipSpaceCrossesBuiltRunRow.holds Try.pinned (OpenSpec.ofChange fnSkipSpaceCrossesBuiltRunWrong)

end Rows
end Go.Proofs.Qxb6600845a
