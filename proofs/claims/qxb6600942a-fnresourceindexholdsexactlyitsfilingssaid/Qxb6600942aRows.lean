/-
  No cell of these rows narrows 'for every input' (looked for: loops, veiled, ifaces, maps, wideKeys, modest, calm, conditions, laid).
  DERIVED. THE GIVEN ROWS OF THIS SEAT. 4 by the template 'for every input the law returns true; each argument reads behind the call as it read before'; 0 by the template 'total and deterministic' (their statements: Qxb6600942aTotals.lean).
  GIVEN WITH THE SEED: the statements are not yours to turn. If you find one false, say at which input.
  Laid BY PROGRAM, IN A SANDBOX (cutbox-rows.mjs): the forced cells as the released guide's own fill.sh prints them over the translation e9ac40976ac05c82… (all of the seat's roots in one cut). By AI agents, Wed Nov 11 2026. No macro, syntax, notation, axiom, sorry.
-/
import Derived.Test.Qxb6600942aChecked
import GoSem.Claim
import GoSem.ClaimJoined
import GoSem.ClaimMapViews
import Derived.JoinedTies
import Derived.KernelRfl
namespace Go.Proofs.Qxb6600942a
/- THE CELL 'sum', in the pinned program and in every row, IS THE sha256 OF THE DUMP (.gsa) THAT Qxb6600942aProg.lean LOADS. Nothing in Lean hashes anything: it is a label: what it is worth is what the hold of that sum in a sandbox is worth. -/
noncomputable def Try.pinned : Pinned := { name := "qxb6600942a", sum := "e9ac40976ac05c824725535adf721c9fa550d1f9ad075808d25de467d4718279", checked := Try.checked }
namespace Rows
def none {H : Type} : Left H := { results := [], args := [] }

/-- 'zzlaws_root_b1.FnRepeatsNameMatchesSortedModel': WHATEVER THE INPUT: true; the input reads as it did. -/
def fnRepeatsNameMatchesSortedModelSpec : ChangeSpec := { name := "fnRepeatsNameMatchesSortedModel", fn := fun _ => fun
  | [d] => { results := [.lit (.bool true)], args := [d] }
  | _ => none }
def fnRepeatsNameMatchesSortedModelRow : OpenClaim := { program := "qxb6600942a", sum := "e9ac40976ac05c824725535adf721c9fa550d1f9ad075808d25de467d4718279", func := "example.com/principal/principal/zzlaws_root_b1.FnRepeatsNameMatchesSortedModel", spec := "fnRepeatsNameMatchesSortedModel", apart := false }
def FnRepeatsNameMatchesSortedModelSaid : Prop := fnRepeatsNameMatchesSortedModelRow.holds Try.pinned (OpenSpec.ofChange fnRepeatsNameMatchesSortedModelSpec)

/-- ITS FALSE NEIGHBOUR: 'it returns false'. Refute it at one input. -/
def fnRepeatsNameMatchesSortedModelWrong : ChangeSpec := { name := "fnRepeatsNameMatchesSortedModel", fn := fun _ => fun
  | [d] => { results := [.lit (.bool false)], args := [d] }
  | _ => none }
def FnRepeatsNameMatchesSortedModelWrongFalsely : Prop := fnRepeatsNameMatchesSortedModelRow.holds Try.pinned (OpenSpec.ofChange fnRepeatsNameMatchesSortedModelWrong)

/-- 'zzlaws_root_b1.FnRepeatsNameGrowsExactlyByItsNewName': WHATEVER THE INPUT: true; the input reads as it did. -/
def fnRepeatsNameGrowsExactlyByItsNewNameSpec : ChangeSpec := { name := "fnRepeatsNameGrowsExactlyByItsNewName", fn := fun _ => fun
  | [d1, d2] => { results := [.lit (.bool true)], args := [d1, d2] }
  | _ => none }
def fnRepeatsNameGrowsExactlyByItsNewNameRow : OpenClaim := { program := "qxb6600942a", sum := "e9ac40976ac05c824725535adf721c9fa550d1f9ad075808d25de467d4718279", func := "example.com/principal/principal/zzlaws_root_b1.FnRepeatsNameGrowsExactlyByItsNewName", spec := "fnRepeatsNameGrowsExactlyByItsNewName", apart := false }
def FnRepeatsNameGrowsExactlyByItsNewNameSaid : Prop := fnRepeatsNameGrowsExactlyByItsNewNameRow.holds Try.pinned (OpenSpec.ofChange fnRepeatsNameGrowsExactlyByItsNewNameSpec)

/-- ITS FALSE NEIGHBOUR: 'it returns false'. Refute it at one input. -/
def fnRepeatsNameGrowsExactlyByItsNewNameWrong : ChangeSpec := { name := "fnRepeatsNameGrowsExactlyByItsNewName", fn := fun _ => fun
  | [d1, d2] => { results := [.lit (.bool false)], args := [d1, d2] }
  | _ => none }
def FnRepeatsNameGrowsExactlyByItsNewNameWrongFalsely : Prop := fnRepeatsNameGrowsExactlyByItsNewNameRow.holds Try.pinned (OpenSpec.ofChange fnRepeatsNameGrowsExactlyByItsNewNameWrong)

/-- 'zzlaws_root_b1.FnResourceIndexHoldsExactlyItsFilings': WHATEVER THE INPUT: true; the input reads as it did. -/
def fnResourceIndexHoldsExactlyItsFilingsSpec : ChangeSpec := { name := "fnResourceIndexHoldsExactlyItsFilings", fn := fun _ => fun
  | [d] => { results := [.lit (.bool true)], args := [d] }
  | _ => none }
def fnResourceIndexHoldsExactlyItsFilingsRow : OpenClaim := { program := "qxb6600942a", sum := "e9ac40976ac05c824725535adf721c9fa550d1f9ad075808d25de467d4718279", func := "example.com/principal/principal/zzlaws_root_b1.FnResourceIndexHoldsExactlyItsFilings", spec := "fnResourceIndexHoldsExactlyItsFilings", apart := false }
def FnResourceIndexHoldsExactlyItsFilingsSaid : Prop := fnResourceIndexHoldsExactlyItsFilingsRow.holds Try.pinned (OpenSpec.ofChange fnResourceIndexHoldsExactlyItsFilingsSpec)

/-- ITS FALSE NEIGHBOUR: 'it returns false'. Refute it at one input. -/
def fnResourceIndexHoldsExactlyItsFilingsWrong : ChangeSpec := { name := "fnResourceIndexHoldsExactlyItsFilings", fn := fun _ => fun
  | [d] => { results := [.lit (.bool false)], args := [d] }
  | _ => none }
def FnResourceIndexHoldsExactlyItsFilingsWrongFalsely : Prop := fnResourceIndexHoldsExactlyItsFilingsRow.holds Try.pinned (OpenSpec.ofChange fnResourceIndexHoldsExactlyItsFilingsWrong)

/-- 'zzlaws_root_b1.FnResourceIndexLookupAgreesWithScan': WHATEVER THE INPUT: true; the input reads as it did. -/
def fnResourceIndexLookupAgreesWithScanSpec : ChangeSpec := { name := "fnResourceIndexLookupAgreesWithScan", fn := fun _ => fun
  | [d1, d2, d3] => { results := [.lit (.bool true)], args := [d1, d2, d3] }
  | _ => none }
def fnResourceIndexLookupAgreesWithScanRow : OpenClaim := { program := "qxb6600942a", sum := "e9ac40976ac05c824725535adf721c9fa550d1f9ad075808d25de467d4718279", func := "example.com/principal/principal/zzlaws_root_b1.FnResourceIndexLookupAgreesWithScan", spec := "fnResourceIndexLookupAgreesWithScan", apart := false }
def FnResourceIndexLookupAgreesWithScanSaid : Prop := fnResourceIndexLookupAgreesWithScanRow.holds Try.pinned (OpenSpec.ofChange fnResourceIndexLookupAgreesWithScanSpec)

/-- ITS FALSE NEIGHBOUR: 'it returns false'. Refute it at one input. -/
def fnResourceIndexLookupAgreesWithScanWrong : ChangeSpec := { name := "fnResourceIndexLookupAgreesWithScan", fn := fun _ => fun
  | [d1, d2, d3] => { results := [.lit (.bool false)], args := [d1, d2, d3] }
  | _ => none }
def FnResourceIndexLookupAgreesWithScanWrongFalsely : Prop := fnResourceIndexLookupAgreesWithScanRow.holds Try.pinned (OpenSpec.ofChange fnResourceIndexLookupAgreesWithScanWrong)

end Rows
end Go.Proofs.Qxb6600942a
