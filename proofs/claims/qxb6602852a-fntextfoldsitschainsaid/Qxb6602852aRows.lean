/-
  No cell of these rows narrows 'for every input' (looked for: loops, veiled, ifaces, maps, wideKeys, modest, calm, conditions, laid).
  DERIVED. THE GIVEN ROWS OF THIS SEAT. 3 by the template 'for every input the law returns true; each argument reads behind the call as it read before'; 0 by the template 'total and deterministic' (their statements: Qxb6602852aTotals.lean).
  GIVEN WITH THE SEED: the statements are not yours to turn. If you find one false, say at which input.
  Laid BY PROGRAM, IN A SANDBOX (cutbox-rows.mjs): the forced cells as the released guide's own fill.sh prints them over the translation a4d0199980d41fe4… (all of the seat's roots in one cut). By AI agents, Wed Nov 11 2026. No macro, syntax, notation, axiom, sorry.
-/
import Derived.Test.Qxb6602852aChecked
import GoSem.Claim
import GoSem.ClaimJoined
import GoSem.ClaimMapViews
import Derived.JoinedTies
import Derived.KernelRfl
namespace Go.Proofs.Qxb6602852a
/- THE CELL 'sum', in the pinned program and in every row, IS THE sha256 OF THE DUMP (.gsa) THAT Qxb6602852aProg.lean LOADS. Nothing in Lean hashes anything: it is a label: what it is worth is what the hold of that sum in a sandbox is worth. -/
noncomputable def Try.pinned : Pinned := { name := "qxb6602852a", sum := "a4d0199980d41fe41ca3e4f3e6a0df3efb16b07c45e5d29ed8e88381905a7173", checked := Try.checked }
namespace Rows
def none {H : Type} : Left H := { results := [], args := [] }

/-- 'zzlaws_internal_finding_b1.FnTextFoldsItsChain': WHATEVER THE INPUT: true; the input reads as it did. -/
def fnTextFoldsItsChainSpec : ChangeSpec := { name := "fnTextFoldsItsChain", fn := fun _ => fun
  | [d1, d2, d3, d4, d5, d6, d7, d8, d9] => { results := [.lit (.bool true)], args := [d1, d2, d3, d4, d5, d6, d7, d8, d9] }
  | _ => none }
def fnTextFoldsItsChainRow : OpenClaim := { program := "qxb6602852a", sum := "a4d0199980d41fe41ca3e4f3e6a0df3efb16b07c45e5d29ed8e88381905a7173", func := "example.com/reviewlore/reviewlore/zzlaws_internal_finding_b1.FnTextFoldsItsChain", spec := "fnTextFoldsItsChain", unfollowed := true, recurses := true, apart := false }
def FnTextFoldsItsChainSaid : Prop := fnTextFoldsItsChainRow.holds Try.pinned (OpenSpec.ofChange fnTextFoldsItsChainSpec)

/-- ITS FALSE NEIGHBOUR: 'it returns false'. Refute it at one input. -/
def fnTextFoldsItsChainWrong : ChangeSpec := { name := "fnTextFoldsItsChain", fn := fun _ => fun
  | [d1, d2, d3, d4, d5, d6, d7, d8, d9] => { results := [.lit (.bool false)], args := [d1, d2, d3, d4, d5, d6, d7, d8, d9] }
  | _ => none }
def FnTextFoldsItsChainWrongFalsely : Prop := fnTextFoldsItsChainRow.holds Try.pinned (OpenSpec.ofChange fnTextFoldsItsChainWrong)

/-- 'zzlaws_internal_finding_b1.FnResolveMatchesRFCTable': WHATEVER THE INPUT: true; the input reads as it did. -/
def fnResolveMatchesRFCTableSpec : ChangeSpec := { name := "fnResolveMatchesRFCTable", fn := fun _ => fun
  | [d1, d2, d3, d4, d5, d6, d7, d8] => { results := [.lit (.bool true)], args := [d1, d2, d3, d4, d5, d6, d7, d8] }
  | _ => none }
def fnResolveMatchesRFCTableRow : OpenClaim := { program := "qxb6602852a", sum := "a4d0199980d41fe41ca3e4f3e6a0df3efb16b07c45e5d29ed8e88381905a7173", func := "example.com/reviewlore/reviewlore/zzlaws_internal_finding_b1.FnResolveMatchesRFCTable", spec := "fnResolveMatchesRFCTable", inPlace := ["internal/bytealg.IndexByteString", "internal/bytealg.IndexString"], named := ["internal/bytealg.MaxLen"], apart := false }
def FnResolveMatchesRFCTableSaid : Prop := fnResolveMatchesRFCTableRow.holds Try.pinned (OpenSpec.ofChange fnResolveMatchesRFCTableSpec)

/-- ITS FALSE NEIGHBOUR: 'it returns false'. Refute it at one input. -/
def fnResolveMatchesRFCTableWrong : ChangeSpec := { name := "fnResolveMatchesRFCTable", fn := fun _ => fun
  | [d1, d2, d3, d4, d5, d6, d7, d8] => { results := [.lit (.bool false)], args := [d1, d2, d3, d4, d5, d6, d7, d8] }
  | _ => none }
def FnResolveMatchesRFCTableWrongFalsely : Prop := fnResolveMatchesRFCTableRow.holds Try.pinned (OpenSpec.ofChange fnResolveMatchesRFCTableWrong)

/-- 'zzlaws_internal_finding_b1.FnResolveWritesAsRFCJoin': WHATEVER THE INPUT: true; the input reads as it did. -/
def fnResolveWritesAsRFCJoinSpec : ChangeSpec := { name := "fnResolveWritesAsRFCJoin", fn := fun _ => fun
  | [d1, d2, d3, d4, d5, d6, d7, d8] => { results := [.lit (.bool true)], args := [d1, d2, d3, d4, d5, d6, d7, d8] }
  | _ => none }
def fnResolveWritesAsRFCJoinRow : OpenClaim := { program := "qxb6602852a", sum := "a4d0199980d41fe41ca3e4f3e6a0df3efb16b07c45e5d29ed8e88381905a7173", func := "example.com/reviewlore/reviewlore/zzlaws_internal_finding_b1.FnResolveWritesAsRFCJoin", spec := "fnResolveWritesAsRFCJoin", inPlace := ["internal/bytealg.IndexByteString", "internal/bytealg.IndexString"], unfollowed := true, recurses := true, named := ["internal/bytealg.MaxLen"], apart := false }
def FnResolveWritesAsRFCJoinSaid : Prop := fnResolveWritesAsRFCJoinRow.holds Try.pinned (OpenSpec.ofChange fnResolveWritesAsRFCJoinSpec)

/-- ITS FALSE NEIGHBOUR: 'it returns false'. Refute it at one input. -/
def fnResolveWritesAsRFCJoinWrong : ChangeSpec := { name := "fnResolveWritesAsRFCJoin", fn := fun _ => fun
  | [d1, d2, d3, d4, d5, d6, d7, d8] => { results := [.lit (.bool false)], args := [d1, d2, d3, d4, d5, d6, d7, d8] }
  | _ => none }
def FnResolveWritesAsRFCJoinWrongFalsely : Prop := fnResolveWritesAsRFCJoinRow.holds Try.pinned (OpenSpec.ofChange fnResolveWritesAsRFCJoinWrong)

end Rows
end Go.Proofs.Qxb6602852a
