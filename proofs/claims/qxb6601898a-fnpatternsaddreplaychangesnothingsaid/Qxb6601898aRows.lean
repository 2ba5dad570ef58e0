/-
  No cell of these rows narrows 'for every input' (looked for: loops, veiled, ifaces, maps, wideKeys, modest, calm, conditions, laid).
  DERIVED. THE GIVEN ROWS OF THIS SEAT. 4 by the template 'for every input the law returns true; each argument reads behind the call as it read before'; 0 by the template 'total and deterministic' (their statements: Qxb6601898aTotals.lean).
  GIVEN WITH THE SEED: the statements are not yours to turn. If you find one false, say at which input.
  Laid BY PROGRAM, IN A SANDBOX (cutbox-rows.mjs): the forced cells as the released guide's own fill.sh prints them over the translation c699ef4862f01bb6… (all of the seat's roots in one cut). By AI agents, Wed Nov 11 2026. No macro, syntax, notation, axiom, sorry.
-/
import Derived.Test.Qxb6601898aChecked
import GoSem.Claim
import GoSem.ClaimJoined
import GoSem.ClaimMapViews
import Derived.JoinedTies
import Derived.KernelRfl
namespace Go.Proofs.Qxb6601898a
/- THE CELL 'sum', in the pinned program and in every row, IS THE sha256 OF THE DUMP (.gsa) THAT Qxb6601898aProg.lean LOADS. Nothing in Lean hashes anything: it is a label: what it is worth is what the hold of that sum in a sandbox is worth. -/
noncomputable def Try.pinned : Pinned := { name := "qxb6601898a", sum := "c699ef4862f01bb6d48ca6c6e0ecf6d3133eb446c540c4c5283c99ce7e746f25", checked := Try.checked }
namespace Rows
def none {H : Type} : Left H := { results := [], args := [] }

/-- 'zzlaws_pkg_multimatch_b1.FnEdgeAgreesWithLowerBound': WHATEVER THE INPUT: true; the input reads as it did. -/
def fnEdgeAgreesWithLowerBoundSpec : ChangeSpec := { name := "fnEdgeAgreesWithLowerBound", fn := fun _ => fun
  | [d1, d2, d3, d4, d5] => { results := [.lit (.bool true)], args := [d1, d2, d3, d4, d5] }
  | _ => none }
def fnEdgeAgreesWithLowerBoundRow : OpenClaim := { program := "qxb6601898a", sum := "c699ef4862f01bb6d48ca6c6e0ecf6d3133eb446c540c4c5283c99ce7e746f25", func := "example.com/neat-erasure/neat-erasure/zzlaws_pkg_multimatch_b1.FnEdgeAgreesWithLowerBound", spec := "fnEdgeAgreesWithLowerBound", apart := false }
def FnEdgeAgreesWithLowerBoundSaid : Prop := fnEdgeAgreesWithLowerBoundRow.holds Try.pinned (OpenSpec.ofChange fnEdgeAgreesWithLowerBoundSpec)

/-- ITS FALSE NEIGHBOUR: 'it returns false'. Refute it at one input. -/
def fnEdgeAgreesWithLowerBoundWrong : ChangeSpec := { name := "fnEdgeAgreesWithLowerBound", fn := fun _ => fun
  | [d1, d2, d3, d4, d5] => { results := [.lit (.bool false)], args := [d1, d2, d3, d4, d5] }
  | _ => none }
def FnEdgeAgreesWithLowerBoundWrongFalsely : Prop := fnEdgeAgreesWithLowerBoundRow.holds Try.pinned (OpenSpec.ofChange fnEdgeAgreesWithLowerBoundWrong)

/-- 'zzlaws_pkg_multimatch_b1.FnEdgeWholeRowAgreesWithTable': WHATEVER THE INPUT: true; the input reads as it did. -/
def fnEdgeWholeRowAgreesWithTableSpec : ChangeSpec := { name := "fnEdgeWholeRowAgreesWithTable", fn := fun _ => fun
  | [d1, d2, d3, d4] => { results := [.lit (.bool true)], args := [d1, d2, d3, d4] }
  | _ => none }
def fnEdgeWholeRowAgreesWithTableRow : OpenClaim := { program := "qxb6601898a", sum := "c699ef4862f01bb6d48ca6c6e0ecf6d3133eb446c540c4c5283c99ce7e746f25", func := "example.com/neat-erasure/neat-erasure/zzlaws_pkg_multimatch_b1.FnEdgeWholeRowAgreesWithTable", spec := "fnEdgeWholeRowAgreesWithTable", apart := false }
def FnEdgeWholeRowAgreesWithTableSaid : Prop := fnEdgeWholeRowAgreesWithTableRow.holds Try.pinned (OpenSpec.ofChange fnEdgeWholeRowAgreesWithTableSpec)

/-- ITS FALSE NEIGHBOUR: 'it returns false'. Refute it at one input. -/
def fnEdgeWholeRowAgreesWithTableWrong : ChangeSpec := { name := "fnEdgeWholeRowAgreesWithTable", fn := fun _ => fun
  | [d1, d2, d3, d4] => { results := [.lit (.bool false)], args := [d1, d2, d3, d4] }
  | _ => none }
def FnEdgeWholeRowAgreesWithTableWrongFalsely : Prop := fnEdgeWholeRowAgreesWithTableRow.holds Try.pinned (OpenSpec.ofChange fnEdgeWholeRowAgreesWithTableWrong)

/-- 'zzlaws_pkg_multimatch_b1.FnPatternsAddScriptMatchesModel': WHATEVER THE INPUT: true; the input reads as it did. -/
def fnPatternsAddScriptMatchesModelSpec : ChangeSpec := { name := "fnPatternsAddScriptMatchesModel", fn := fun _ => fun
  | [d1, d2, d3] => { results := [.lit (.bool true)], args := [d1, d2, d3] }
  | _ => none }
def fnPatternsAddScriptMatchesModelRow : OpenClaim := { program := "qxb6601898a", sum := "c699ef4862f01bb6d48ca6c6e0ecf6d3133eb446c540c4c5283c99ce7e746f25", func := "example.com/neat-erasure/neat-erasure/zzlaws_pkg_multimatch_b1.FnPatternsAddScriptMatchesModel", spec := "fnPatternsAddScriptMatchesModel", apart := false }
def FnPatternsAddScriptMatchesModelSaid : Prop := fnPatternsAddScriptMatchesModelRow.holds Try.pinned (OpenSpec.ofChange fnPatternsAddScriptMatchesModelSpec)

/-- ITS FALSE NEIGHBOUR: 'it returns false'. Refute it at one input. -/
def fnPatternsAddScriptMatchesModelWrong : ChangeSpec := { name := "fnPatternsAddScriptMatchesModel", fn := fun _ => fun
  | [d1, d2, d3] => { results := [.lit (.bool false)], args := [d1, d2, d3] }
  | _ => none }
def FnPatternsAddScriptMatchesModelWrongFalsely : Prop := fnPatternsAddScriptMatchesModelRow.holds Try.pinned (OpenSpec.ofChange fnPatternsAddScriptMatchesModelWrong)

/-- 'zzlaws_pkg_multimatch_b1.FnPatternsAddReplayChangesNothing': WHATEVER THE INPUT: true; the input reads as it did. -/
def fnPatternsAddReplayChangesNothingSpec : ChangeSpec := { name := "fnPatternsAddReplayChangesNothing", fn := fun _ => fun
  | [d1, d2, d3] => { results := [.lit (.bool true)], args := [d1, d2, d3] }
  | _ => none }
def fnPatternsAddReplayChangesNothingRow : OpenClaim := { program := "qxb6601898a", sum := "c699ef4862f01bb6d48ca6c6e0ecf6d3133eb446c540c4c5283c99ce7e746f25", func := "example.com/neat-erasure/neat-erasure/zzlaws_pkg_multimatch_b1.FnPatternsAddReplayChangesNothing", spec := "fnPatternsAddReplayChangesNothing", apart := false }
def FnPatternsAddReplayChangesNothingSaid : Prop := fnPatternsAddReplayChangesNothingRow.holds Try.pinned (OpenSpec.ofChange fnPatternsAddReplayChangesNothingSpec)

/-- ITS FALSE NEIGHBOUR: 'it returns false'. Refute it at one input. -/
def fnPatternsAddReplayChangesNothingWrong : ChangeSpec := { name := "fnPatternsAddReplayChangesNothing", fn := fun _ => fun
  | [d1, d2, d3] => { results := [.lit (.bool false)], args := [d1, d2, d3] }
  | _ => none }
def FnPatternsAddReplayChangesNothingWrongFalsely : Prop := fnPatternsAddReplayChangesNothingRow.holds Try.pinned (OpenSpec.ofChange fnPatternsAddReplayChangesNothingWrong)

end Rows
end Go.Proofs.Qxb6601898a
