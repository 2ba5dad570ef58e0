/-
  No cell of these rows narrows 'for every input' (looked for: loops, veiled, ifaces, maps, wideKeys, modest, calm, conditions, laid).
  DERIVED. THE GIVEN ROWS OF THIS SEAT. 2 by the template 'for every input the law returns true; each argument reads behind the call as it read before'; 0 by the template 'total and deterministic' (their statements: Qxb6601932aTotals.lean).
  GIVEN WITH THE SEED: the statements are not yours to turn. If you find one false, say at which input.
  Laid BY PROGRAM, IN A SANDBOX (cutbox-rows.mjs): the forced cells as the released guide's own fill.sh prints them over the translation 6dc7048e8d2d367c… (all of the seat's roots in one cut). By AI agents, Wed Nov 11 2026. No macro, syntax, notation, axiom, sorry.
-/
import Derived.Test.Qxb6601932aChecked
import GoSem.Claim
import GoSem.ClaimJoined
import GoSem.ClaimMapViews
import Derived.JoinedTies
import Derived.KernelRfl
namespace Go.Proofs.Qxb6601932a
/- THE CELL 'sum', in the pinned program and in every row, IS THE sha256 OF THE DUMP (.gsa) THAT Qxb6601932aProg.lean LOADS. Nothing in Lean hashes anything: it is a label: what it is worth is what the hold of that sum in a sandbox is worth. -/
noncomputable def Try.pinned : Pinned := { name := "qxb6601932a", sum := "6dc7048e8d2d367c405062f23ce5088198d04c9d9643f03a9312e039341d55b7", checked := Try.checked }
namespace Rows
def none {H : Type} : Left H := { results := [], args := [] }

/-- 'zzlaws_pkg_positions_b1.FnHeldAddAgreesWithFirstAppearanceModel': WHATEVER THE INPUT: true; the input reads as it did. -/
def fnHeldAddAgreesWithFirstAppearanceModelSpec : ChangeSpec := { name := "fnHeldAddAgreesWithFirstAppearanceModel", fn := fun _ => fun
  | [d] => { results := [.lit (.bool true)], args := [d] }
  | _ => none }
def fnHeldAddAgreesWithFirstAppearanceModelRow : OpenClaim := { program := "qxb6601932a", sum := "6dc7048e8d2d367c405062f23ce5088198d04c9d9643f03a9312e039341d55b7", func := "example.com/tuoguan/tuoguan/zzlaws_pkg_positions_b1.FnHeldAddAgreesWithFirstAppearanceModel", spec := "fnHeldAddAgreesWithFirstAppearanceModel", plainKeys := false, apart := false }
def FnHeldAddAgreesWithFirstAppearanceModelSaid : Prop := fnHeldAddAgreesWithFirstAppearanceModelRow.holds Try.pinned (OpenSpec.ofChange fnHeldAddAgreesWithFirstAppearanceModelSpec)

/-- ITS FALSE NEIGHBOUR: 'it returns false'. Refute it at one input. -/
def fnHeldAddAgreesWithFirstAppearanceModelWrong : ChangeSpec := { name := "fnHeldAddAgreesWithFirstAppearanceModel", fn := fun _ => fun
  | [d] => { results := [.lit (.bool false)], args := [d] }
  | _ => none }
def FnHeldAddAgreesWithFirstAppearanceModelWrongFalsely : Prop := fnHeldAddAgreesWithFirstAppearanceModelRow.holds Try.pinned (OpenSpec.ofChange fnHeldAddAgreesWithFirstAppearanceModelWrong)

/-- 'zzlaws_pkg_positions_b1.FnHeldAddKeepsCountsAndBitsetBound': WHATEVER THE INPUT: true; the input reads as it did. -/
def fnHeldAddKeepsCountsAndBitsetBoundSpec : ChangeSpec := { name := "fnHeldAddKeepsCountsAndBitsetBound", fn := fun _ => fun
  | [d] => { results := [.lit (.bool true)], args := [d] }
  | _ => none }
def fnHeldAddKeepsCountsAndBitsetBoundRow : OpenClaim := { program := "qxb6601932a", sum := "6dc7048e8d2d367c405062f23ce5088198d04c9d9643f03a9312e039341d55b7", func := "example.com/tuoguan/tuoguan/zzlaws_pkg_positions_b1.FnHeldAddKeepsCountsAndBitsetBound", spec := "fnHeldAddKeepsCountsAndBitsetBound", plainKeys := false, apart := false }
def FnHeldAddKeepsCountsAndBitsetBoundSaid : Prop := fnHeldAddKeepsCountsAndBitsetBoundRow.holds Try.pinned (OpenSpec.ofChange fnHeldAddKeepsCountsAndBitsetBoundSpec)

/-- ITS FALSE NEIGHBOUR: 'it returns false'. Refute it at one input. -/
def fnHeldAddKeepsCountsAndBitsetBoundWrong : ChangeSpec := { name := "fnHeldAddKeepsCountsAndBitsetBound", fn := fun _ => fun
  | [d] => { results := [.lit (.bool false)], args := [d] }
  | _ => none }
def FnHeldAddKeepsCountsAndBitsetBoundWrongFalsely : Prop := fnHeldAddKeepsCountsAndBitsetBoundRow.holds Try.pinned (OpenSpec.ofChange fnHeldAddKeepsCountsAndBitsetBoundWrong)

end Rows
end Go.Proofs.Qxb6601932a
