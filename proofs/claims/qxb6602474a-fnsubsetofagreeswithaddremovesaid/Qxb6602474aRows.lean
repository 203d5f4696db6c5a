/-
  No cell of these rows narrows 'for every input' (looked for: loops, veiled, ifaces, maps, wideKeys, modest, calm, conditions, laid).
  DERIVED. THE GIVEN ROWS OF THIS SEAT. 2 by the template 'for every input the law returns true; each argument reads behind the call as it read before'; 0 by the template 'total and deterministic' (their statements: Qxb6602474aTotals.lean).
  GIVEN WITH THE SEED: the statements are not yours to turn. If you find one false, say at which input.
  Laid BY PROGRAM, IN A SANDBOX (cutbox-rows.mjs): the forced cells as the released guide's own fill.sh prints them over the translation 2c0981a38941c88e… (all of the seat's roots in one cut). By AI agents, Wed Nov 11 2026. No macro, syntax, notation, axiom, sorry.
-/
import Derived.Test.Qxb6602474aChecked
import GoSem.Claim
import GoSem.ClaimJoined
import GoSem.ClaimMapViews
import Derived.JoinedTies
import Derived.KernelRfl
namespace Go.Proofs.Qxb6602474a
/- THE CELL 'sum', in the pinned program and in every row, IS THE sha256 OF THE DUMP (.gsa) THAT Qxb6602474aProg.lean LOADS. Nothing in Lean hashes anything: it is a label: what it is worth is what the hold of that sum in a sandbox is worth. -/
noncomputable def Try.pinned : Pinned := { name := "qxb6602474a", sum := "2c0981a38941c88efb1f48743157fb87fc6ecd14498dac142bf59730625625ef", checked := Try.checked }
namespace Rows
def none {H : Type} : Left H := { results := [], args := [] }

/-- 'zzlaws_internal_quorum_b1.FnSubsetOfIsPartialOrder': WHATEVER THE INPUT: true; the input reads as it did. -/
def fnSubsetOfIsPartialOrderSpec : ChangeSpec := { name := "fnSubsetOfIsPartialOrder", fn := fun _ => fun
  | [d1, d2, d3] => { results := [.lit (.bool true)], args := [d1, d2, d3] }
  | _ => none }
def fnSubsetOfIsPartialOrderRow : OpenClaim := { program := "qxb6602474a", sum := "2c0981a38941c88efb1f48743157fb87fc6ecd14498dac142bf59730625625ef", func := "votary.example/votary/zzlaws_internal_quorum_b1.FnSubsetOfIsPartialOrder", spec := "fnSubsetOfIsPartialOrder", apart := false }
def FnSubsetOfIsPartialOrderSaid : Prop := fnSubsetOfIsPartialOrderRow.holds Try.pinned (OpenSpec.ofChange fnSubsetOfIsPartialOrderSpec)

/-- ITS FALSE NEIGHBOUR: 'it returns false'. Refute it at one input. -/
def fnSubsetOfIsPartialOrderWrong : ChangeSpec := { name := "fnSubsetOfIsPartialOrder", fn := fun _ => fun
  | [d1, d2, d3] => { results := [.lit (.bool false)], args := [d1, d2, d3] }
  | _ => none }
def FnSubsetOfIsPartialOrderWrongFalsely : Prop := fnSubsetOfIsPartialOrderRow.holds Try.pinned (OpenSpec.ofChange fnSubsetOfIsPartialOrderWrong)

/-- 'zzlaws_internal_quorum_b1.FnSubsetOfAgreesWithAddRemove': WHATEVER THE INPUT: true; the input reads as it did. -/
def fnSubsetOfAgreesWithAddRemoveSpec : ChangeSpec := { name := "fnSubsetOfAgreesWithAddRemove", fn := fun _ => fun
  | [d1, d2, d3] => { results := [.lit (.bool true)], args := [d1, d2, d3] }
  | _ => none }
def fnSubsetOfAgreesWithAddRemoveRow : OpenClaim := { program := "qxb6602474a", sum := "2c0981a38941c88efb1f48743157fb87fc6ecd14498dac142bf59730625625ef", func := "votary.example/votary/zzlaws_internal_quorum_b1.FnSubsetOfAgreesWithAddRemove", spec := "fnSubsetOfAgreesWithAddRemove", apart := false }
def FnSubsetOfAgreesWithAddRemoveSaid : Prop := fnSubsetOfAgreesWithAddRemoveRow.holds Try.pinned (OpenSpec.ofChange fnSubsetOfAgreesWithAddRemoveSpec)

/-- ITS FALSE NEIGHBOUR: 'it returns false'. Refute it at one input. -/
def fnSubsetOfAgreesWithAddRemoveWrong : ChangeSpec := { name := "fnSubsetOfAgreesWithAddRemove", fn := fun _ => fun
  | [d1, d2, d3] => { results := [.lit (.bool false)], args := [d1, d2, d3] }
  | _ => none }
def FnSubsetOfAgreesWithAddRemoveWrongFalsely : Prop := fnSubsetOfAgreesWithAddRemoveRow.holds Try.pinned (OpenSpec.ofChange fnSubsetOfAgreesWithAddRemoveWrong)

end Rows
end Go.Proofs.Qxb6602474a
