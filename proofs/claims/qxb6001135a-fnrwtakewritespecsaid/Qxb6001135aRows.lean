/-
  No cell of these rows narrows 'for every input' (looked for: loops, veiled, ifaces, maps, wideKeys, modest, calm, conditions, laid).
  DERIVED. THE GIVEN ROWS OF THIS SEAT. 3 by the template 'for every input the law returns true; each argument reads behind the call as it read before'; 0 by the template 'total and deterministic' (their statements: Qxb6001135aTotals.lean).
  GIVEN WITH THE SEED: the statements are not yours to turn. If you find one false, say at which input.
  Laid BY PROGRAM, IN A SANDBOX (cutbox-rows.mjs): the forced cells as the released guide's own fill.sh prints them over the translation 5d3f5be5494d74dd… (all of the seat's roots in one cut). By AI agents, Wed Nov 11 2026. No macro, syntax, notation, axiom, sorry.
-/
import Derived.Test.Qxb6001135aChecked
import GoSem.Claim
import GoSem.ClaimJoined
import GoSem.ClaimMapViews
import Derived.JoinedTies
import Derived.KernelRfl
namespace Go.Proofs.Qxb6001135a
/- THE CELL 'sum', in the pinned program and in every row, IS THE sha256 OF THE DUMP (.gsa) THAT Qxb6001135aProg.lean LOADS. Nothing in Lean hashes anything: it is a label: what it is worth is what the hold of that sum in a sandbox is worth. -/
noncomputable def Try.pinned : Pinned := { name := "qxb6001135a", sum := "5d3f5be5494d74dde5ee50833a867876561b8e5d6e8793c009eb0c6be5fc3586", checked := Try.checked }
namespace Rows
def none {H : Type} : Left H := { results := [], args := [] }

/-- 'zzlaws_root_b1.FnRwTakeWriteSpec': WHATEVER THE INPUT: true; the input reads as it did. -/
def fnRwTakeWriteSpecSpec : ChangeSpec := { name := "fnRwTakeWriteSpec", fn := fun _ => fun
  | [d] => { results := [.lit (.bool true)], args := [d] }
  | _ => none }
def fnRwTakeWriteSpecRow : OpenClaim := { program := "qxb6001135a", sum := "5d3f5be5494d74dde5ee50833a867876561b8e5d6e8793c009eb0c6be5fc3586", func := "example.com/sudok/sudok/zzlaws_root_b1.FnRwTakeWriteSpec", spec := "fnRwTakeWriteSpec", apart := false }
def FnRwTakeWriteSpecSaid : Prop := fnRwTakeWriteSpecRow.holds Try.pinned (OpenSpec.ofChange fnRwTakeWriteSpecSpec)

/-- ITS FALSE NEIGHBOUR: 'it returns false'. Refute it at one input. -/
def fnRwTakeWriteSpecWrong : ChangeSpec := { name := "fnRwTakeWriteSpec", fn := fun _ => fun
  | [d] => { results := [.lit (.bool false)], args := [d] }
  | _ => none }
def FnRwTakeWriteSpecWrongFalsely : Prop := fnRwTakeWriteSpecRow.holds Try.pinned (OpenSpec.ofChange fnRwTakeWriteSpecWrong)

/-- 'zzlaws_root_b1.FnRwTakeReadSpec': WHATEVER THE INPUT: true; the input reads as it did. -/
def fnRwTakeReadSpecSpec : ChangeSpec := { name := "fnRwTakeReadSpec", fn := fun _ => fun
  | [d] => { results := [.lit (.bool true)], args := [d] }
  | _ => none }
def fnRwTakeReadSpecRow : OpenClaim := { program := "qxb6001135a", sum := "5d3f5be5494d74dde5ee50833a867876561b8e5d6e8793c009eb0c6be5fc3586", func := "example.com/sudok/sudok/zzlaws_root_b1.FnRwTakeReadSpec", spec := "fnRwTakeReadSpec", apart := false }
def FnRwTakeReadSpecSaid : Prop := fnRwTakeReadSpecRow.holds Try.pinned (OpenSpec.ofChange fnRwTakeReadSpecSpec)

/-- ITS FALSE NEIGHBOUR: 'it returns false'. Refute it at one input. -/
def fnRwTakeReadSpecWrong : ChangeSpec := { name := "fnRwTakeReadSpec", fn := fun _ => fun
  | [d] => { results := [.lit (.bool false)], args := [d] }
  | _ => none }
def FnRwTakeReadSpecWrongFalsely : Prop := fnRwTakeReadSpecRow.holds Try.pinned (OpenSpec.ofChange fnRwTakeReadSpecWrong)

/-- 'zzlaws_root_b1.FnRwTakeExclusion': WHATEVER THE INPUT: true; the input reads as it did. -/
def fnRwTakeExclusionSpec : ChangeSpec := { name := "fnRwTakeExclusion", fn := fun _ => fun
  | [d1, d2, d3] => { results := [.lit (.bool true)], args := [d1, d2, d3] }
  | _ => none }
def fnRwTakeExclusionRow : OpenClaim := { program := "qxb6001135a", sum := "5d3f5be5494d74dde5ee50833a867876561b8e5d6e8793c009eb0c6be5fc3586", func := "example.com/sudok/sudok/zzlaws_root_b1.FnRwTakeExclusion", spec := "fnRwTakeExclusion", apart := false }
def FnRwTakeExclusionSaid : Prop := fnRwTakeExclusionRow.holds Try.pinned (OpenSpec.ofChange fnRwTakeExclusionSpec)

/-- ITS FALSE NEIGHBOUR: 'it returns false'. Refute it at one input. -/
def fnRwTakeExclusionWrong : ChangeSpec := { name := "fnRwTakeExclusion", fn := fun _ => fun
  | [d1, d2, d3] => { results := [.lit (.bool false)], args := [d1, d2, d3] }
  | _ => none }
def FnRwTakeExclusionWrongFalsely : Prop := fnRwTakeExclusionRow.holds Try.pinned (OpenSpec.ofChange fnRwTakeExclusionWrong)

end Rows
end Go.Proofs.Qxb6001135a
