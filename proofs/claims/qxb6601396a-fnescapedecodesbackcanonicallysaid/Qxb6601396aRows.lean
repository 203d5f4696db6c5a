/-
  No cell of these rows narrows 'for every input' (looked for: loops, veiled, ifaces, maps, wideKeys, modest, calm, conditions, laid).
  DERIVED. THE GIVEN ROWS OF THIS SEAT. 2 by the template 'for every input the law returns true; each argument reads behind the call as it read before'; 0 by the template 'total and deterministic' (their statements: Qxb6601396aTotals.lean).
  GIVEN WITH THE SEED: the statements are not yours to turn. If you find one false, say at which input.
  Laid BY PROGRAM, IN A SANDBOX (cutbox-rows.mjs): the forced cells as the released guide's own fill.sh prints them over the translation 65b7995d8e4e6db4… (all of the seat's roots in one cut). By AI agents, Wed Nov 11 2026. No macro, syntax, notation, axiom, sorry.
-/
import Derived.Test.Qxb6601396aChecked
import GoSem.Claim
import GoSem.ClaimJoined
import GoSem.ClaimMapViews
import Derived.JoinedTies
import Derived.KernelRfl
namespace Go.Proofs.Qxb6601396a
/- THE CELL 'sum', in the pinned program and in every row, IS THE sha256 OF THE DUMP (.gsa) THAT Qxb6601396aProg.lean LOADS. Nothing in Lean hashes anything: it is a label: what it is worth is what the hold of that sum in a sandbox is worth. -/
noncomputable def Try.pinned : Pinned := { name := "qxb6601396a", sum := "65b7995d8e4e6db43d60afed83a9c6c85d4371467532e2b57fd2bbf7e9a937f1", checked := Try.checked }
namespace Rows
def none {H : Type} : Left H := { results := [], args := [] }

/-- 'zzlaws_root_b1.FnEscapeDecodesBackCanonically': WHATEVER THE INPUT: true; the input reads as it did. -/
def fnEscapeDecodesBackCanonicallySpec : ChangeSpec := { name := "fnEscapeDecodesBackCanonically", fn := fun _ => fun
  | [d1, d2] => { results := [.lit (.bool true)], args := [d1, d2] }
  | _ => none }
def fnEscapeDecodesBackCanonicallyRow : OpenClaim := { program := "qxb6601396a", sum := "65b7995d8e4e6db43d60afed83a9c6c85d4371467532e2b57fd2bbf7e9a937f1", func := "example.com/namestone/namestone/zzlaws_root_b1.FnEscapeDecodesBackCanonically", spec := "fnEscapeDecodesBackCanonically", inPlace := ["internal/abi.NoEscape", "internal/bytealg.MakeNoZero"], apart := false }
def FnEscapeDecodesBackCanonicallySaid : Prop := fnEscapeDecodesBackCanonicallyRow.holds Try.pinned (OpenSpec.ofChange fnEscapeDecodesBackCanonicallySpec)

/-- ITS FALSE NEIGHBOUR: 'it returns false'. Refute it at one input. -/
def fnEscapeDecodesBackCanonicallyWrong : ChangeSpec := { name := "fnEscapeDecodesBackCanonically", fn := fun _ => fun
  | [d1, d2] => { results := [.lit (.bool false)], args := [d1, d2] }
  | _ => none }
def FnEscapeDecodesBackCanonicallyWrongFalsely : Prop := fnEscapeDecodesBackCanonicallyRow.holds Try.pinned (OpenSpec.ofChange fnEscapeDecodesBackCanonicallyWrong)

/-- 'zzlaws_root_b1.FnEscapeLengthAndAlphabet': WHATEVER THE INPUT: true; the input reads as it did. -/
def fnEscapeLengthAndAlphabetSpec : ChangeSpec := { name := "fnEscapeLengthAndAlphabet", fn := fun _ => fun
  | [d1, d2] => { results := [.lit (.bool true)], args := [d1, d2] }
  | _ => none }
def fnEscapeLengthAndAlphabetRow : OpenClaim := { program := "qxb6601396a", sum := "65b7995d8e4e6db43d60afed83a9c6c85d4371467532e2b57fd2bbf7e9a937f1", func := "example.com/namestone/namestone/zzlaws_root_b1.FnEscapeLengthAndAlphabet", spec := "fnEscapeLengthAndAlphabet", inPlace := ["internal/abi.NoEscape", "internal/bytealg.MakeNoZero"], apart := false }
def FnEscapeLengthAndAlphabetSaid : Prop := fnEscapeLengthAndAlphabetRow.holds Try.pinned (OpenSpec.ofChange fnEscapeLengthAndAlphabetSpec)

/-- ITS FALSE NEIGHBOUR: 'it returns false'. Refute it at one input. -/
def fnEscapeLengthAndAlphabetWrong : ChangeSpec := { name := "fnEscapeLengthAndAlphabet", fn := fun _ => fun
  | [d1, d2] => { results := [.lit (.bool false)], args := [d1, d2] }
  | _ => none }
def FnEscapeLengthAndAlphabetWrongFalsely : Prop := fnEscapeLengthAndAlphabetRow.holds Try.pinned (OpenSpec.ofChange fnEscapeLengthAndAlphabetWrong)

end Rows
end Go.Proofs.Qxb6601396a
