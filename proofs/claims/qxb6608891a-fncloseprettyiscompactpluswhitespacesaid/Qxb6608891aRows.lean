/-
  No cell of these rows narrows 'for every input' (looked for: loops, veiled, ifaces, maps, wideKeys, modest, calm, conditions, laid).
  DERIVED. THE GIVEN ROWS OF THIS SEAT. 3 by the template 'for every input the law returns true; each argument reads behind the call as it read before'; 0 by the template 'total and deterministic' (their statements: Qxb6608891aTotals.lean).
  GIVEN WITH THE SEED: the statements are not yours to turn. If you find one false, say at which input.
  Laid BY PROGRAM, IN A SANDBOX (cutbox-rows.mjs): the forced cells as the released guide's own fill.sh prints them over the translation cae5cd11f3356a5a… (all of the seat's roots in one cut). By AI agents, Wed Nov 11 2026. No macro, syntax, notation, axiom, sorry.
-/
import Derived.Test.Qxb6608891aChecked
import GoSem.Claim
import GoSem.ClaimJoined
import GoSem.ClaimMapViews
import Derived.JoinedTies
import Derived.KernelRfl
namespace Go.Proofs.Qxb6608891a
/- THE CELL 'sum', in the pinned program and in every row, IS THE sha256 OF THE DUMP (.gsa) THAT Qxb6608891aProg.lean LOADS. Nothing in Lean hashes anything: it is a label: what it is worth is what the hold of that sum in a sandbox is worth. -/
noncomputable def Try.pinned : Pinned := { name := "qxb6608891a", sum := "cae5cd11f3356a5ae06eb04a4123822df98a133eb51bfffbf2ea26c1cb134611", checked := Try.checked }
namespace Rows
def none {H : Type} : Left H := { results := [], args := [] }

/-- 'zzlaws_megaco_b1.FnIsNameCharCountedOverEveryByte': WHATEVER THE INPUT: true; the input reads as it did. -/
def fnIsNameCharCountedOverEveryByteSpec : ChangeSpec := { name := "fnIsNameCharCountedOverEveryByte", fn := fun _ => fun
  | [] => { results := [.lit (.bool true)], args := [] }
  | _ => none }
def fnIsNameCharCountedOverEveryByteRow : OpenClaim := { program := "qxb6608891a", sum := "cae5cd11f3356a5ae06eb04a4123822df98a133eb51bfffbf2ea26c1cb134611", func := "example.com/trunkline/trunkline/zzlaws_megaco_b1.FnIsNameCharCountedOverEveryByte", spec := "fnIsNameCharCountedOverEveryByte", apart := false }
def FnIsNameCharCountedOverEveryByteSaid : Prop := fnIsNameCharCountedOverEveryByteRow.holds Try.pinned (OpenSpec.ofChange fnIsNameCharCountedOverEveryByteSpec)

/-- ITS FALSE NEIGHBOUR: 'it returns false'. Refute it at one input. -/
def fnIsNameCharCountedOverEveryByteWrong : ChangeSpec := { name := "fnIsNameCharCountedOverEveryByte", fn := fun _ => fun
  | [] => { results := [.lit (.bool false)], args := [] }
  | _ => none }
def FnIsNameCharCountedOverEveryByteWrongFalsely : Prop := fnIsNameCharCountedOverEveryByteRow.holds Try.pinned (OpenSpec.ofChange fnIsNameCharCountedOverEveryByteWrong)

/-- 'zzlaws_megaco_b1.FnClosePrettyIsCompactPlusWhitespace': WHATEVER THE INPUT: true; the input reads as it did. -/
def fnClosePrettyIsCompactPlusWhitespaceSpec : ChangeSpec := { name := "fnClosePrettyIsCompactPlusWhitespace", fn := fun _ => fun
  | [d1, d2, d3] => { results := [.lit (.bool true)], args := [d1, d2, d3] }
  | _ => none }
def fnClosePrettyIsCompactPlusWhitespaceRow : OpenClaim := { program := "qxb6608891a", sum := "cae5cd11f3356a5ae06eb04a4123822df98a133eb51bfffbf2ea26c1cb134611", func := "example.com/trunkline/trunkline/zzlaws_megaco_b1.FnClosePrettyIsCompactPlusWhitespace", spec := "fnClosePrettyIsCompactPlusWhitespace", apart := false }
def FnClosePrettyIsCompactPlusWhitespaceSaid : Prop := fnClosePrettyIsCompactPlusWhitespaceRow.holds Try.pinned (OpenSpec.ofChange fnClosePrettyIsCompactPlusWhitespaceSpec)

/-- ITS FALSE NEIGHBOUR: 'it returns false'. Refute it at one input. -/
def fnClosePrettyIsCompactPlusWhitespaceWrong : ChangeSpec := { name := "fnClosePrettyIsCompactPlusWhitespace", fn := fun _ => fun
  | [d1, d2, d3] => { results := [.lit (.bool false)], args := [d1, d2, d3] }
  | _ => none }
def FnClosePrettyIsCompactPlusWhitespaceWrongFalsely : Prop := fnClosePrettyIsCompactPlusWhitespaceRow.holds Try.pinned (OpenSpec.ofChange fnClosePrettyIsCompactPlusWhitespaceWrong)

/-- 'zzlaws_megaco_b1.FnIsNameCharCaseTwinsAreExactlyTheLetters': WHATEVER THE INPUT: true; the input reads as it did. -/
def fnIsNameCharCaseTwinsAreExactlyTheLettersSpec : ChangeSpec := { name := "fnIsNameCharCaseTwinsAreExactlyTheLetters", fn := fun _ => fun
  | [d] => { results := [.lit (.bool true)], args := [d] }
  | _ => none }
def fnIsNameCharCaseTwinsAreExactlyTheLettersRow : OpenClaim := { program := "qxb6608891a", sum := "cae5cd11f3356a5ae06eb04a4123822df98a133eb51bfffbf2ea26c1cb134611", func := "example.com/trunkline/trunkline/zzlaws_megaco_b1.FnIsNameCharCaseTwinsAreExactlyTheLetters", spec := "fnIsNameCharCaseTwinsAreExactlyTheLetters", apart := false }
def FnIsNameCharCaseTwinsAreExactlyTheLettersSaid : Prop := fnIsNameCharCaseTwinsAreExactlyTheLettersRow.holds Try.pinned (OpenSpec.ofChange fnIsNameCharCaseTwinsAreExactlyTheLettersSpec)

/-- ITS FALSE NEIGHBOUR: 'it returns false'. Refute it at one input. -/
def fnIsNameCharCaseTwinsAreExactlyTheLettersWrong : ChangeSpec := { name := "fnIsNameCharCaseTwinsAreExactlyTheLetters", fn := fun _ => fun
  | [d] => { results := [.lit (.bool false)], args := [d] }
  | _ => none }
def FnIsNameCharCaseTwinsAreExactlyTheLettersWrongFalsely : Prop := fnIsNameCharCaseTwinsAreExactlyTheLettersRow.holds Try.pinned (OpenSpec.ofChange fnIsNameCharCaseTwinsAreExactlyTheLettersWrong)

end Rows
end Go.Proofs.Qxb6608891a
