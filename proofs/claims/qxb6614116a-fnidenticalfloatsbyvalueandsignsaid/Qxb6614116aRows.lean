/-
  No cell of these rows narrows 'for every input' (looked for: loops, veiled, ifaces, maps, wideKeys, modest, calm, conditions, laid).
  DERIVED. THE GIVEN ROWS OF THIS SEAT. 1 by the template 'for every input the law returns true; each argument reads behind the call as it read before'; 0 by the template 'total and deterministic' (their statements: Qxb6614116aTotals.lean).
  GIVEN WITH THE SEED: the statements are not yours to turn. If you find one false, say at which input.
  Laid BY PROGRAM, IN A SANDBOX (cutbox-rows.mjs): the forced cells as the released guide's own fill.sh prints them over the translation 4c761c7840ba6468… (all of the seat's roots in one cut). By AI agents, Wed Nov 11 2026. No macro, syntax, notation, axiom, sorry.
-/
import Derived.Test.Qxb6614116aChecked
import GoSem.Claim
import GoSem.ClaimJoined
import GoSem.ClaimMapViews
import Derived.JoinedTies
import Derived.KernelRfl
namespace Go.Proofs.Qxb6614116a
/- THE CELL 'sum', in the pinned program and in every row, IS THE sha256 OF THE DUMP (.gsa) THAT Qxb6614116aProg.lean LOADS. Nothing in Lean hashes anything: it is a label: what it is worth is what the hold of that sum in a sandbox is worth. -/
noncomputable def Try.pinned : Pinned := { name := "qxb6614116a", sum := "4c761c7840ba6468f616e6947510e301133baa99775682f2c0333d0c6a261725", checked := Try.checked }
namespace Rows
def none {H : Type} : Left H := { results := [], args := [] }

/-- 'zzlaws_internal_yaql_b1.FnIdenticalFloatsByValueAndSign': WHATEVER THE INPUT: true; the input reads as it did. -/
def fnIdenticalFloatsByValueAndSignSpec : ChangeSpec := { name := "fnIdenticalFloatsByValueAndSign", fn := fun _ => fun
  | [d1, d2] => { results := [.lit (.bool true)], args := [d1, d2] }
  | _ => none }
def fnIdenticalFloatsByValueAndSignRow : OpenClaim := { program := "qxb6614116a", sum := "4c761c7840ba6468f616e6947510e301133baa99775682f2c0333d0c6a261725", func := "example.com/nodewright/nodewright/zzlaws_internal_yaql_b1.FnIdenticalFloatsByValueAndSign", spec := "fnIdenticalFloatsByValueAndSign", inPlace := ["math.Float64bits"], unfollowed := true, recurses := true, apart := false }
def FnIdenticalFloatsByValueAndSignSaid : Prop := fnIdenticalFloatsByValueAndSignRow.holds Try.pinned (OpenSpec.ofChange fnIdenticalFloatsByValueAndSignSpec)

/-- ITS FALSE NEIGHBOUR: 'it returns false'. Refute it at one input. -/
def fnIdenticalFloatsByValueAndSignWrong : ChangeSpec := { name := "fnIdenticalFloatsByValueAndSign", fn := fun _ => fun
  | [d1, d2] => { results := [.lit (.bool false)], args := [d1, d2] }
  | _ => none }
def FnIdenticalFloatsByValueAndSignWrongFalsely : Prop := fnIdenticalFloatsByValueAndSignRow.holds Try.pinned (OpenSpec.ofChange fnIdenticalFloatsByValueAndSignWrong)

end Rows
end Go.Proofs.Qxb6614116a
