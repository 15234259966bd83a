/-
  No cell of these rows narrows 'for every input' (looked for: loops, veiled, ifaces, maps, wideKeys, modest, calm, conditions, laid).
  DERIVED. THE GIVEN ROWS OF THIS SEAT. 2 by the template 'for every input the law returns true; each argument reads behind the call as it read before'; 0 by the template 'total and deterministic' (their statements: Qxb6613623aTotals.lean).
  GIVEN WITH THE SEED: the statements are not yours to turn. If you find one false, say at which input.
  Laid BY PROGRAM, IN A SANDBOX (cutbox-rows.mjs): the forced cells as the released guide's own fill.sh prints them over the translation 93fb129ad7fe6f39… (all of the seat's roots in one cut). By AI agents, Wed Nov 11 2026. No macro, syntax, notation, axiom, sorry.
-/
import Derived.Test.Qxb6613623aChecked
import GoSem.Claim
import GoSem.ClaimJoined
import GoSem.ClaimMapViews
import Derived.JoinedTies
import Derived.KernelRfl
namespace Go.Proofs.Qxb6613623a
/- THE CELL 'sum', in the pinned program and in every row, IS THE sha256 OF THE DUMP (.gsa) THAT Qxb6613623aProg.lean LOADS. Nothing in Lean hashes anything: it is a label: what it is worth is what the hold of that sum in a sandbox is worth. -/
noncomputable def Try.pinned : Pinned := { name := "qxb6613623a", sum := "93fb129ad7fe6f39d891c16ca00a91ab463d86ed96968c7d9bbb1d56a5180a66", checked := Try.checked }
namespace Rows
def none {H : Type} : Left H := { results := [], args := [] }

/-- 'zzlaws_internal_ledger_b1.FnAvailableOrdersAsHoldsWhileInRange': WHATEVER THE INPUT: true; the input reads as it did. -/
def fnAvailableOrdersAsHoldsWhileInRangeSpec : ChangeSpec := { name := "fnAvailableOrdersAsHoldsWhileInRange", fn := fun _ => fun
  | [d1, d2, d3, d4, d5, d6, d7] => { results := [.lit (.bool true)], args := [d1, d2, d3, d4, d5, d6, d7] }
  | _ => none }
def fnAvailableOrdersAsHoldsWhileInRangeRow : OpenClaim := { program := "qxb6613623a", sum := "93fb129ad7fe6f39d891c16ca00a91ab463d86ed96968c7d9bbb1d56a5180a66", func := "example.com/tallymark/tallymark/zzlaws_internal_ledger_b1.FnAvailableOrdersAsHoldsWhileInRange", spec := "fnAvailableOrdersAsHoldsWhileInRange", apart := false }
def FnAvailableOrdersAsHoldsWhileInRangeSaid : Prop := fnAvailableOrdersAsHoldsWhileInRangeRow.holds Try.pinned (OpenSpec.ofChange fnAvailableOrdersAsHoldsWhileInRangeSpec)

/-- ITS FALSE NEIGHBOUR: 'it returns false'. Refute it at one input. -/
def fnAvailableOrdersAsHoldsWhileInRangeWrong : ChangeSpec := { name := "fnAvailableOrdersAsHoldsWhileInRange", fn := fun _ => fun
  | [d1, d2, d3, d4, d5, d6, d7] => { results := [.lit (.bool false)], args := [d1, d2, d3, d4, d5, d6, d7] }
  | _ => none }
def FnAvailableOrdersAsHoldsWhileInRangeWrongFalsely : Prop := fnAvailableOrdersAsHoldsWhileInRangeRow.holds Try.pinned (OpenSpec.ofChange fnAvailableOrdersAsHoldsWhileInRangeWrong)

/-- 'zzlaws_internal_ledger_b1.FnSameTimeIsSymmetricInstantEquality': WHATEVER THE INPUT: true; the input reads as it did. -/
def fnSameTimeIsSymmetricInstantEqualitySpec : ChangeSpec := { name := "fnSameTimeIsSymmetricInstantEquality", fn := fun _ => fun
  | [d1, d2, d3, d4] => { results := [.lit (.bool true)], args := [d1, d2, d3, d4] }
  | _ => none }
def fnSameTimeIsSymmetricInstantEqualityRow : OpenClaim := { program := "qxb6613623a", sum := "93fb129ad7fe6f39d891c16ca00a91ab463d86ed96968c7d9bbb1d56a5180a66", func := "example.com/tallymark/tallymark/zzlaws_internal_ledger_b1.FnSameTimeIsSymmetricInstantEquality", spec := "fnSameTimeIsSymmetricInstantEquality", apart := false }
def FnSameTimeIsSymmetricInstantEqualitySaid : Prop := fnSameTimeIsSymmetricInstantEqualityRow.holds Try.pinned (OpenSpec.ofChange fnSameTimeIsSymmetricInstantEqualitySpec)

/-- ITS FALSE NEIGHBOUR: 'it returns false'. Refute it at one input. -/
def fnSameTimeIsSymmetricInstantEqualityWrong : ChangeSpec := { name := "fnSameTimeIsSymmetricInstantEquality", fn := fun _ => fun
  | [d1, d2, d3, d4] => { results := [.lit (.bool false)], args := [d1, d2, d3, d4] }
  | _ => none }
def FnSameTimeIsSymmetricInstantEqualityWrongFalsely : Prop := fnSameTimeIsSymmetricInstantEqualityRow.holds Try.pinned (OpenSpec.ofChange fnSameTimeIsSymmetricInstantEqualityWrong)

end Rows
end Go.Proofs.Qxb6613623a
