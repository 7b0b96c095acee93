/-
  No cell of these rows narrows 'for every input' (looked for: loops, veiled, ifaces, maps, wideKeys, modest, calm, conditions, laid).
  DERIVED. THE GIVEN ROWS OF THIS SEAT. 4 by the template 'for every input the law returns true; each argument reads behind the call as it read before'; 0 by the template 'total and deterministic' (their statements: Qxb6613088aTotals.lean).
  GIVEN WITH THE SEED: the statements are not yours to turn. If you find one false, say at which input.
  Laid BY PROGRAM, IN A SANDBOX (cutbox-rows.mjs): the forced cells as the released guide's own fill.sh prints them over the translation 82b54f3899811346… (all of the seat's roots in one cut). By AI agents, Wed Nov 11 2026. No macro, syntax, notation, axiom, sorry.
-/
import Derived.Test.Qxb6613088aChecked
import GoSem.Claim
import GoSem.ClaimJoined
import GoSem.ClaimMapViews
import Derived.JoinedTies
import Derived.KernelRfl
namespace Go.Proofs.Qxb6613088a
/- THE CELL 'sum', in the pinned program and in every row, IS THE sha256 OF THE DUMP (.gsa) THAT Qxb6613088aProg.lean LOADS. Nothing in Lean hashes anything: it is a label: what it is worth is what the hold of that sum in a sandbox is worth. -/
noncomputable def Try.pinned : Pinned := { name := "qxb6613088a", sum := "82b54f3899811346ac3b45b5e32ffec8ddd68e528572f2cbdb50da3c1e0e38f5", checked := Try.checked }
namespace Rows
def none {H : Type} : Left H := { results := [], args := [] }

/-- 'zzlaws_sqlstore_b1.FnNullsSmallestKeptByReversalAndSetByBeyond': WHATEVER THE INPUT: true; the input reads as it did. -/
def fnNullsSmallestKeptByReversalAndSetByBeyondSpec : ChangeSpec := { name := "fnNullsSmallestKeptByReversalAndSetByBeyond", fn := fun _ => fun
  | [d1, d2, d3, d4, d5, d6, d7, d8] => { results := [.lit (.bool true)], args := [d1, d2, d3, d4, d5, d6, d7, d8] }
  | _ => none }
def fnNullsSmallestKeptByReversalAndSetByBeyondRow : OpenClaim := { program := "qxb6613088a", sum := "82b54f3899811346ac3b45b5e32ffec8ddd68e528572f2cbdb50da3c1e0e38f5", func := "example.com/ribbonmark/ribbonmark/zzlaws_sqlstore_b1.FnNullsSmallestKeptByReversalAndSetByBeyond", spec := "fnNullsSmallestKeptByReversalAndSetByBeyond", apart := false }
def FnNullsSmallestKeptByReversalAndSetByBeyondSaid : Prop := fnNullsSmallestKeptByReversalAndSetByBeyondRow.holds Try.pinned (OpenSpec.ofChange fnNullsSmallestKeptByReversalAndSetByBeyondSpec)

/-- ITS FALSE NEIGHBOUR: 'it returns false'. Refute it at one input. -/
def fnNullsSmallestKeptByReversalAndSetByBeyondWrong : ChangeSpec := { name := "fnNullsSmallestKeptByReversalAndSetByBeyond", fn := fun _ => fun
  | [d1, d2, d3, d4, d5, d6, d7, d8] => { results := [.lit (.bool false)], args := [d1, d2, d3, d4, d5, d6, d7, d8] }
  | _ => none }
def FnNullsSmallestKeptByReversalAndSetByBeyondWrongFalsely : Prop := fnNullsSmallestKeptByReversalAndSetByBeyondRow.holds Try.pinned (OpenSpec.ofChange fnNullsSmallestKeptByReversalAndSetByBeyondWrong)

/-- 'zzlaws_sqlstore_b1.FnBeforeFarthestIsTheNegationOfAtOrBeyond': WHATEVER THE INPUT: true; the input reads as it did. -/
def fnBeforeFarthestIsTheNegationOfAtOrBeyondSpec : ChangeSpec := { name := "fnBeforeFarthestIsTheNegationOfAtOrBeyond", fn := fun _ => fun
  | [d1, d2, d3, d4, d5, d6, d7, d8, d9, d10, d11] => { results := [.lit (.bool true)], args := [d1, d2, d3, d4, d5, d6, d7, d8, d9, d10, d11] }
  | _ => none }
def fnBeforeFarthestIsTheNegationOfAtOrBeyondRow : OpenClaim := { program := "qxb6613088a", sum := "82b54f3899811346ac3b45b5e32ffec8ddd68e528572f2cbdb50da3c1e0e38f5", func := "example.com/ribbonmark/ribbonmark/zzlaws_sqlstore_b1.FnBeforeFarthestIsTheNegationOfAtOrBeyond", spec := "fnBeforeFarthestIsTheNegationOfAtOrBeyond", apart := false }
def FnBeforeFarthestIsTheNegationOfAtOrBeyondSaid : Prop := fnBeforeFarthestIsTheNegationOfAtOrBeyondRow.holds Try.pinned (OpenSpec.ofChange fnBeforeFarthestIsTheNegationOfAtOrBeyondSpec)

/-- ITS FALSE NEIGHBOUR: 'it returns false'. Refute it at one input. -/
def fnBeforeFarthestIsTheNegationOfAtOrBeyondWrong : ChangeSpec := { name := "fnBeforeFarthestIsTheNegationOfAtOrBeyond", fn := fun _ => fun
  | [d1, d2, d3, d4, d5, d6, d7, d8, d9, d10, d11] => { results := [.lit (.bool false)], args := [d1, d2, d3, d4, d5, d6, d7, d8, d9, d10, d11] }
  | _ => none }
def FnBeforeFarthestIsTheNegationOfAtOrBeyondWrongFalsely : Prop := fnBeforeFarthestIsTheNegationOfAtOrBeyondRow.holds Try.pinned (OpenSpec.ofChange fnBeforeFarthestIsTheNegationOfAtOrBeyondWrong)

/-- 'zzlaws_sqlstore_b1.FnBeforeFarthestNamesItsOwnAhead': WHATEVER THE INPUT: true; the input reads as it did. -/
def fnBeforeFarthestNamesItsOwnAheadSpec : ChangeSpec := { name := "fnBeforeFarthestNamesItsOwnAhead", fn := fun _ => fun
  | [d1, d2, d3, d4, d5, d6, d7, d8, d9, d10, d11, d12] => { results := [.lit (.bool true)], args := [d1, d2, d3, d4, d5, d6, d7, d8, d9, d10, d11, d12] }
  | _ => none }
def fnBeforeFarthestNamesItsOwnAheadRow : OpenClaim := { program := "qxb6613088a", sum := "82b54f3899811346ac3b45b5e32ffec8ddd68e528572f2cbdb50da3c1e0e38f5", func := "example.com/ribbonmark/ribbonmark/zzlaws_sqlstore_b1.FnBeforeFarthestNamesItsOwnAhead", spec := "fnBeforeFarthestNamesItsOwnAhead", apart := false }
def FnBeforeFarthestNamesItsOwnAheadSaid : Prop := fnBeforeFarthestNamesItsOwnAheadRow.holds Try.pinned (OpenSpec.ofChange fnBeforeFarthestNamesItsOwnAheadSpec)

/-- ITS FALSE NEIGHBOUR: 'it returns false'. Refute it at one input. -/
def fnBeforeFarthestNamesItsOwnAheadWrong : ChangeSpec := { name := "fnBeforeFarthestNamesItsOwnAhead", fn := fun _ => fun
  | [d1, d2, d3, d4, d5, d6, d7, d8, d9, d10, d11, d12] => { results := [.lit (.bool false)], args := [d1, d2, d3, d4, d5, d6, d7, d8, d9, d10, d11, d12] }
  | _ => none }
def FnBeforeFarthestNamesItsOwnAheadWrongFalsely : Prop := fnBeforeFarthestNamesItsOwnAheadRow.holds Try.pinned (OpenSpec.ofChange fnBeforeFarthestNamesItsOwnAheadWrong)

/-- 'zzlaws_sqlstore_b1.FnBareIdentifierBytesAreSixtyFourAndCaseClosed': WHATEVER THE INPUT: true; the input reads as it did. -/
def fnBareIdentifierBytesAreSixtyFourAndCaseClosedSpec : ChangeSpec := { name := "fnBareIdentifierBytesAreSixtyFourAndCaseClosed", fn := fun _ => fun
  | [d] => { results := [.lit (.bool true)], args := [d] }
  | _ => none }
def fnBareIdentifierBytesAreSixtyFourAndCaseClosedRow : OpenClaim := { program := "qxb6613088a", sum := "82b54f3899811346ac3b45b5e32ffec8ddd68e528572f2cbdb50da3c1e0e38f5", func := "example.com/ribbonmark/ribbonmark/zzlaws_sqlstore_b1.FnBareIdentifierBytesAreSixtyFourAndCaseClosed", spec := "fnBareIdentifierBytesAreSixtyFourAndCaseClosed", apart := false }
def FnBareIdentifierBytesAreSixtyFourAndCaseClosedSaid : Prop := fnBareIdentifierBytesAreSixtyFourAndCaseClosedRow.holds Try.pinned (OpenSpec.ofChange fnBareIdentifierBytesAreSixtyFourAndCaseClosedSpec)

/-- ITS FALSE NEIGHBOUR: 'it returns false'. Refute it at one input. -/
def fnBareIdentifierBytesAreSixtyFourAndCaseClosedWrong : ChangeSpec := { name := "fnBareIdentifierBytesAreSixtyFourAndCaseClosed", fn := fun _ => fun
  | [d] => { results := [.lit (.bool false)], args := [d] }
  | _ => none }
def FnBareIdentifierBytesAreSixtyFourAndCaseClosedWrongFalsely : Prop := fnBareIdentifierBytesAreSixtyFourAndCaseClosedRow.holds Try.pinned (OpenSpec.ofChange fnBareIdentifierBytesAreSixtyFourAndCaseClosedWrong)

end Rows
end Go.Proofs.Qxb6613088a
