/-
  No cell of these rows narrows 'for every input' (looked for: loops, veiled, ifaces, maps, wideKeys, modest, calm, conditions, laid).
  DERIVED. THE GIVEN ROWS OF THIS SEAT. 2 by the template 'for every input the law returns true; each argument reads behind the call as it read before'; 0 by the template 'total and deterministic' (their statements: Qxb6614041aTotals.lean).
  GIVEN WITH THE SEED: the statements are not yours to turn. If you find one false, say at which input.
  Laid BY PROGRAM, IN A SANDBOX (cutbox-rows.mjs): the forced cells as the released guide's own fill.sh prints them over the translation 2466942319dfdfe0… (all of the seat's roots in one cut). By AI agents, Wed Nov 11 2026. No macro, syntax, notation, axiom, sorry.
-/
import Derived.Test.Qxb6614041aChecked
import GoSem.Claim
import GoSem.ClaimJoined
import GoSem.ClaimMapViews
import Derived.JoinedTies
import Derived.KernelRfl
namespace Go.Proofs.Qxb6614041a
/- THE CELL 'sum', in the pinned program and in every row, IS THE sha256 OF THE DUMP (.gsa) THAT Qxb6614041aProg.lean LOADS. Nothing in Lean hashes anything: it is a label: what it is worth is what the hold of that sum in a sandbox is worth. -/
noncomputable def Try.pinned : Pinned := { name := "qxb6614041a", sum := "2466942319dfdfe0601ff9f32c875626b70dbf368f26480e7cb5b3ab4bc62fd9", checked := Try.checked }
namespace Rows
def none {H : Type} : Left H := { results := [], args := [] }

/-- 'zzlaws_lock_b1.FnReachesAgreesWithHas': WHATEVER THE INPUT: true; the input reads as it did. -/
def fnReachesAgreesWithHasSpec : ChangeSpec := { name := "fnReachesAgreesWithHas", fn := fun _ => fun
  | [d1, d2, d3, d4] => { results := [.lit (.bool true)], args := [d1, d2, d3, d4] }
  | _ => none }
def fnReachesAgreesWithHasRow : OpenClaim := { program := "qxb6614041a", sum := "2466942319dfdfe0601ff9f32c875626b70dbf368f26480e7cb5b3ab4bc62fd9", func := "example.com/holdfast/holdfast/zzlaws_lock_b1.FnReachesAgreesWithHas", spec := "fnReachesAgreesWithHas", apart := false }
def FnReachesAgreesWithHasSaid : Prop := fnReachesAgreesWithHasRow.holds Try.pinned (OpenSpec.ofChange fnReachesAgreesWithHasSpec)

/-- ITS FALSE NEIGHBOUR: 'it returns false'. Refute it at one input. -/
def fnReachesAgreesWithHasWrong : ChangeSpec := { name := "fnReachesAgreesWithHas", fn := fun _ => fun
  | [d1, d2, d3, d4] => { results := [.lit (.bool false)], args := [d1, d2, d3, d4] }
  | _ => none }
def FnReachesAgreesWithHasWrongFalsely : Prop := fnReachesAgreesWithHasRow.holds Try.pinned (OpenSpec.ofChange fnReachesAgreesWithHasWrong)

/-- 'zzlaws_lock_b1.FnReachesIsWithinUpToKey': WHATEVER THE INPUT: true; the input reads as it did. -/
def fnReachesIsWithinUpToKeySpec : ChangeSpec := { name := "fnReachesIsWithinUpToKey", fn := fun _ => fun
  | [d1, d2, d3, d4] => { results := [.lit (.bool true)], args := [d1, d2, d3, d4] }
  | _ => none }
def fnReachesIsWithinUpToKeyRow : OpenClaim := { program := "qxb6614041a", sum := "2466942319dfdfe0601ff9f32c875626b70dbf368f26480e7cb5b3ab4bc62fd9", func := "example.com/holdfast/holdfast/zzlaws_lock_b1.FnReachesIsWithinUpToKey", spec := "fnReachesIsWithinUpToKey", apart := false }
def FnReachesIsWithinUpToKeySaid : Prop := fnReachesIsWithinUpToKeyRow.holds Try.pinned (OpenSpec.ofChange fnReachesIsWithinUpToKeySpec)

/-- ITS FALSE NEIGHBOUR: 'it returns false'. Refute it at one input. -/
def fnReachesIsWithinUpToKeyWrong : ChangeSpec := { name := "fnReachesIsWithinUpToKey", fn := fun _ => fun
  | [d1, d2, d3, d4] => { results := [.lit (.bool false)], args := [d1, d2, d3, d4] }
  | _ => none }
def FnReachesIsWithinUpToKeyWrongFalsely : Prop := fnReachesIsWithinUpToKeyRow.holds Try.pinned (OpenSpec.ofChange fnReachesIsWithinUpToKeyWrong)

end Rows
end Go.Proofs.Qxb6614041a
