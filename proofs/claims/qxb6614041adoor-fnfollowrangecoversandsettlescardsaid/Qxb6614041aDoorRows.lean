/-
  NARROWER THAN 'FOR EVERY INPUT', by the rows' own cells (each row's printed sentence says how): FnFollowRangeSweepsUncovered: laid · FnFollowRangeCoversAndSettles: laid.
  DERIVED. THE GIVEN ROWS OF THIS SEAT. 2 by the template 'for every input the law returns true; each argument reads behind the call as it read before'; 0 by the template 'total and deterministic' (their statements: Qxb6614041aDoorTotals.lean).
  GIVEN WITH THE SEED: the statements are not yours to turn. If you find one false, say at which input.
  Laid BY PROGRAM, IN A SANDBOX (cutbox-rows.mjs): the forced cells as the released guide's own fill.sh prints them over the translation 22b121ff0370b1d3… (all of the seat's roots in one cut). By AI agents, Wed Nov 11 2026. No macro, syntax, notation, axiom, sorry.
-/
import Derived.Test.Qxb6614041aDoorChecked
import GoSem.Claim
import GoSem.ClaimJoined
import GoSem.ClaimMapViews
import Derived.JoinedTies
import Derived.KernelRfl
namespace Go.Proofs.Qxb6614041aDoor
/- THE CELL 'sum', in the pinned program and in every row, IS THE sha256 OF THE DUMP (.gsa) THAT Qxb6614041aDoorProg.lean LOADS. Nothing in Lean hashes anything: it is a label: what it is worth is what the hold of that sum in a sandbox is worth. -/
noncomputable def Tryd.pinned : Pinned := { name := "qxb6614041adoor", sum := "22b121ff0370b1d3d8cbb0b5303d1b143699fc7834d0a6cc5ea476f4bcff6529", checked := Tryd.checked }
namespace Rows
def none {H : Type} : Left H := { results := [], args := [] }

/- WHAT THE LISTED PACKAGE-LEVEL VARIABLES READ AS WHEN THE CALL BEGINS. Each datum BY PROGRAM (the guide's laid-datum.mjs) off the statement by which the dump's own 'gosem.cut.vars' lays the variable. In a bare row this is a premise. The card (Qxb6614041aDoorCards.lean) ties it to the program's text. -/
def laid_example_com_holdfast_holdfast_lock_conflicts {H : Type} : DataW H := .agg [.lit (.int .u8 26), .lit (.int .u8 31), .lit (.int .u8 2), .lit (.int .u8 19), .lit (.int .u8 27)]
def laid_example_com_holdfast_holdfast_lock_covers {H : Type} : DataW H := .agg [.lit (.int .u8 5), .lit (.int .u8 31), .lit (.int .u8 4), .lit (.int .u8 12), .lit (.int .u8 29)]

/-- 'zzlaws_lock_b1.FnFollowRangeSweepsUncovered': WHATEVER THE INPUT: true; the input reads as it did. -/
def fnFollowRangeSweepsUncoveredSpec : ChangeSpec := { name := "fnFollowRangeSweepsUncovered", vars := ["example.com/holdfast/holdfast/lock.conflicts", "example.com/holdfast/holdfast/lock.covers"], fn := fun _ => fun
  | [d1, d2, g1, g2] => { results := [.lit (.bool true)], args := [d1, d2], vars := [g1, g2] }
  | _ => none }
def fnFollowRangeSweepsUncoveredRow : OpenClaim := { program := "qxb6614041adoor", sum := "22b121ff0370b1d3d8cbb0b5303d1b143699fc7834d0a6cc5ea476f4bcff6529", func := "example.com/holdfast/holdfast/zzlaws_lock_b1.FnFollowRangeSweepsUncovered", spec := "fnFollowRangeSweepsUncovered", unfollowed := true, recurses := true, named := ["example.com/holdfast/holdfast/lock.conflicts", "example.com/holdfast/holdfast/lock.covers"], apart := false, laid := [("example.com/holdfast/holdfast/lock.conflicts", laid_example_com_holdfast_holdfast_lock_conflicts), ("example.com/holdfast/holdfast/lock.covers", laid_example_com_holdfast_holdfast_lock_covers)] }
def FnFollowRangeSweepsUncoveredSaid : Prop := fnFollowRangeSweepsUncoveredRow.holds Tryd.pinned (OpenSpec.ofChange fnFollowRangeSweepsUncoveredSpec)

/-- ITS FALSE NEIGHBOUR: 'it returns false'. Refute it at one input. -/
def fnFollowRangeSweepsUncoveredWrong : ChangeSpec := { name := "fnFollowRangeSweepsUncovered", vars := ["example.com/holdfast/holdfast/lock.conflicts", "example.com/holdfast/holdfast/lock.covers"], fn := fun _ => fun
  | [d1, d2, g1, g2] => { results := [.lit (.bool false)], args := [d1, d2], vars := [g1, g2] }
  | _ => none }
def FnFollowRangeSweepsUncoveredWrongFalsely : Prop := fnFollowRangeSweepsUncoveredRow.holds Tryd.pinned (OpenSpec.ofChange fnFollowRangeSweepsUncoveredWrong)

/-- 'zzlaws_lock_b1.FnFollowRangeCoversAndSettles': WHATEVER THE INPUT: true; the input reads as it did. -/
def fnFollowRangeCoversAndSettlesSpec : ChangeSpec := { name := "fnFollowRangeCoversAndSettles", vars := ["example.com/holdfast/holdfast/lock.conflicts", "example.com/holdfast/holdfast/lock.covers"], fn := fun _ => fun
  | [d1, d2, g1, g2] => { results := [.lit (.bool true)], args := [d1, d2], vars := [g1, g2] }
  | _ => none }
def fnFollowRangeCoversAndSettlesRow : OpenClaim := { program := "qxb6614041adoor", sum := "22b121ff0370b1d3d8cbb0b5303d1b143699fc7834d0a6cc5ea476f4bcff6529", func := "example.com/holdfast/holdfast/zzlaws_lock_b1.FnFollowRangeCoversAndSettles", spec := "fnFollowRangeCoversAndSettles", unfollowed := true, recurses := true, named := ["example.com/holdfast/holdfast/lock.conflicts", "example.com/holdfast/holdfast/lock.covers"], apart := false, laid := [("example.com/holdfast/holdfast/lock.conflicts", laid_example_com_holdfast_holdfast_lock_conflicts), ("example.com/holdfast/holdfast/lock.covers", laid_example_com_holdfast_holdfast_lock_covers)] }
def FnFollowRangeCoversAndSettlesSaid : Prop := fnFollowRangeCoversAndSettlesRow.holds Tryd.pinned (OpenSpec.ofChange fnFollowRangeCoversAndSettlesSpec)

/-- ITS FALSE NEIGHBOUR: 'it returns false'. Refute it at one input. -/
def fnFollowRangeCoversAndSettlesWrong : ChangeSpec := { name := "fnFollowRangeCoversAndSettles", vars := ["example.com/holdfast/holdfast/lock.conflicts", "example.com/holdfast/holdfast/lock.covers"], fn := fun _ => fun
  | [d1, d2, g1, g2] => { results := [.lit (.bool false)], args := [d1, d2], vars := [g1, g2] }
  | _ => none }
def FnFollowRangeCoversAndSettlesWrongFalsely : Prop := fnFollowRangeCoversAndSettlesRow.holds Tryd.pinned (OpenSpec.ofChange fnFollowRangeCoversAndSettlesWrong)

end Rows
end Go.Proofs.Qxb6614041aDoor
