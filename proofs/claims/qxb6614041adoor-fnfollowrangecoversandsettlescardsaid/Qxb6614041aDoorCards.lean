/-
  DERIVED. GIVEN WITH THE SEED: THE CARDS: each row of Qxb6614041aDoorRows.lean that lists a variable, with what it lists TIED to the program's text (the seventh form; the later family's looks); each row that meets fmt, with fmt's text TOLD by the authors' own Lean function (tested against real Go, not proved from fmt's source: count such statements apart). THE CARD IS WHAT COUNTS. Prove the row's statement (the work); the ties are given (Qxb6614041aDoorTie.lean); close each card by the builder's one call (the guide's Derived/Test/ToyasCard.lean, 'card_holds'). Laid BY PROGRAM, IN A SANDBOX (cutbox-door.mjs). By AI agents, Wed Nov 11 2026. No macro, syntax, notation, axiom, sorry.
-/
import Derived.Test.Qxb6614041aDoorRows
import GoSem.ClaimSeven
namespace Go.Proofs.Qxb6614041aDoor
namespace Rows

/-- THE TIED CARD OF 'zzlaws_lock_b1.FnFollowRangeSweepsUncovered'. -/
def fnFollowRangeSweepsUncoveredCard : Claim7 := { stood := { row := fnFollowRangeSweepsUncoveredRow, standIns := [], harness := (true, "c6b29382b3490e788152d0d2318fb0a2b9f1d38dc6a7017d8d1f415e34392402"), looks := false }, kinds := [], alts := [], laidByText := true, laidKinds := [.called, .called], laidTests := true, laidLooks := .later }
def FnFollowRangeSweepsUncoveredCardSaid : Prop := Claim7.holds Tryd.pinned (.plain (OpenSpec.ofChange fnFollowRangeSweepsUncoveredSpec)) fnFollowRangeSweepsUncoveredCard

/-- THE TIED CARD OF 'zzlaws_lock_b1.FnFollowRangeCoversAndSettles'. -/
def fnFollowRangeCoversAndSettlesCard : Claim7 := { stood := { row := fnFollowRangeCoversAndSettlesRow, standIns := [], harness := (true, "c6b29382b3490e788152d0d2318fb0a2b9f1d38dc6a7017d8d1f415e34392402"), looks := false }, kinds := [], alts := [], laidByText := true, laidKinds := [.called, .called], laidTests := true, laidLooks := .later }
def FnFollowRangeCoversAndSettlesCardSaid : Prop := Claim7.holds Tryd.pinned (.plain (OpenSpec.ofChange fnFollowRangeCoversAndSettlesSpec)) fnFollowRangeCoversAndSettlesCard
end Rows
end Go.Proofs.Qxb6614041aDoor
