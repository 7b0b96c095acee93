import Derived.Test.Qxb6614041aDoorRows
import Derived.Test.Qxb6614041aDoorCards
import Derived.Test.Qxb6614041aDoorTie
import Derived.Test.Qxb6614041aDoorLaw4
import Derived.Test.Qxb6614041aDoorLift4
import Derived.SevenTiedAt
namespace Go.Proofs.Qxb6614041aDoor.Card4
open Go

theorem over : Rows.FnFollowRangeCoversAndSettlesSaid :=
  Lift4.over4 fun tgt p b0 off n c R w hp hR hn => Law4.law4 tgt p b0 off n c R w hp hR hn

/-- THE TIED CARD of FnFollowRangeCoversAndSettles. -/
theorem card_holds : Rows.FnFollowRangeCoversAndSettlesCardSaid :=
  Claim7.holds_tied_plain_at .later [] [.called, .called] true (true, "c6b29382b3490e788152d0d2318fb0a2b9f1d38dc6a7017d8d1f415e34392402") false
    over (fun _ h => by cases h) (by kernel_rfl) (fun _ h => by cases h) fnFollowRangeCoversAndSettles_row_tie rfl ⟨rfl, rfl⟩ (by kernel_rfl) rfl
    (fun f fn hf hfn => by
      obtain rfl : f = 4 := Option.some.inj ((show Tryd.prog.funcNamed "example.com/holdfast/holdfast/zzlaws_lock_b1.FnFollowRangeCoversAndSettles" = some 4 by kernel_rfl).symm.trans hf) |>.symm
      obtain rfl : fn = Tryd.f4 := (Option.some.inj (Tryd.func4.symm.trans hfn)).symm
      exact ⟨by kernel_rfl, fun j t ht => by
        rw [Tryd.params4] at ht
        rcases j with _ | _ | j
        · obtain rfl : t = 22 := by simpa using ht.symm
          exact (show Tryd.prog.wantsStandIn 22 = false by kernel_rfl)
        · obtain rfl : t = 23 := by simpa using ht.symm
          exact (show Tryd.prog.wantsStandIn 23 = false by kernel_rfl)
        · simp at ht⟩)
    (by kernel_rfl)
#print axioms card_holds
end Go.Proofs.Qxb6614041aDoor.Card4
