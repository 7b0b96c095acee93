import Derived.Test.Qxb6614041aDoorRows
import Derived.Test.Qxb6614041aDoorOpen
import Derived.ProofKit
import Derived.LaidMore
import Derived.OpenShut
import Derived.OpenVars
import Derived.Stop.Joined
import Derived.SizedLaws
namespace Go.Proofs.Qxb6614041aDoor.Lift4
open Go.ChangeShapes Go.WideShapes Go.ChangeAt Go.RowKit
open Go.Proofs.Qxb6614041aDoor.Sized (Req At)

theorem own : ownKnob Tryd.prog.godebug = none := by kernel_rfl
theorem laidOut : laidOutB Tryd.prog = true := by kernel_rfl
theorem rowed : varsRowed Tryd.prog ["example.com/holdfast/holdfast/lock.conflicts", "example.com/holdfast/holdfast/lock.covers"] = true := by kernel_rfl
theorem bytes34 : Tryd.prog.bytesOf 34 = 64 := by kernel_rfl
theorem small {n : Nat} (h : n * 64 ≤ reachBytes) : (n : Int) ≤ 140737488355328 := by
  have := reachBytes_lt
  have e : (2 : Nat) ^ 47 = 140737488355328 := by decide
  omega

/-- The door's own heap meets the condition. -/
theorem door_met (os : Os) (args : Array Value) : laidMetH Tryd.prog Rows.fnFollowRangeCoversAndSettlesRow.laid ((World.doorLaid Tryd.prog 843 os).forCall (fun _ _ => 0) ⟨#[], args, []⟩).memory :=
  laidMetH_of_parts3 (fuel := 8) (laidMet_of_run' 8 (by kernel_rfl) (by kernel_rfl)) (by kernel_rfl) (by kernel_rfl)

set_option maxRecDepth 100000 in
theorem lifted4 (law : ∀ (tgt : Int) (p : Option Addr) (b0 off n c : Nat) (R : Nat → Req) (w : World), (∀ k, k < n → p = some ⟨b0, off, none⟩) → (∀ k, k < n → At w b0 off k (R k)) → (n : Int) ≤ 140737488355328 →
      Calls Tryd.prog 4 #[.int .u64 tgt, .slice p n c] w fun e w' => e = .returned (.bool true) ∧ Below w.heap.size w w')
    (os : Os) (started : os.Started) (H : Type) (enc : TypeId × Value → H) :
    ReturnsInHanded {} Tryd.checked os 4 .any (fun w args => (Rows.fnFollowRangeCoversAndSettlesSpec.pre enc Tryd.prog Tryd.f4 [] false w args ∧ laidMetH Tryd.prog Rows.fnFollowRangeCoversAndSettlesRow.laid w) ∧ sizedMet enc Tryd.prog Tryd.f4 (OpenSpec.ofChange Rows.fnFollowRangeCoversAndSettlesSpec) false w args)
      (Rows.fnFollowRangeCoversAndSettlesSpec.post enc Tryd.prog Tryd.f4 false true false false) := by
  refine returnsInHanded_of_change_and (C := Tryd.checked) (X := fun w _ => laidMetH Tryd.prog Rows.fnFollowRangeCoversAndSettlesRow.laid w) (fun _ _ _ hh h => h.of_heap hh) own started (by kernel_rfl) Tryd.func4
    (ChangeSpec.witness_shaped (enc := enc) (C := Tryd.checked) (os := os) (X := fun w _ => laidMetH Tryd.prog Rows.fnFollowRangeCoversAndSettlesRow.laid w) false (World.doorLaid Tryd.prog 843 os) #[.int .u64 0, .slice none 0 0] 8 rfl (World.shaped_of_RefB (by kernel_rfl) (by kernel_rfl)) (by kernel_rfl) (by kernel_rfl) (by kernel_rfl) (door_met os _)) ?_
  intro W base args ds gs before hval0 hW _ hsz _ _
  have hval : ∀ (j : Nat) t v, Tryd.f4.params[j]? = some t → args[j]? = some v → Value.okWide Tryd.prog W .any base t v := hval0
  have hW' := hW
  obtain ⟨p, q, hA0, hV, hpq, hfz, hnd⟩ := hW
  have hA : DataW.TrodAll enc Tryd.prog W 0 (fun _ => true) true Tryd.f4.params.toList args.toList ds p := hA0
  have hsz1 : (DataW.weightsEach Tryd.prog (Tryd.f4.params.toList ++ Rows.fnFollowRangeCoversAndSettlesSpec.plain.varTypes Tryd.prog) (ds ++ gs)).all (· ≤ reachBytes) = true := hsz
  rw [Tryd.params4] at hA hval hsz1
  obtain ⟨v0, v1, d0, d1, p0, p1, rfl, rfl, hp, h0, h1⟩ := trodAll_two hA
  obtain ⟨g0, t0, cs0, f0, e0, q0, g1, t1, cs1, f1, e1, q1, hgs, _⟩ := trodVars_two hV
  subst hgs
  obtain ⟨tgt, rfl, rfl, rfl, wt⟩ := open_int Tryd.underlying22 (hval 0 22 v0 rfl rfl) h0
  obtain ⟨a, n, c, rfl⟩ := okWide_slice Tryd.underlying23 (hval 1 23 v1 rfl rfl)
  have h1k := h1
  obtain ⟨fuel, h1t⟩ := h1
  obtain ⟨b0, off, R, hnc, hcm, hpk, hat, hlen⟩ := Open.open_reqs h1t
  have hlt : ∀ x ∈ p1, x.block < W.heap.size := fun x hx => by
    have := hW'.lt x (by rw [hpq, hp]; simp [hx])
    simpa using this
  have hn : (n : Int) ≤ 140737488355328 := by
    rcases hlen with h | ⟨es, sp, hd, hl⟩
    · omega
    · simp only at hd
      subst hd
      have := sized_slice (j := 1) hsz1 rfl rfl Tryd.underlying23
      rw [bytes34] at this
      exact small (by omega)
  refine (law tgt a b0 off n c R W hpk hat hn).mono fun e W' ⟨he, hb⟩ => ?_
  subst he
  exact ⟨_, rfl, _, _, _, [], p, q, hW', trodAll_mk1 (shut_bool Tryd.underlying4 _), by rw [hp]; exact trodAll_mk2 (shut_int Tryd.underlying22 wt) (Below.trod laidOut (by kernel_rfl) (of_decide_eq_true (by kernel_rfl)) h1k hb hlt), Below.trodVars laidOut hb rowed hV, hb.frame _, fun h => by cases h⟩

theorem over4 (law : ∀ (tgt : Int) (p : Option Addr) (b0 off n c : Nat) (R : Nat → Req) (w : World), (∀ k, k < n → p = some ⟨b0, off, none⟩) → (∀ k, k < n → At w b0 off k (R k)) → (n : Int) ≤ 140737488355328 →
      Calls Tryd.prog 4 #[.int .u64 tgt, .slice p n c] w fun e w' => e = .returned (.bool true) ∧ Below w.heap.size w w') : Rows.FnFollowRangeCoversAndSettlesSaid :=
  OpenClaim.holds_of_wide 4 Tryd.f4 rfl rfl rfl rfl rfl rfl rfl ⟨rfl, rfl, rfl, rfl, rfl⟩ rfl rfl rfl rfl rfl (by kernel_rfl) Tryd.func4 (by kernel_rfl)
    (of_decide_eq_true (by kernel_rfl)) (by unfold Func.isWrapper; first | (rw [if_pos (by decide +kernel)]; kernel_rfl) | (rw [if_neg (by decide +kernel)]; exact ⟨rfl, rfl⟩))
    (fun os started H enc _ => lifted4 law os started H enc)
end Go.Proofs.Qxb6614041aDoor.Lift4
