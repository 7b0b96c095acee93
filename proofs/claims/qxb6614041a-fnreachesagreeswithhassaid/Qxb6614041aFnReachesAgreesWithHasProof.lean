/-
  for every input the Go law FnReachesAgreesWithHas returns true. The frame is the shell that was given with the seat; the walk is ours.
-/
import Derived.Test.Qxb6614041aRows
import Derived.WalkKit
import Derived.ProofKit
import Derived.OpenShut
import Derived.ShutString
import Derived.Test.Qxb6614041aReach
namespace Go.Proofs.Qxb6614041a.fnReachesAgreesWithHas
open Go.ChangeShapes Go.WideShapes Go.ChangeAt Go.RowKit
open Go.ChangeMaps (open_string shut_string)
set_option linter.unusedVariables false      -- a walk need not use every 'w<i>' (that an integer argument fits its kind)

theorem own : ownKnob Try.prog.godebug = none := by kernel_rfl

/-! ### STEP 1: THE WALK: the Go text returns true. 'Grown w w'': the world has at most new blocks (Derived/RowKit3.lean). Part the cases AHEAD of 'go_enter' where a test parts the walk; take each callee by a contract of your own. -/
set_option maxHeartbeats 2000000 in
theorem walk (a0 : ByteArray) (a1 : ByteArray) (a2 : Bool) (a3 : ByteArray) (w0 : a0.size ≤ maxLen) (w1 : a1.size ≤ maxLen) (w3 : a3.size ≤ maxLen) (w : World) :
    Calls Try.prog 3 #[.string a0, .string a1, .bool a2, .string a3] w fun e w' => e = .returned (.bool true) ∧ Grown w w' := by
  have k := w0; have k1 := w1; have k3 := w3
  unfold maxLen at w0 w1 w3
  by_cases l0 : (262144 : Int) < a0.size
  · go_enter Try.func3, Try.ntmps3
    go_wp2_with (go_at_call 5; refine (Reach.bytesA _ _ _ _ k k1 k3 _).mono ?_; rintro e w' ⟨⟨b, rfl⟩, rfl⟩)
    all_goals (go_ret; exact ⟨rfl, Grown.refl _⟩)
  by_cases l1 : (262144 : Int) < a1.size
  · go_enter Try.func3, Try.ntmps3
    go_wp2_with (go_at_call 5; refine (Reach.bytesA _ _ _ _ k k1 k3 _).mono ?_; rintro e w' ⟨⟨b, rfl⟩, rfl⟩)
    all_goals (go_ret; exact ⟨rfl, Grown.refl _⟩)
  by_cases l3 : (262144 : Int) < a3.size
  · go_enter Try.func3, Try.ntmps3
    go_wp2_with (go_at_call 5; refine (Reach.bytesA _ _ _ _ k k1 k3 _).mono ?_; rintro e w' ⟨⟨b, rfl⟩, rfl⟩)
    all_goals (go_ret; exact ⟨rfl, Grown.refl _⟩)
  go_enter Try.func3, Try.ntmps3
  go_wp2_with fail
  refine (Reach.bytesA _ _ _ _ k k1 k3 _).mono ?_
  rintro e w' ⟨⟨b, rfl⟩, rfl⟩
  cases b
  · go_wp2
    go_ret
    exact ⟨rfl, Grown.refl _⟩
  cases h1 : Op.bytesLess a3.toList a0.toList
  · have h4 := Reach.tri a3.toList a1.toList
    cases h2 : Op.bytesLess a3.toList a1.toList <;> cases h3 : (a3.toList == a1.toList) <;> rw [h2, h3] at h4 <;> cases a2
    all_goals
      go_wp2_with fail
      refine (Reach.has6 _ _ _ _ _).mono ?_
      rintro e w1 ⟨rfl, hb, hg⟩
      rw [h1, h2]
      have hc0 := hb.cell (p := ⟨w'.heap.size, 0, none⟩) (by simp)
      have hc1 := hb.cell (p := ⟨w'.heap.size, 1, none⟩) (by simp)
      have hc2 := hb.cell (p := ⟨w'.heap.size, 2, none⟩) (by simp)
      simp only [go_sem] at hc0 hc1 hc2
      go_wp2_with fail
      refine (Reach.reaches7 _ _ _ _ _).mono ?_
      rintro e w2 ⟨rfl, hb2, hg2⟩
      rw [h4]
      go_wp2
      go_ret
      exact ⟨rfl, Reach.grown_trans (Reach.grown_trans ((Grown.refl _).alloc _ _) hg) hg2⟩
  · go_wp2
    go_ret
    exact ⟨rfl, Grown.refl _⟩

/-! ### THE ROW's STEP: WRITTEN OUT: LEAVE IT -/
set_option maxRecDepth 100000 in
theorem lifted (os : Os) (started : os.Started) (H : Type) (enc : TypeId × Value → H) :
    ReturnsInHanded {} Try.checked os 3 .any (Rows.fnReachesAgreesWithHasSpec.pre6 enc Try.prog Try.f3 Rows.fnReachesAgreesWithHasRow.domain false) (Rows.fnReachesAgreesWithHasSpec.post enc Try.prog Try.f3 false true false false) := by
  refine returnsInHanded_of_change (C := Try.checked) own started (by kernel_rfl) Try.func3
    (ChangeSpec.witness6 (enc := enc) (C := Try.checked) false ⟨#[], #[.string ByteArray.empty, .string ByteArray.empty, .bool false, .string ByteArray.empty], []⟩ 8 (by kernel_rfl) (by kernel_rfl) (by kernel_rfl) (by kernel_rfl)) ?_
  intro W base args ds gs before hval0 hW hcnd _
  have hval : ∀ (j : Nat) t v, Try.f3.params[j]? = some t → args[j]? = some v → Value.okWide Try.prog W .any base t v := hval0
  have hW' := hW
  obtain ⟨p, q, hA0, hV, rfl, hfz, hnd⟩ := hW
  have hA : DataW.TrodAll enc Try.prog W 0 (fun _ => true) true Try.f3.params.toList args.toList ds p := hA0
  rw [Try.params3] at hA hval
  obtain ⟨v0, vs0, d0, ds0, p0, q0, hargs, rfl, rfl, h0, r0⟩ := trodAll_cons hA
  obtain ⟨v1, vs1, d1, ds1, p1, q1, rfl, rfl, rfl, h1, r1⟩ := trodAll_cons r0
  obtain ⟨v2, vs2, d2, ds2, p2, q2, rfl, rfl, rfl, h2, r2⟩ := trodAll_cons r1
  obtain ⟨v3, vs3, d3, ds3, p3, q3, rfl, rfl, rfl, h3, r3⟩ := trodAll_cons r2
  obtain ⟨rfl, rfl, rfl⟩ := trodAll_nil r3
  obtain rfl : args = #[v0, v1, v2, v3] := by cases args; simp_all
  obtain ⟨rfl, rfl⟩ := trodVars_none hV
  obtain ⟨a0, rfl, rfl, rfl, w0⟩ := open_string Try.underlying9 (hval 0 9 v0 rfl rfl) h0
  obtain ⟨a1, rfl, rfl, rfl, w1⟩ := open_string Try.underlying9 (hval 1 9 v1 rfl rfl) h1
  obtain ⟨a2, rfl, rfl, rfl⟩ := open_bool Try.underlying4 (hval 2 4 v2 rfl rfl) h2
  obtain ⟨a3, rfl, rfl, rfl, w3⟩ := open_string Try.underlying9 (hval 3 9 v3 rfl rfl) h3
  clear hA0 hval0
  simp only [List.append_nil] at hW'
  refine (walk a0 a1 a2 a3 w0 w1 w3 W).mono fun e W' ⟨he, hg⟩ => ?_
  subst he
  exact ⟨_, rfl, post_of_same (pa := []) (pv := []) hW' (fun _ _ _ => (trodAll_cons_mk (shut_bool Try.underlying4 _) trodAll_mk0)) (fun sp _ => (trodAll_cons_mk (shut_string Try.underlying9 w0) (trodAll_cons_mk (shut_string Try.underlying9 w1) (trodAll_cons_mk (shut_bool Try.underlying4 _) (trodAll_cons_mk (shut_string Try.underlying9 w3) trodAll_mk0))))) (fun _ _ => rfl) rfl
    (hg.frame _) hg.2.1 (ok_one (by kernel_rfl) rfl (okWide_bool_mk Try.underlying4 _))⟩

theorem over : Rows.fnReachesAgreesWithHasRow.holds Try.pinned (OpenSpec.ofChange Rows.fnReachesAgreesWithHasSpec) :=
  OpenClaim.holds_of_wide 3 Try.f3 rfl rfl rfl rfl rfl rfl rfl ⟨rfl, rfl, rfl, rfl, rfl⟩ rfl rfl rfl rfl rfl (by kernel_rfl) Try.func3 (by kernel_rfl)
    (of_decide_eq_true (by kernel_rfl)) (by unfold Func.isWrapper; first | (rw [if_pos (by decide +kernel)]; kernel_rfl) | (rw [if_neg (by decide +kernel)]; exact ⟨rfl, rfl⟩))
    (fun os started H enc _ => lifted os started H enc)

/-- ████ THE STATEMENT ████ -/
theorem proved : Rows.FnReachesAgreesWithHasSaid :=
  over
end Go.Proofs.Qxb6614041a.fnReachesAgreesWithHas
