import Derived.Test.Qxb6614041aDoorBase
import Derived.RegionTactic
import Derived.Orders
namespace Go.Proofs.Qxb6614041aDoor.New
open Go.RowKit
open Go.Proofs.Qxb6614041aDoor.Base
set_option linter.unusedVariables false

theorem chan_any (W : World) : (Instr.makeChan 61 (.int .i64 0)).run Tryd.prog W = .ok (.chan (some W.heap.size)) (W.alloc (.chan 0 #[] false 0 0 false)) := by
  simp [Instr.makeChan, asInt, asIntOf]

def nt (b : Bool) : Nat := if b then 0 else 1

theorem ready_size {P : Program} {md : Region.Mode} {ops : Array Oper} {listed : Array Bool} {i : Nat} (h : i ∈ Region.ready md ops listed) : i < ops.size ∧ listed.getD i true = false := by
  obtain ⟨h1, o, ho, _⟩ := mem_ready.1 h
  exact ⟨(Array.getElem?_eq_some_iff.1 ho).1, h1⟩

/-- A region of nine operations: the first six wait for nobody and come in whatever order, each laying its value into its slot and new blocks alone; the last three wait for them. -/
theorem six_first {P : Program} {ops : Array Oper} {Q : Exit → Act → World → Prop} (w : World) (mk : Value → Value → Value → Value → Value → Value → Act) (k0 k1 k2 k3 k4 k5 : Value → Prop)
    (hsz : ops.size = 9) (hfree : ∀ i, i < 6 → ∃ o, ops[i]? = some o ∧ o.after = #[])
    (d6 : ∃ o, ops[6]? = some o ∧ ∀ j, j < 6 → ∃ e ∈ o.after, e.on = j ∧ Region.binds .any e = true) (d7 : ∃ o, ops[7]? = some o ∧ ∃ e ∈ o.after, e.on = 6 ∧ Region.binds .any e = true) (d8 : ∃ o, ops[8]? = some o ∧ ∃ e ∈ o.after, e.on = 7 ∧ Region.binds .any e = true)
    (s0 : ∀ a0 a1 a2 a3 a4 a5 W, Lay w W → ∀ K : Act → World → Prop, (∀ v W', k0 v → Lay w W' → K (mk v a1 a2 a3 a4 a5) W') → wpOp P ops Q 0 K (mk a0 a1 a2 a3 a4 a5) W)
    (s1 : ∀ a0 a1 a2 a3 a4 a5 W, Lay w W → ∀ K : Act → World → Prop, (∀ v W', k1 v → Lay w W' → K (mk a0 v a2 a3 a4 a5) W') → wpOp P ops Q 1 K (mk a0 a1 a2 a3 a4 a5) W)
    (s2 : ∀ a0 a1 a2 a3 a4 a5 W, Lay w W → ∀ K : Act → World → Prop, (∀ v W', k2 v → Lay w W' → K (mk a0 a1 v a3 a4 a5) W') → wpOp P ops Q 2 K (mk a0 a1 a2 a3 a4 a5) W)
    (s3 : ∀ a0 a1 a2 a3 a4 a5 W, Lay w W → ∀ K : Act → World → Prop, (∀ v W', k3 v → Lay w W' → K (mk a0 a1 a2 v a4 a5) W') → wpOp P ops Q 3 K (mk a0 a1 a2 a3 a4 a5) W)
    (s4 : ∀ a0 a1 a2 a3 a4 a5 W, Lay w W → ∀ K : Act → World → Prop, (∀ v W', k4 v → Lay w W' → K (mk a0 a1 a2 a3 v a5) W') → wpOp P ops Q 4 K (mk a0 a1 a2 a3 a4 a5) W)
    (s5 : ∀ a0 a1 a2 a3 a4 a5 W, Lay w W → ∀ K : Act → World → Prop, (∀ v W', k5 v → Lay w W' → K (mk a0 a1 a2 a3 a4 v) W') → wpOp P ops Q 5 K (mk a0 a1 a2 a3 a4 a5) W)
    (fin : ∀ a0 a1 a2 a3 a4 a5 W, Lay w W → k0 a0 → k1 a1 → k2 a2 → k3 a3 → k4 a4 → k5 a5 → wpAny P .any ops Q 3 #[true, true, true, true, true, true, false, false, false] (mk a0 a1 a2 a3 a4 a5) W) :
    ∀ (m : Nat) (l0 l1 l2 l3 l4 l5 : Bool) (a0 a1 a2 a3 a4 a5 : Value) (W : World), nt l0 + nt l1 + nt l2 + nt l3 + nt l4 + nt l5 = m → Lay w W →
      (l0 = true → k0 a0) → (l1 = true → k1 a1) → (l2 = true → k2 a2) → (l3 = true → k3 a3) → (l4 = true → k4 a4) → (l5 = true → k5 a5) →
      wpAny P .any ops Q (m + 3) #[l0, l1, l2, l3, l4, l5, false, false, false] (mk a0 a1 a2 a3 a4 a5) W := by
  intro m
  induction m with
  | zero =>
    intro l0 l1 l2 l3 l4 l5 a0 a1 a2 a3 a4 a5 W hm hl h0 h1 h2 h3 h4 h5
    cases l0 <;> cases l1 <;> cases l2 <;> cases l3 <;> cases l4 <;> cases l5 <;> simp [nt] at hm
    exact fin a0 a1 a2 a3 a4 a5 W hl (h0 rfl) (h1 rfl) (h2 rfl) (h3 rfl) (h4 rfl) (h5 rfl)
  | succ m ih =>
    intro l0 l1 l2 l3 l4 l5 a0 a1 a2 a3 a4 a5 W hm hl h0 h1 h2 h3 h4 h5
    refine ⟨fun hr => ?_, fun i hi => ?_⟩
    · exfalso
      have hnot : ∀ i, i < 6 → #[l0, l1, l2, l3, l4, l5, false, false, false].getD i true = true := fun i hi => by
        cases hg : #[l0, l1, l2, l3, l4, l5, false, false, false].getD i true with
        | true => rfl
        | false =>
          obtain ⟨o, ho, ha⟩ := hfree i hi
          have : i ∈ Region.ready .any ops #[l0, l1, l2, l3, l4, l5, false, false, false] := mem_ready.2 ⟨hg, o, ho, fun e he => by rw [ha] at he; simp at he⟩
          rw [hr] at this
          cases this
      have e0 := hnot 0 (by omega); have e1 := hnot 1 (by omega); have e2 := hnot 2 (by omega); have e3 := hnot 3 (by omega); have e4 := hnot 4 (by omega); have e5 := hnot 5 (by omega)
      simp at e0 e1 e2 e3 e4 e5
      subst e0 e1 e2 e3 e4 e5
      simp [nt] at hm
    · obtain ⟨hlt, hun⟩ := ready_size (P := P) hi
      obtain ⟨_, o, ho, hall⟩ := mem_ready.1 hi
      rw [hsz] at hlt
      rcases (show i = 0 ∨ i = 1 ∨ i = 2 ∨ i = 3 ∨ i = 4 ∨ i = 5 ∨ i = 6 ∨ i = 7 ∨ i = 8 by omega) with rfl | rfl | rfl | rfl | rfl | rfl | rfl | rfl | rfl
      · obtain rfl : l0 = false := by simpa using hun
        exact s0 _ _ _ _ _ _ W hl _ (fun v W' hv hl' => by simpa using ih true l1 l2 l3 l4 l5 v a1 a2 a3 a4 a5 W' (by simp [nt] at hm ⊢; omega) hl' (fun _ => hv) h1 h2 h3 h4 h5)
      · obtain rfl : l1 = false := by simpa using hun
        exact s1 _ _ _ _ _ _ W hl _ (fun v W' hv hl' => by simpa using ih l0 true l2 l3 l4 l5 a0 v a2 a3 a4 a5 W' (by simp [nt] at hm ⊢; omega) hl' h0 (fun _ => hv) h2 h3 h4 h5)
      · obtain rfl : l2 = false := by simpa using hun
        exact s2 _ _ _ _ _ _ W hl _ (fun v W' hv hl' => by simpa using ih l0 l1 true l3 l4 l5 a0 a1 v a3 a4 a5 W' (by simp [nt] at hm ⊢; omega) hl' h0 h1 (fun _ => hv) h3 h4 h5)
      · obtain rfl : l3 = false := by simpa using hun
        exact s3 _ _ _ _ _ _ W hl _ (fun v W' hv hl' => by simpa using ih l0 l1 l2 true l4 l5 a0 a1 a2 v a4 a5 W' (by simp [nt] at hm ⊢; omega) hl' h0 h1 h2 (fun _ => hv) h4 h5)
      · obtain rfl : l4 = false := by simpa using hun
        exact s4 _ _ _ _ _ _ W hl _ (fun v W' hv hl' => by simpa using ih l0 l1 l2 l3 true l5 a0 a1 a2 a3 v a5 W' (by simp [nt] at hm ⊢; omega) hl' h0 h1 h2 h3 (fun _ => hv) h5)
      · obtain rfl : l5 = false := by simpa using hun
        exact s5 _ _ _ _ _ _ W hl _ (fun v W' hv hl' => by simpa using ih l0 l1 l2 l3 l4 true a0 a1 a2 a3 a4 v W' (by simp [nt] at hm ⊢; omega) hl' h0 h1 h2 h3 h4 (fun _ => hv))
      · exfalso
        obtain ⟨o', ho', hd⟩ := d6
        obtain rfl : o = o' := by rw [ho] at ho'; exact Option.some.inj ho'
        have hT : ∀ j, j < 6 → #[l0, l1, l2, l3, l4, l5, false, false, false].getD j false = true := fun j hj => by
          obtain ⟨e, he, rfl, hb⟩ := hd j hj
          exact hall e he hb
        have e0 := hT 0 (by omega); have e1 := hT 1 (by omega); have e2 := hT 2 (by omega); have e3 := hT 3 (by omega); have e4 := hT 4 (by omega); have e5 := hT 5 (by omega)
        simp at e0 e1 e2 e3 e4 e5
        subst e0 e1 e2 e3 e4 e5
        simp [nt] at hm
      · exfalso
        obtain ⟨o', ho', e, he, heq, hb⟩ := d7
        obtain rfl : o = o' := by rw [ho] at ho'; exact Option.some.inj ho'
        have := hall e he hb
        rw [heq] at this
        simp at this
      · exfalso
        obtain ⟨o', ho', e, he, heq, hb⟩ := d8
        obtain rfl : o = o' := by rw [ho] at ho'; exact Option.some.inj ho'
        have := hall e he hb
        rw [heq] at this
        simp at this

def mk9 (a0 a1 a2 a3 a4 a5 : Value) : Act := { tmps := #[.pointer none, undef, a0, a1, a2, a3, a4, a5, undef, undef, undef, undef, undef, undef, undef], defers := [] }

set_option maxRecDepth 100000 in
set_option maxHeartbeats 1000000 in
theorem new9 (w : World) :
    Calls Tryd.prog 9 #[] w fun e w' => ∃ m, e = .returned (.pointer (some m)) ∧ Lay w w' := by
  have hmm := @run_makeMap Tryd.prog
  have hch := chan_any
  go_enter Tryd.func9, Tryd.ntmps9
  go_wp2
  refine wp_region_any (by kernel_rfl) ?_
  refine six_first w mk9 (fun v => ∃ p, v = .pointer p) (fun v => ∃ r, v = .map r) (fun v => ∃ r, v = .map r) (fun v => ∃ r, v = .map r) (fun v => ∃ r, v = .map r) (fun v => ∃ c, v = .chan c) rfl ?free ?d6 ?d7 ?d8 ?s0 ?s1 ?s2 ?s3 ?s4 ?s5 ?fin
    6 false false false false false false undef undef undef undef undef undef _ rfl (Lay.refl w).drew (by simp) (by simp) (by simp) (by simp) (by simp) (by simp)
  case free =>
    intro i hi
    rcases (show i = 0 ∨ i = 1 ∨ i = 2 ∨ i = 3 ∨ i = 4 ∨ i = 5 by omega) with rfl | rfl | rfl | rfl | rfl | rfl <;> exact ⟨_, rfl, rfl⟩
  case d6 =>
    refine ⟨_, rfl, ?_⟩
    intro j hj
    rcases (show j = 0 ∨ j = 1 ∨ j = 2 ∨ j = 3 ∨ j = 4 ∨ j = 5 by omega) with rfl | rfl | rfl | rfl | rfl | rfl <;> simp [Region.binds]
  case d7 => exact ⟨_, rfl, by simp [Region.binds]⟩
  case d8 => exact ⟨_, rfl, by simp [Region.binds]⟩
  case s1 =>
    intro a0 a1 a2 a3 a4 a5 W hl K hK
    refine wpOp_step rfl (fun K' hK' => ?_)
    unfold mk9
    go_simp
    exact hK' _ _ (hK _ _ ⟨_, rfl⟩ (hl.alloc _))
  case s2 =>
    intro a0 a1 a2 a3 a4 a5 W hl K hK
    refine wpOp_step rfl (fun K' hK' => ?_)
    unfold mk9
    go_simp
    exact hK' _ _ (hK _ _ ⟨_, rfl⟩ (hl.alloc _))
  case s3 =>
    intro a0 a1 a2 a3 a4 a5 W hl K hK
    refine wpOp_step rfl (fun K' hK' => ?_)
    unfold mk9
    go_simp
    exact hK' _ _ (hK _ _ ⟨_, rfl⟩ (hl.alloc _))
  case s4 =>
    intro a0 a1 a2 a3 a4 a5 W hl K hK
    refine wpOp_step rfl (fun K' hK' => ?_)
    unfold mk9
    go_simp
    exact hK' _ _ (hK _ _ ⟨_, rfl⟩ (hl.alloc _))
  case s5 =>
    intro a0 a1 a2 a3 a4 a5 W hl K hK
    refine wpOp_step rfl (fun K' hK' => ?_)
    unfold mk9
    go_simp
    exact hK' _ _ (hK _ _ ⟨_, rfl⟩ (hl.alloc _))
  case s0 =>
    intro a0 a1 a2 a3 a4 a5 W hl K hK
    refine wpOp_step rfl (fun K' hK' => ?_)
    unfold mk9
    go_simp
    refine (group20 _ _).mono ?_
    rintro e w1 ⟨g, rfl, h1, h2, h3, h4⟩
    go_simp
    exact hK' _ _ (hK _ _ ⟨_, rfl⟩ (hl.trans h4))
  case fin =>
    rintro a0 a1 a2 a3 a4 a5 W hl ⟨p, rfl⟩ ⟨r1, rfl⟩ ⟨r2, rfl⟩ ⟨r3, rfl⟩ ⟨r4, rfl⟩ ⟨c, rfl⟩
    unfold mk9
    refine wpAny_ready (rs := [6]) (by kernel_rfl) (by simp) (AllReady.cons rfl (fun K hK => ?_) AllReady.nil)
    go_simp
    refine hK _ _ ?_
    clear hK K
    refine wpAny_ready (rs := [7]) (by kernel_rfl) (by simp) (AllReady.cons rfl (fun K hK => ?_) AllReady.nil)
    go_simp
    refine hK _ _ ?_
    clear hK K
    refine wpAny_ready (rs := [8]) (by kernel_rfl) (by simp) (AllReady.cons rfl (fun K hK => ?_) AllReady.nil)
    go_simp
    refine hK _ _ ?_
    clear hK K
    refine wpAny_done (by kernel_rfl) ?_ _
    go_wp2
    go_ret
    exact ⟨_, rfl, hl.alloc _⟩
end Go.Proofs.Qxb6614041aDoor.New
