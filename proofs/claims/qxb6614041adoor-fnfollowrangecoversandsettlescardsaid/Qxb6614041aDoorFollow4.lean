import Derived.Test.Qxb6614041aDoorSwept4
import Derived.Deep.AppendLies
import Derived.LaidEqlPtr
import Derived.Deep.RegionLaw
namespace Go.Proofs.Qxb6614041aDoor.Follow
open Go.ChangeShapes Go.WideShapes Go.ChangeAt Go.RowKit
open Go.Proofs.Qxb6614041aDoor.Base
set_option linter.unusedVariables false

theorem info117 : (Tryd.prog.info? 117).map (·.size) = some 20 := by kernel_rfl
theorem eq_same (g : Nat) (W : World) : (binOp .eql 26 (.pointer (some ⟨g, 0, none⟩)) (.pointer (some ⟨g, 0, none⟩))).run Tryd.prog W = .ok (.bool true) W := by
  have hi := info117
  cases hj : Tryd.prog.info? 117 with
  | none => rw [hj] at hi; cases hi
  | some j => exact run_eql_ptr_same W _ Tryd.underlying26 hj
theorem eq_other {g h : Nat} (hne : g ≠ h) {W : World} (hg : ∃ cg, W.heap[g]? = some (.cells cg 117 (0, 0))) (hh : ∃ cg, W.heap[h]? = some (.cells cg 117 (0, 0))) :
    (binOp .eql 26 (.pointer (some ⟨g, 0, none⟩)) (.pointer (some ⟨h, 0, none⟩))).run Tryd.prog W = .ok (.bool false) W := by
  have hi := info117
  cases hj : Tryd.prog.info? 117 with
  | none => rw [hj] at hi; cases hi
  | some j =>
    rw [hj] at hi
    obtain ⟨cg, hg⟩ := hg
    obtain ⟨ch, hh⟩ := hh
    exact run_eql_ptr_other W Tryd.underlying26 hj (by simp at hi; omega) (fun e => hne (by cases e; rfl)) hg hh

/-- what the region reads, behind a call that lays new blocks alone -/
theorem keepR {W v v' : World} {q p q' : Nat} {a0 a1 a2 a3 a4 a5 b1 b2 b3 b4 b5 : Value} (hl : Lay v v')
    (h : v.cell? ⟨q, 0, none⟩ = some a0 ∧ v.cell? ⟨p, 3, none⟩ = some a1 ∧ v.cell? ⟨p, 7, none⟩ = some a2 ∧ v.cell? ⟨p, 8, none⟩ = some a3 ∧ v.cell? ⟨p, 9, none⟩ = some a4 ∧ v.cell? ⟨p, 16, none⟩ = some a5
      ∧ v.cell? ⟨q', 3, none⟩ = some b1 ∧ v.cell? ⟨q', 7, none⟩ = some b2 ∧ v.cell? ⟨q', 8, none⟩ = some b3 ∧ v.cell? ⟨q', 9, none⟩ = some b4 ∧ v.cell? ⟨q', 16, none⟩ = some b5 ∧ Lay W v) :
    v'.cell? ⟨q, 0, none⟩ = some a0 ∧ v'.cell? ⟨p, 3, none⟩ = some a1 ∧ v'.cell? ⟨p, 7, none⟩ = some a2 ∧ v'.cell? ⟨p, 8, none⟩ = some a3 ∧ v'.cell? ⟨p, 9, none⟩ = some a4 ∧ v'.cell? ⟨p, 16, none⟩ = some a5
      ∧ v'.cell? ⟨q', 3, none⟩ = some b1 ∧ v'.cell? ⟨q', 7, none⟩ = some b2 ∧ v'.cell? ⟨q', 8, none⟩ = some b3 ∧ v'.cell? ⟨q', 9, none⟩ = some b4 ∧ v'.cell? ⟨q', 16, none⟩ = some b5 ∧ Lay W v' := by
  obtain ⟨h0, h1, h2, h3, h4, h5, h6, h7, h8, h9, h10, h11⟩ := h
  exact ⟨(hl.cell (lt_of_cell h0)).trans h0, (hl.cell (lt_of_cell h1)).trans h1, (hl.cell (lt_of_cell h2)).trans h2, (hl.cell (lt_of_cell h3)).trans h3, (hl.cell (lt_of_cell h4)).trans h4, (hl.cell (lt_of_cell h5)).trans h5,
    (hl.cell (lt_of_cell h6)).trans h6, (hl.cell (lt_of_cell h7)).trans h7, (hl.cell (lt_of_cell h8)).trans h8, (hl.cell (lt_of_cell h9)).trans h9, (hl.cell (lt_of_cell h10)).trans h10, h11.trans hl⟩

theorem end_plain {R : Ending → World → Prop} {tmps : Array Value} {w : World} (h : R (.returned (.tuple #[])) w) : bodyPostM Fence.wide 3 Tryd.prog Tryd.f22 R .ret { tmps := tmps, defers := [] } w :=
  ⟨_, results_none rfl _ _ _, h⟩
theorem end_marked {R : Ending → World → Prop} {tmps : Array Value} {w : World} {D : Nat} (hD : w.heap[D]? = some (.deferred (some []))) (h : R (.returned (.tuple #[])) (w.putObj D (.deferred none))) :
    bodyPostM Fence.wide 3 Tryd.prog Tryd.f22 R .normal { tmps := tmps, defers := [{ target := .collected D, args := #[] }] } w :=
  ⟨by simp, .inl ⟨_, _, rfl, run_takeDeferred hD, ⟨_, results_none rfl _ _ _, h⟩⟩⟩

theorem keepQ {v v' : World} {q q' : Nat} {a0 b1 b2 b3 b4 : Value} (hl : Lay v v')
    (h : v.cell? ⟨q, 0, none⟩ = some a0 ∧ v.cell? ⟨q', 3, none⟩ = some b1 ∧ v.cell? ⟨q', 7, none⟩ = some b2 ∧ v.cell? ⟨q', 8, none⟩ = some b3 ∧ v.cell? ⟨q', 9, none⟩ = some b4) :
    v'.cell? ⟨q, 0, none⟩ = some a0 ∧ v'.cell? ⟨q', 3, none⟩ = some b1 ∧ v'.cell? ⟨q', 7, none⟩ = some b2 ∧ v'.cell? ⟨q', 8, none⟩ = some b3 ∧ v'.cell? ⟨q', 9, none⟩ = some b4 := by
  obtain ⟨h0, h1, h2, h3, h4⟩ := h
  exact ⟨(hl.cell (lt_of_cell h0)).trans h0, (hl.cell (lt_of_cell h1)).trans h1, (hl.cell (lt_of_cell h2)).trans h2, (hl.cell (lt_of_cell h3)).trans h3, (hl.cell (lt_of_cell h4)).trans h4⟩

theorem cell_new (X : World) (x : Array Value) (ty : TypeId) (v : Value) (h : x[0]? = some v) : (X.alloc (.cells x ty)).cell? ⟨X.heap.size, 0, none⟩ = some v := by
  have h' := (MapKept.heap_alloc X (.cells x ty)).1
  unfold World.cell?
  rw [h']
  exact h
theorem three_cells (X : World) (x y z : Array Value) (t1 t2 t3 : TypeId) (vx vy vz : Value) (hx : x[0]? = some vx) (hy : y[0]? = some vy) (hz : z[0]? = some vz) :
    ((((X.alloc (.cells x t1)).alloc (.cells y t2)).alloc (.cells z t3)).drew).cell? ⟨X.heap.size, 0, none⟩ = some vx
    ∧ ((((X.alloc (.cells x t1)).alloc (.cells y t2)).alloc (.cells z t3)).drew).cell? ⟨X.heap.size + 1, 0, none⟩ = some vy
    ∧ ((((X.alloc (.cells x t1)).alloc (.cells y t2)).alloc (.cells z t3)).drew).cell? ⟨X.heap.size + 1 + 1, 0, none⟩ = some vz := by
  have e1 : (X.alloc (.cells x t1)).heap.size = X.heap.size + 1 := by simp
  have e2 : ((X.alloc (.cells x t1)).alloc (.cells y t2)).heap.size = X.heap.size + 1 + 1 := by simp
  have a1 := cell_new X x t1 vx hx
  have a2 := cell_new (X.alloc (.cells x t1)) y t2 vy hy
  have a3 := cell_new ((X.alloc (.cells x t1)).alloc (.cells y t2)) z t3 vz hz
  rw [e1] at a2
  rw [e2] at a3
  have l1 : Lay (X.alloc (.cells x t1)) ((((X.alloc (.cells x t1)).alloc (.cells y t2)).alloc (.cells z t3)).drew) := (((Lay.refl _).alloc _).alloc _).drew
  have l2 : Lay ((X.alloc (.cells x t1)).alloc (.cells y t2)) ((((X.alloc (.cells x t1)).alloc (.cells y t2)).alloc (.cells z t3)).drew) := ((Lay.refl _).alloc _).drew
  exact ⟨(l1.cell (lt_of_cell a1)).trans a1, (l2.cell (lt_of_cell a2)).trans a2, a3⟩

theorem info35 : (Tryd.prog.info? 35).map (fun i => (i.zero, i.size, i.bytes)) = some (some (.pointer none), 1, 8) := by kernel_rfl

theorem next_no {L : List SQ} {t s : SQ} {k : Nat} (hlt : k < L.length) (h : ∀ j (hj : j < L.length), j < k → covB L[j] t = false) (hs : s = L[k]) (hc : covB s t = false) :
    ∀ j (hj : j < L.length), j < k + 1 → covB L[j] t = false := fun j hj hjk => by
  by_cases e : j = k
  · subst e; rw [← hs]; exact hc
  · exact h j hj (by omega)

set_option maxRecDepth 100000 in
set_option maxHeartbeats 8000000 in
theorem follow22 (base b : Nat) (sv : Value) (L : List SQ) (t : SQ) (w : World) (hS : Swept w base b sv L) (ht : t.In w) (hL : L.length ≤ 4096) (hbase : base ≤ w.heap.size) :
    Calls Tryd.prog 22 #[.pointer (some ⟨b, 0, none⟩), .pointer (some ⟨t.blk, 0, none⟩)] w fun e w' => someEnd e ∧ Done w w' base b sv L t := by
  obtain ⟨⟨⟨cw, hcw⟩, hw1, hw3, hw7, hf7⟩, hrow, hreqs⟩ := hS
  obtain ⟨p, n, c, hsv, hn⟩ : ∃ p n c, sv = .slice p n c ∧ n = L.length := by
    obtain ⟨_, ⟨h, h0⟩ | ⟨g, cap, cur, h, _⟩⟩ := hrow
    · exact ⟨_, _, _, h, by omega⟩
    · exact ⟨_, _, _, h, rfl⟩
  subst hsv
  subst hn
  have Hrow : Hid (w.ownsRow base 35 1 (.slice p L.length c) L.length (L.map SQ.ptr)) := hrow
  have Hreqs : Hid (∀ s ∈ L, s.In w) := hreqs
  have Ht : Hid (t.In w) := ht
  have hb := lt_of_heap hcw
  have hq := lt_of_heap ht.1.1.choose_spec
  have Hcw : Hid (w.heap[b]? = some (.cells cw 56 (0, 0))) := hcw
  clear hrow hreqs ht hcw
  refine (callsIn_wide (n := 3)).1 ?_
  refine callsIn_of_wp_marks Tryd.func22 rfl trivial ?_
  refine wpIn_wide.2 ?_
  simp only [Tryd.ntmps22, List.size_toArray, List.length_cons, List.length_nil, Nat.reduceAdd, Nat.reduceSub, Array.replicate_succ, Array.replicate_zero, List.push_toArray, List.append_toArray, List.nil_append, List.cons_append]
  go_wp2_with fail
  obtain ⟨W0, hW0⟩ : ∃ W0, (w.alloc (Obj.cells #[Value.pointer (some ⟨b, 0, none⟩)] 28)).alloc (Obj.cells #[Value.pointer (some ⟨t.blk, 0, none⟩)] 35) = W0 := ⟨_, rfl⟩
  have hl0 : Lay w W0 := by rw [← hW0]; exact ((Lay.refl w).alloc _).alloc _
  have hB0 : W0.cell? ⟨w.heap.size, 0, none⟩ = some (.pointer (some ⟨b, 0, none⟩)) := by rw [← hW0]; simp
  have hQ0 : W0.cell? ⟨w.heap.size + 1, 0, none⟩ = some (.pointer (some ⟨t.blk, 0, none⟩)) := by rw [← hW0]; simp
  rw [hW0]
  clear hW0
  have HB0 : Hid (W0.cell? ⟨w.heap.size, 0, none⟩ = some (.pointer (some ⟨b, 0, none⟩))) := hB0
  have HQ0 : Hid (W0.cell? ⟨w.heap.size + 1, 0, none⟩ = some (.pointer (some ⟨t.blk, 0, none⟩))) := hQ0
  have Hw7 : Hid (w.cell? ⟨b, 7, none⟩ = some (.slice p L.length c)) := hw7
  have Hf7 : Hid (w.frozen? ⟨b, 7, none⟩ = false) := hf7
  have Hw1 : Hid (w.cell? ⟨b, 1, none⟩ = some (.bool false)) := hw1
  have Hw3 : Hid (w.cell? ⟨b, 3, none⟩ = some (.slice none 0 0)) := hw3
  clear hB0 hQ0 hw7 hf7 hw1 hw3
  go_loopw [14] (fun i wr => ∃ k : Nat, k ≤ L.length ∧ i = .int .i64 k ∧ (∀ j (hj : j < L.length), j < k → covB L[j] t = false) ∧ Lay W0 wr) (fun i _ => L.length - (intOf i).toNat)
  case atStart => exact ⟨0, by omega, rfl, fun j hj h => by omega, Lay.refl _⟩
  case round =>
    obtain ⟨k, hk, rfl, hno, hlr⟩ := hrel
    have Hno : Hid (∀ j (hj : j < L.length), j < k → covB L[j] t = false) := hno
    clear hno
    by_cases hlt : k < L.length
    · obtain ⟨rb, cap, hsv, hcell⟩ := row_at Hrow.out hlt
      obtain ⟨rfl, rfl⟩ : p = some ⟨rb, 0, none⟩ ∧ c = cap := by simpa using hsv
      have hl := hl0.trans hlr
      have hks : w.cell? ⟨rb, k, none⟩ = some (L[k].ptr) := hcell k hlt
      have hIs : L[k].In w := Hreqs.out _ (List.getElem_mem hlt)
      obtain ⟨s, hs⟩ : ∃ s, s = L[k] := ⟨_, rfl⟩
      rw [← hs] at hks hIs
      have Hs : Hid (s = L[k]) := hs
      clear hs hsv hcell
      have c0 : wr.cell? ⟨rb, k, none⟩ = some (.pointer (some ⟨s.blk, 0, none⟩)) := (hl.cell (lt_of_cell hks)).trans hks
      have c1 : wr.cell? ⟨w.heap.size, 0, none⟩ = some (.pointer (some ⟨b, 0, none⟩)) := (hlr.cell (lt_of_cell HB0.out)).trans HB0.out
      have c2 : wr.cell? ⟨w.heap.size + 1, 0, none⟩ = some (.pointer (some ⟨t.blk, 0, none⟩)) := (hlr.cell (lt_of_cell HQ0.out)).trans HQ0.out
      obtain ⟨⟨⟨cs1, hcs1⟩, s3, s7, s8, s9, s16⟩, sG, sG'⟩ := hIs.lay hl
      obtain ⟨⟨⟨ct1, hct1⟩, t3, t7, t8, t9, t16⟩, tG, tG'⟩ := Ht.out.lay hl
      have i1 : (0 : Int) ≤ (k : Int) := by omega
      have i2 : (k : Int) < (L.length : Int) := by omega
      clear hks hcs1 hct1 sG' tG'
      by_cases hg : s.grp = t.grp
      · have heq : ∀ W, (binOp .eql 26 (.pointer (some ⟨t.grp, 0, none⟩)) (.pointer (some ⟨t.grp, 0, none⟩))).run Tryd.prog W = .ok (.bool true) W := eq_same t.grp
        rw [hg] at s3
        by_cases hseq : t.seq ≤ s.seq
        · have hcv : covB s t = withinB t.fr t.to t.unb s.fr s.to s.unb := by simp [covB, hg, hseq]
          have Hcv : Hid (covB s t = withinB t.fr t.to t.unb s.fr s.to s.unb) := hcv
          clear hcv hg sG tG
          cases hwi : withinB t.fr t.to t.unb s.fr s.to s.unb
          · have Hwi : Hid (withinB t.fr t.to t.unb s.fr s.to s.unb = false) := hwi
            clear hwi
            go_wp2_with fail
            go_region_held3 (fun v => v.cell? ⟨w.heap.size + 1, 0, none⟩ = some (.pointer (some ⟨t.blk, 0, none⟩))
                ∧ v.cell? ⟨s.blk, 3, none⟩ = some (.pointer (some ⟨t.grp, 0, none⟩)) ∧ v.cell? ⟨s.blk, 7, none⟩ = some (.string s.fr) ∧ v.cell? ⟨s.blk, 8, none⟩ = some (.string s.to) ∧ v.cell? ⟨s.blk, 9, none⟩ = some (.bool s.unb) ∧ v.cell? ⟨s.blk, 16, none⟩ = some (.int .u64 s.seq)
                ∧ v.cell? ⟨t.blk, 3, none⟩ = some (.pointer (some ⟨t.grp, 0, none⟩)) ∧ v.cell? ⟨t.blk, 7, none⟩ = some (.string t.fr) ∧ v.cell? ⟨t.blk, 8, none⟩ = some (.string t.to) ∧ v.cell? ⟨t.blk, 9, none⟩ = some (.bool t.unb) ∧ v.cell? ⟨t.blk, 16, none⟩ = some (.int .u64 t.seq) ∧ Lay wr v)
              (first | assumption | (refine ⟨by simpa using c2, by simpa using s3, by simpa using s7, by simpa using s8, by simpa using s9, by simpa using s16, by simpa using t3, by simpa using t7, by simpa using t8, by simpa using t9, by simpa using t16, (Lay.refl wr).drew⟩) | (refine keepR hlay ?_; assumption))
              (first | (go_at_call 23; refine (within23 _ _ _ _ _ _ _).mono ?_; rintro e w1 ⟨rfl, hlay⟩))
            rename_i hS
            rw [Hwi.out]
            go_wp2
            exact ⟨⟨k + 1, by omega, by go_num, next_no hlt Hno.out Hs.out (Hcv.out.trans Hwi.out), hlr.trans hS.2.2.2.2.2.2.2.2.2.2.2⟩, by simp [intOf]; omega⟩
          · have Hwi : Hid (withinB t.fr t.to t.unb s.fr s.to s.unb = true) := hwi
            clear hwi
            go_wp2_with fail
            go_region_held3 (fun v => v.cell? ⟨w.heap.size + 1, 0, none⟩ = some (.pointer (some ⟨t.blk, 0, none⟩))
                ∧ v.cell? ⟨s.blk, 3, none⟩ = some (.pointer (some ⟨t.grp, 0, none⟩)) ∧ v.cell? ⟨s.blk, 7, none⟩ = some (.string s.fr) ∧ v.cell? ⟨s.blk, 8, none⟩ = some (.string s.to) ∧ v.cell? ⟨s.blk, 9, none⟩ = some (.bool s.unb) ∧ v.cell? ⟨s.blk, 16, none⟩ = some (.int .u64 s.seq)
                ∧ v.cell? ⟨t.blk, 3, none⟩ = some (.pointer (some ⟨t.grp, 0, none⟩)) ∧ v.cell? ⟨t.blk, 7, none⟩ = some (.string t.fr) ∧ v.cell? ⟨t.blk, 8, none⟩ = some (.string t.to) ∧ v.cell? ⟨t.blk, 9, none⟩ = some (.bool t.unb) ∧ v.cell? ⟨t.blk, 16, none⟩ = some (.int .u64 t.seq) ∧ Lay wr v)
              (first | assumption | (refine ⟨by simpa using c2, by simpa using s3, by simpa using s7, by simpa using s8, by simpa using s9, by simpa using s16, by simpa using t3, by simpa using t7, by simpa using t8, by simpa using t9, by simpa using t16, (Lay.refl wr).drew⟩) | (refine keepR hlay ?_; assumption))
              (first | (go_at_call 23; refine (within23 _ _ _ _ _ _ _).mono ?_; rintro e w1 ⟨rfl, hlay⟩))
            rename_i hS
            rw [Hwi.out]
            go_wp2
            have hany : L.any (covB · t) = true := List.any_eq_true.2 ⟨s, by rw [Hs.out]; exact List.getElem_mem hlt, Hcv.out.trans Hwi.out⟩
            have hlw : Lay w w1 := hl.trans hS.2.2.2.2.2.2.2.2.2.2.2
            have hend : Done w w1 base b (.slice (some ⟨rb, 0, none⟩) L.length c) L t := by
              refine ⟨.slice (some ⟨rb, 0, none⟩) L.length c, ?_, hlw.moved _ _, .inl rfl, fun _ => hlw⟩
              rw [show stepL L t = L from by simp [stepL, hany]]
              exact ⟨(show IsWalk w b _ from ⟨⟨cw, Hcw.out⟩, Hw1.out, Hw3.out, Hw7.out, Hf7.out⟩).lay hlw, Hrow.out.kept (Iter.grown_of_lay hlw) (.inr (by simp [Value.ownBlock])), fun s hs => (Hreqs.out s hs).lay hlw⟩
            exact end_plain ⟨⟨_, rfl⟩, hend⟩
        · have hcov : covB s t = false := by simp [covB, hg, hseq]
          have Hcov : Hid (covB s t = false) := hcov
          have hd : decide (t.seq ≤ s.seq) = false := by simpa using hseq
          clear hcov hg sG tG s7 s8 s9 t7 t8 t9 hseq
          go_wp2_with fail
          go_quiet (fail)
          go_wp2
          exact ⟨⟨k + 1, by omega, by go_num, next_no hlt Hno.out Hs.out Hcov.out, hlr.drewN nq⟩, by simp [intOf]; omega⟩
      · have hcov : covB s t = false := by simp [covB, hg]
        have heq : ∀ m, (binOp .eql 26 (.pointer (some ⟨s.grp, 0, none⟩)) (.pointer (some ⟨t.grp, 0, none⟩))).run Tryd.prog (wr.drewN m) = .ok (.bool false) (wr.drewN m) := fun m => eq_other hg (by simpa using sG) (by simpa using tG)
        have Hcov : Hid (covB s t = false) := hcov
        clear hcov hg sG tG s7 s8 s9 s16 t7 t8 t9 t16
        go_wp2_with fail
        go_quiet (fail)
        go_wp2
        exact ⟨⟨k + 1, by omega, by go_num, next_no hlt Hno.out Hs.out Hcov.out, hlr.drewN nq⟩, by simp [intOf]; omega⟩
    · obtain rfl : k = L.length := by omega
      have hnone : L.any (covB · t) = false := by
        rw [List.any_eq_false]
        intro s hs
        obtain ⟨j, hj, rfl⟩ := List.getElem_of_mem hs
        simp [Hno.out j hj hj]
      have Hst : Hid (stepL L t = L ++ [t]) := by show _ = _; simp [stepL, hnone]
      clear hnone
      have hl := hl0.trans hlr
      have c1 : wr.cell? ⟨w.heap.size, 0, none⟩ = some (.pointer (some ⟨b, 0, none⟩)) := (hlr.cell (lt_of_cell HB0.out)).trans HB0.out
      have c2 : wr.cell? ⟨w.heap.size + 1, 0, none⟩ = some (.pointer (some ⟨t.blk, 0, none⟩)) := (hlr.cell (lt_of_cell HQ0.out)).trans HQ0.out
      obtain ⟨⟨⟨ct1, hct1⟩, t3, t7, t8, t9, t16⟩, tG, tG'⟩ := Ht.out.lay hl
      go_wp2_with fail
      go_region_held3 (fun v => v.cell? ⟨w.heap.size + 1, 0, none⟩ = some (.pointer (some ⟨t.blk, 0, none⟩)) ∧ v.cell? ⟨t.blk, 3, none⟩ = some (.pointer (some ⟨t.grp, 0, none⟩)) ∧ v.cell? ⟨t.blk, 7, none⟩ = some (.string t.fr) ∧ v.cell? ⟨t.blk, 8, none⟩ = some (.string t.to) ∧ v.cell? ⟨t.blk, 9, none⟩ = some (.bool t.unb))
        (first | assumption | exact keepQ ((Lay.refl wr).alloc _).drew ⟨c2, t3, t7, t8, t9⟩ | exact keepQ ((((Lay.refl wr).alloc _).alloc _).alloc _).drew ⟨c2, t3, t7, t8, t9⟩)
        (first | (go_at_call 24; refine (Iter.in24 _ _ _ _ _).mono ?_; rintro e w1 ⟨rfl, rfl⟩))
      rename_i hSS
      clear hSS t3 t7 t8 t9 t16 hct1
      go_wp2_with fail
      obtain ⟨k3, k1, k2⟩ := three_cells wr #[Value.bool false] #[Value.pointer (some ⟨t.grp, 14, none⟩)] #[Value.string t.fr, Value.string t.to, Value.bool t.unb] 4 124 38 _ _ _ rfl rfl rfl
      have hl1 : Lay wr ((((wr.alloc (Obj.cells #[Value.bool false] 4)).alloc (Obj.cells #[Value.pointer (some ⟨t.grp, 14, none⟩)] 124)).alloc (Obj.cells #[Value.string t.fr, Value.string t.to, Value.bool t.unb] 38)).drew) := ((((Lay.refl wr).alloc _).alloc _).alloc _).drew
      generalize ((((wr.alloc (Obj.cells #[Value.bool false] 4)).alloc (Obj.cells #[Value.pointer (some ⟨t.grp, 14, none⟩)] 124)).alloc (Obj.cells #[Value.string t.fr, Value.string t.to, Value.bool t.unb] 38)).drew) = W1 at *
      refine Iter.wp_range_none (gb := t.grp) (B1 := wr.heap.size + 1) (B2 := wr.heap.size + 1 + 1) (fr := t.fr) (by rfl) k1 k2 ((hl1.cell (lt_of_cell tG')).trans tG') ?_
      intro D W hD hlW hKD
      have d1 : W.cell? ⟨w.heap.size, 0, none⟩ = some (.pointer (some ⟨b, 0, none⟩)) := ((hl1.trans hlW).cell (lt_of_cell c1)).trans c1
      have d2 : W.cell? ⟨w.heap.size + 1, 0, none⟩ = some (.pointer (some ⟨t.blk, 0, none⟩)) := ((hl1.trans hlW).cell (lt_of_cell c2)).trans c2
      have d3 : W.cell? ⟨wr.heap.size, 0, none⟩ = some (.bool false) := (hlW.cell (lt_of_cell k3)).trans k3
      have hlw : Lay w W := hl.trans (hl1.trans hlW)
      have hDw : wr.heap.size ≤ D := Nat.le_trans hl1.size hD
      have hlw0 : w.heap.size ≤ wr.heap.size := hl.size
      clear k1 k2 k3 c1 c2 tG tG' hl1 hlW hlr hl
      have HK : Hid (W.heap[D]? = some (.deferred (some []))) := hKD
      clear hKD
      have d7 : W.cell? ⟨b, 7, none⟩ = some (.slice p L.length c) := (hlw.cell hb).trans Hw7.out
      have f7 : W.frozen? ⟨b, 7, none⟩ = false := (hlw.frozen hb).trans Hf7.out
      obtain ⟨i0, hi0, hz0, hz1, hz2⟩ := info_parts info35
      have Howns : Hid (W.ownsRow base 35 1 (.slice p L.length c) L.length (L.map SQ.ptr)) := Hrow.out.kept (Iter.grown_of_lay hlw) (Classical.em _)
      have nb : some b ≠ (Value.slice p L.length c).ownBlock := fun e => row_ne Hrow.out Hcw.out (by decide) e.symm
      have n0 : some w.heap.size ≠ (Value.slice p L.length c).ownBlock := fun e => by have := (Hrow.out.lt _ e.symm).2; omega
      have hsz := hlw.size
      have hsz' : w.heap.size < W.heap.size := lt_of_cell d1
      have hbW : b < W.heap.size := Nat.lt_of_lt_of_le hb hsz
      have Hd7 : Hid (W.cell? ⟨b, 7, none⟩ = some (.slice p L.length c)) := d7
      have Hff : Hid (W.frozen? ⟨b, 7, none⟩ = false) := f7
      clear f7
      go_wp2_with fail
      have g1 : ∀ o, (W.alloc o).cell? ⟨w.heap.size, 0, none⟩ = some (.pointer (some ⟨b, 0, none⟩)) := fun o => (((Lay.refl W).alloc o).cell (lt_of_cell d1)).trans d1
      have g7 : ∀ o, (W.alloc o).cell? ⟨b, 7, none⟩ = some (.slice p L.length c) := fun o => (((Lay.refl W).alloc o).cell hbW).trans d7
      refine wp_region_noPanic ?_
      go_region_law
        ((refine step_append_lies _ (by rfl) _ _ _ (by rfl) base 35 i0 _ 1 8 Tryd.underlying47 hi0 hz0 hz1 hz2 rfl (by omega) (.slice p L.length c) L.length (L.map SQ.ptr) (by rfl) ((Howns.out.alloc _).drew)
            ⟨W.heap.size, 0, none⟩ 1 1 [.pointer (some ⟨t.blk, 0, none⟩)] (by rfl) (by rfl) (World.news_of_block (cs := #[.pointer (some ⟨t.blk, 0, none⟩)]) (t := 35) (fr := (0, 0)) (heap_alloc_new W _)) (by simp [Value.oneCell'])
            (by omega) (by unfold maxLen; omega) (by omega) (by simp; omega) (W.heap.size + 1) (by simp) ?_
          intro gg cap w1 hown1 hgrow hat hlt
          have q0 : w1.cell? ⟨w.heap.size, 0, none⟩ = some (.pointer (some ⟨b, 0, none⟩)) := (hgrow.cell_far ⟨w.heap.size, 0, none⟩ (by simp; omega) n0).trans (g1 _)
          have q7 : w1.cell? ⟨b, 7, none⟩ = some (.slice p L.length c) := (hgrow.cell_far ⟨b, 7, none⟩ (by simp; omega) nb).trans ((((Lay.refl W).alloc _).drew.cell hbW).trans Hd7.out)
          have q7f : w1.frozen? ⟨b, 7, none⟩ = false := (hgrow.frozen_far ⟨b, 7, none⟩ (by simp; omega) nb).trans ((((Lay.refl W).alloc _).drew.frozen hbW).trans Hff.out)))
      all_goals
        refine NoPanic.normal ?_
        go_wp2
        have hfin := finish Hcw.out Hw1.out Hw3.out Hw7.out Hf7.out Hrow.out Hreqs.out Ht.out hlw (Nat.le_trans hlw0 hDw) HK.out hown1 hgrow Hst.out hat
        exact end_marked hfin.1 ⟨⟨_, rfl⟩, hfin.2⟩
end Go.Proofs.Qxb6614041aDoor.Follow
