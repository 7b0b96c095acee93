import Derived.Test.Qxb6614041aDoorPlain4
import Derived.Test.Qxb6614041aDoorFollow4
namespace Go.Proofs.Qxb6614041aDoor.State
open Go.RowKit
open Go.Proofs.Qxb6614041aDoor.Base
open Go.Proofs.Qxb6614041aDoor.Sized (Req At)
open Go.Proofs.Qxb6614041aDoor.Follow (SQ covB stepL Swept Done someEnd row_ne)
open Go.Proofs.Qxb6614041aDoor.Plain
set_option linter.unusedVariables false

theorem follow12 (base b : Nat) (sv : Value) (L : List SQ) (t : SQ) (w : World) (hS : Swept w base b sv L) (ht : t.In w) (hL : L.length ≤ 4096) (hbase : base ≤ w.heap.size) :
    Calls Tryd.prog 12 #[.pointer (some ⟨b, 0, none⟩), .pointer (some ⟨t.blk, 0, none⟩)] w fun e w' => someEnd e ∧ Done w w' base b sv L t := by
  go_enter Tryd.func12, Tryd.ntmps12
  go_wp2_with fail
  refine (Follow.follow22 base b sv L t w hS ht hL hbase).mono ?_
  rintro e w1 ⟨⟨v, rfl⟩, hd⟩
  go_wp2
  go_end0
  exact ⟨⟨_, rfl⟩, hd⟩

/-- where the first loop stands behind k rounds: w: the world in which the law began; what has been swept; every request that was made -/
structure St (w wr : World) (R : Nat → Req) (b g1 g2 k : Nat) (blk : Nat → Nat) (sv : Value) (L : List SQ) : Prop where
  swept : Swept wr w.heap.size b sv L
  reqs : ∀ i, i < k → (sq R g1 g2 blk i).In wr
  gr1 : IsGroup wr g1
  gr2 : IsGroup wr g2
  below : Below w.heap.size w wr
  fresh : w.heap.size ≤ b

theorem St.size {w wr : World} {R : Nat → Req} {b g1 g2 k : Nat} {blk : Nat → Nat} {sv : Value} {L : List SQ} (h : St w wr R b g1 g2 k blk sv L) : w.heap.size ≤ wr.heap.size := h.below.size

theorem Swept.lay {w w' : World} {base b : Nat} {sv : Value} {L : List SQ} (h : Swept w base b sv L) (hl : Lay w w') : Swept w' base b sv L :=
  ⟨h.walk.lay hl, h.row.kept (Iter.grown_of_lay hl) (Classical.em _), fun s hs => (h.reqs s hs).lay hl⟩

theorem St.lay {w wr wr' : World} {R : Nat → Req} {b g1 g2 k : Nat} {blk : Nat → Nat} {sv : Value} {L : List SQ} (h : St w wr R b g1 g2 k blk sv L) (hl : Lay wr wr') : St w wr' R b g1 g2 k blk sv L :=
  ⟨Swept.lay h.swept hl, fun i hi => (h.reqs i hi).lay hl, h.gr1.lay hl, h.gr2.lay hl, h.below.trans (Below.mono hl h.size), h.fresh⟩

/-- a followRange keeps all that but what is swept -/
theorem St.moved {w wr wr' : World} {R : Nat → Req} {b g1 g2 k : Nat} {blk : Nat → Nat} {sv sv' : Value} {L L' : List SQ} (h : St w wr R b g1 g2 k blk sv L) (hm : Moved wr wr' b sv.ownBlock) (hs : Swept wr' w.heap.size b sv' L') : St w wr' R b g1 g2 k blk sv' L' := by
  obtain ⟨⟨cw, hcw⟩, _⟩ := h.swept.walk
  have hrow := h.swept.row
  have neb : ∀ {k : Nat} {cs : Array Value} {ty : TypeId}, wr.heap[k]? = some (.cells cs ty (0, 0)) → ty ≠ 56 → k ≠ b := fun hk hty e => by
    rw [e, hcw] at hk
    simp at hk
    exact hty hk.2.symm
  have gm : ∀ g, IsGroup wr g → IsGroup wr' g := fun g hg => by
    obtain ⟨cs, hc⟩ := hg.1
    exact hg.moved hm (neb hc (by decide)) (fun e => row_ne hrow hc (by decide) e.symm)
  refine ⟨hs, fun i hi => ?_, gm _ h.gr1, gm _ h.gr2, ?_, h.fresh⟩
  · obtain ⟨cs, hc⟩ := (h.reqs i hi).1.1
    exact ⟨(h.reqs i hi).1.moved hm (neb hc (by decide)) (fun e => row_ne hrow hc (by decide) e.symm), gm _ (h.reqs i hi).2⟩
  · have hb := h.fresh
    refine h.below.trans ⟨hm.os, hm.tape, hm.output, hm.size, fun j hj => ?_⟩
    have hsz := h.size
    exact hm.block j (by omega) (by omega) (fun e => by have := (hrow.lt j e.symm).1; omega)

/-- one round of the first loop: a new request, followed -/
theorem St.next {w wr W W' : World} {R : Nat → Req} {b g1 g2 k q : Nat} {blk : Nat → Nat} {sv : Value} (hne : g1 ≠ g2) (h : St w wr R b g1 g2 k blk sv ((idx R k).map (sq R g1 g2 blk)))
    (hl : Lay wr W) (hq : IsReq W q (if (R k).sec then g2 else g1) (R k).fr (R k).to (R k).unb (R k).seq)
    (hd : Done W W' w.heap.size b sv ((idx R k).map (sq R g1 g2 blk)) (sq R g1 g2 (fun i => if i = k then q else blk i) k)) :
    ∃ sv', St w W' R b g1 g2 (k + 1) (fun i => if i = k then q else blk i) sv' ((idx R (k + 1)).map (sq R g1 g2 (fun i => if i = k then q else blk i))) ∧ Moved W W' b sv.ownBlock ∧ (sv'.ownBlock = sv.ownBlock ∨ ∃ g, sv'.ownBlock = some g ∧ W.heap.size ≤ g) := by
  obtain ⟨sv', hs, hm, hnear, _⟩ := hd
  refine ⟨sv', ?_, hm, hnear⟩
  have hg : IsGroup W (if (R k).sec then g2 else g1) := by
    split
    · exact h.gr2.lay hl
    · exact h.gr1.lay hl
  have h1 : St w W R b g1 g2 (k + 1) (fun i => if i = k then q else blk i) sv ((idx R k).map (sq R g1 g2 blk)) := by
    have h0 := h.lay hl
    refine ⟨h0.swept, fun i hi => ?_, h0.gr1, h0.gr2, h0.below, h0.fresh⟩
    by_cases e : i = k
    · subst e
      exact ⟨by simpa [sq] using hq, by simpa [sq] using hg⟩
    · have := h0.reqs i (by omega)
      simpa [sq, e, SQ.In] using this
  rw [← map_upd R g1 g2 blk k q, step_sq R hne] at hs
  exact h1.moved hm hs

/-- the value of what is swept: a slice of that many -/
theorem sv_form {w : World} {base b : Nat} {sv : Value} {L : List SQ} (h : Swept w base b sv L) : ∃ p c, sv = .slice p L.length c := by
  obtain ⟨_, ⟨h, h0⟩ | ⟨g, cap, cur, h, _⟩⟩ := h.row
  · exact ⟨none, 0, by rw [h, h0]⟩
  · exact ⟨_, _, h⟩
theorem neq_same (g : Nat) (W : World) : (binOp .neq 26 (.pointer (some ⟨g, 0, none⟩)) (.pointer (some ⟨g, 0, none⟩))).run Tryd.prog W = .ok (.bool false) W := by
  have hi := Follow.info117
  cases hj : Tryd.prog.info? 117 with
  | none => rw [hj] at hi; cases hi
  | some j =>
    have h : ∀ d : Nat, (Op.equalIn (d + 1) 26 (.pointer (some ⟨g, 0, none⟩)) (.pointer (some ⟨g, 0, none⟩))).run Tryd.prog W = .ok true W := fun d => by
      simp [Op.equalIn, run_underlying Tryd.underlying26, sizeOf, typeInfo, hj, run_sameAddr_same]
    simp only [binOp]
    simp [Op.equal, Op.maxDepth, h 9999]
theorem span_same (f t : ByteArray) (u : Bool) (W : World) : (binOp .neq 38 (.agg #[.string f, .string t, .bool u]) (.agg #[.string f, .string t, .bool u])).run Tryd.prog W = .ok (.bool false) W := by
  go_simp

/-- where a search for a covering request stands: none so far among the first j, or one has been found -/
def CovSt (R : Nat → Req) (i j : Nat) (b : Bool) : Prop := (b = false → ∀ j', j' < j → covR (R j') (R i) = false) ∧ (b = true → ∃ j', j' < i ∧ covR (R j') (R i) = true)
theorem CovSt.start (R : Nat → Req) (i : Nat) : CovSt R i 0 false := ⟨fun _ j' h => absurd h (Nat.not_lt_zero _), fun h => by cases h⟩
theorem CovSt.no {R : Nat → Req} {i j : Nat} (h : CovSt R i j false) (hc : covR (R j) (R i) = false) : CovSt R i (j + 1) false :=
  ⟨fun _ j' hj => by
    by_cases e : j' = j
    · subst e; exact hc
    · exact h.1 rfl j' (by omega), fun h => by cases h⟩
theorem CovSt.yes {R : Nat → Req} {i j : Nat} (hj : j < i) (hc : covR (R j) (R i) = true) : CovSt R i (j + 1) true := ⟨fun h => (by cases h), fun _ => ⟨j, hj, hc⟩⟩

/-- the request at the place of an uncovered one, read out of the walk -/
theorem swept_at {w W : World} {R : Nat → Req} {b g1 g2 n i : Nat} {blk : Nat → Nat} {sv : Value} (h : St w W R b g1 g2 n blk sv ((idx R n).map (sq R g1 g2 blk))) (hi : i < n) (hno : ∀ j, j < i → covR (R j) (R i) = false) :
    Calls Tryd.prog 17 #[.pointer (some ⟨b, 0, none⟩), .int .i64 (idx R i).length] W fun e w' => e = .returned (.tuple #[.agg #[.string (R i).fr, .string (R i).to, .bool (R i).unb], .int .u64 (R i).seq, .pointer (some ⟨if (R i).sec then g2 else g1, 0, none⟩)]) ∧ Lay W w' := by
  obtain ⟨hat, _⟩ := idx_at R hi hno
  obtain ⟨hlt, hget⟩ := List.getElem?_eq_some_iff.1 hat
  have hlt' : (idx R i).length < ((idx R n).map (sq R g1 g2 blk)).length := by simpa using hlt
  obtain ⟨rb, cap, hsv, hcell⟩ := Follow.row_at h.swept.row hlt'
  have hc := hcell _ hlt'
  have hmem : sq R g1 g2 blk i ∈ (idx R n).map (sq R g1 g2 blk) := List.mem_map.2 ⟨i, by rw [← hget]; exact List.getElem_mem hlt, rfl⟩
  have hq := (h.swept.reqs _ hmem).1
  have hw := h.swept.walk
  rw [hsv] at hw
  exact swept17 b rb (blk i) (if (R i).sec then g2 else g1) _ cap (idx R i).length (R i).fr (R i).to (R i).unb (R i).seq W hw hlt' (by simpa [hget, SQ.ptr, sq] using hc) hq
theorem len_lt {R : Nat → Req} {n i : Nat} (hi : i < n) (hno : ∀ j, j < i → covR (R j) (R i) = false) : (idx R i).length < (idx R n).length := (List.getElem?_eq_some_iff.1 (idx_at R hi hno).1).1
end Go.Proofs.Qxb6614041aDoor.State
