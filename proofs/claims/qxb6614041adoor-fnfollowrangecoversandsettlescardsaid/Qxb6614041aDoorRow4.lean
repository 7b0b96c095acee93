import Derived.Test.Qxb6614041aDoorState4
namespace Go.Proofs.Qxb6614041aDoor.Row4
open Go.RowKit
open Go.Proofs.Qxb6614041aDoor.Base
open Go.Proofs.Qxb6614041aDoor.Sized (Req At)
open Go.Proofs.Qxb6614041aDoor.Follow (SQ covB stepL Swept Done someEnd row_ne)
open Go.Proofs.Qxb6614041aDoor.Plain
open Go.Proofs.Qxb6614041aDoor.State
set_option linter.unusedVariables false

def rptr (blk : Nat → Nat) (i : Nat) : Value := .pointer (some ⟨blk i, 0, none⟩)

/-- the slice of all requests, and that it shares no block with what is swept -/
structure Qs (w wr : World) (k : Nat) (blk : Nat → Nat) (sv qv : Value) : Prop where
  row : wr.ownsRow w.heap.size 35 1 qv k ((List.range k).map (rptr blk))
  apart : qv.ownBlock = none ∨ qv.ownBlock ≠ sv.ownBlock

theorem Qs.lay {w wr wr' : World} {k : Nat} {blk : Nat → Nat} {sv qv : Value} (h : Qs w wr k blk sv qv) (hl : Lay wr wr') : Qs w wr' k blk sv qv :=
  ⟨h.row.kept (Iter.grown_of_lay hl) (Classical.em _), h.apart⟩

/-- an append to that slice keeps the rest -/
theorem St.grown {w W w1 : World} {R : Nat → Req} {b g1 g2 k n : Nat} {blk : Nat → Nat} {sv qv : Value} {L : List SQ} {xs : List Value} (h : St w W R b g1 g2 k blk sv L)
    (hr : W.ownsRow w.heap.size 35 1 qv n xs) (hg : W.grownBy w1 qv.ownBlock) (hap : qv.ownBlock = none ∨ qv.ownBlock ≠ sv.ownBlock) : St w w1 R b g1 g2 k blk sv L := by
  obtain ⟨⟨cw, hcw⟩, hw1, hw3, hw7, hf7⟩ := h.swept.walk
  have hm : Moved W w1 W.heap.size qv.ownBlock := ⟨hg.os, hg.tape, hg.output, hg.size, fun j hj _ hne => hg.block j hj hne⟩
  have gm : ∀ g, IsGroup W g → IsGroup w1 g := fun g hG => by
    obtain ⟨cs, hc⟩ := hG.1
    exact hG.moved hm (Nat.ne_of_lt (lt_of_heap hc)) (fun e => row_ne hr hc (by decide) e.symm)
  have rm : ∀ s : SQ, s.In W → s.In w1 := fun s hs => by
    obtain ⟨cs, hc⟩ := hs.1.1
    exact ⟨hs.1.moved hm (Nat.ne_of_lt (lt_of_heap hc)) (fun e => row_ne hr hc (by decide) e.symm), gm _ hs.2⟩
  have hbk : w1.heap[b]? = W.heap[b]? := hg.block b (lt_of_heap hcw) (fun e => row_ne hr hcw (by decide) e.symm)
  have hb := h.fresh
  refine ⟨⟨⟨⟨cw, hbk.trans hcw⟩, (World.cell?_of_block hbk).trans hw1, (World.cell?_of_block hbk).trans hw3, (World.cell?_of_block hbk).trans hw7, (World.frozen?_of_block hbk).trans hf7⟩, ?_, fun s hs => rm s (h.swept.reqs s hs)⟩, fun i hi => rm _ (h.reqs i hi), gm _ h.gr1, gm _ h.gr2, ?_, h.fresh⟩
  · refine h.swept.row.kept hg ?_
    rcases hap with e | e
    · rw [e]
      exact Classical.em _
    · exact .inr e.symm
  · refine h.below.trans ⟨hg.os, hg.tape, hg.output, hg.size, fun j hj => ?_⟩
    have := h.size
    exact hg.block j (by omega) (fun e => by have := (hr.lt j e.symm).1; omega)

theorem rptr_upd (blk : Nat → Nat) (k q : Nat) : (List.range (k + 1)).map (rptr (fun i => if i = k then q else blk i)) = (List.range k).map (rptr blk) ++ [.pointer (some ⟨q, 0, none⟩)] := by
  rw [List.range_succ, List.map_append]
  congr 1
  · refine List.map_congr_left (fun j hj => ?_)
    have := List.mem_range.1 hj
    simp [rptr, show j ≠ k by omega]
  · simp [rptr]

/-- behind the append of a round -/
theorem appended {w wr W X w1 : World} {R : Nat → Req} {b g1 g2 k q gg cap : Nat} {blk : Nat → Nat} {sv qv : Value} {L : List SQ} {g : Nat} {fr to : ByteArray} {u : Bool} {s : Int} (h : St w wr R b g1 g2 k blk sv L) (hQ : Qs w wr k blk sv qv) (hl : Lay wr W) (hX : Lay W X)
    (hq : IsReq W q g fr to u s)
    (hown : w1.ownsRow w.heap.size 35 1 (.slice (some ⟨gg, 0, none⟩) (k + 1) cap) (k + 1) ((List.range k).map (rptr blk) ++ [.pointer (some ⟨q, 0, none⟩)]))
    (hgrow : X.grownBy w1 qv.ownBlock) (hat : qv.ownBlock = some gg ∨ W.heap.size ≤ gg) (hlt : gg < w1.heap.size) :
    St w w1 R b g1 g2 k blk sv L ∧ IsReq w1 q g fr to u s ∧ Qs w w1 (k + 1) (fun i => if i = k then q else blk i) sv (.slice (some ⟨gg, 0, none⟩) (k + 1) cap) := by
  have hlX := hl.trans hX
  have hSX := h.lay hlX
  have hQX := hQ.lay hlX
  have hqX := hq.lay hX
  obtain ⟨cs, hc⟩ := hqX.1
  have hm : Moved X w1 X.heap.size qv.ownBlock := ⟨hgrow.os, hgrow.tape, hgrow.output, hgrow.size, fun j hj _ hne => hgrow.block j hj hne⟩
  refine ⟨St.grown hSX hQX.row hgrow hQX.apart, hqX.moved hm (Nat.ne_of_lt (lt_of_heap hc)) (fun e => row_ne hQX.row hc (by decide) e.symm), ?_, .inr ?_⟩
  · rw [rptr_upd]
    exact hown
  · intro e
    have e' : sv.ownBlock = some gg := e.symm
    rcases hat with e1 | e1
    · rcases hQ.apart with e2 | e2
      · rw [e2] at e1; cases e1
      · exact e2 (e1.trans e'.symm)
    · have := ((h.lay hl).swept.row.lt gg e').2
      omega

/-- behind a round's followRange -/
theorem followed {w w1 w2 : World} {R : Nat → Req} {b g1 g2 k q : Nat} {blk : Nat → Nat} {sv qv : Value} (hne : g1 ≠ g2) (h : St w w1 R b g1 g2 k blk sv ((idx R k).map (sq R g1 g2 blk)))
    (hq : IsReq w1 q (if (R k).sec then g2 else g1) (R k).fr (R k).to (R k).unb (R k).seq) (hQ : Qs w w1 (k + 1) (fun i => if i = k then q else blk i) sv qv)
    (hd : Done w1 w2 w.heap.size b sv ((idx R k).map (sq R g1 g2 blk)) (sq R g1 g2 (fun i => if i = k then q else blk i) k)) :
    ∃ sv', St w w2 R b g1 g2 (k + 1) (fun i => if i = k then q else blk i) sv' ((idx R (k + 1)).map (sq R g1 g2 (fun i => if i = k then q else blk i))) ∧ Qs w w2 (k + 1) (fun i => if i = k then q else blk i) sv' qv := by
  obtain ⟨sv', hS', hm, hnear⟩ := St.next hne h (Lay.refl w1) hq hd
  refine ⟨sv', hS', ?_, ?_⟩
  · obtain ⟨⟨cw, hcw⟩, _⟩ := h.swept.walk
    obtain ⟨hlen, h0 | ⟨gg, cap, cur, hv, hb, hg, hr⟩⟩ := hQ.row
    · exact ⟨hlen, .inl h0⟩
    · refine ⟨hlen, .inr ⟨gg, cap, cur, hv, hb, ?_, hr⟩⟩
      rw [hm.block gg (lt_of_heap hg) (fun e => by rw [e, hcw] at hg; simp at hg) (fun e => ?_)]
      · exact hg
      · rcases hQ.apart with h1 | h1
        · rw [hv] at h1; cases h1
        · exact h1 (by rw [hv]; exact e)
  · rcases hQ.apart with h1 | h1
    · exact .inl h1
    · rcases hnear with h2 | ⟨g, h2, h3⟩
      · rw [h2]; exact .inr h1
      · right
        rw [h2]
        intro e
        have := (hQ.row.lt g e).2
        omega

/-- a request that has been made is covered by what is swept -/
theorem covered (R : Nat → Req) {g1 g2 n i : Nat} (hne : g1 ≠ g2) (blk : Nat → Nat) (hi : i < n) : ((idx R n).map (sq R g1 g2 blk)).any (covB · (sq R g1 g2 blk i)) = true := by
  rw [List.any_map]
  have := any_of R (R i) n ⟨i, hi, covR_refl _⟩
  rw [← this]
  congr 1
  funext j
  exact cov_sq R hne blk j i

/-- to follow a request again turns nothing -/
theorem follow_again {w W : World} {R : Nat → Req} {b g1 g2 n i : Nat} {blk : Nat → Nat} {sv : Value} (hne : g1 ≠ g2) (h : St w W R b g1 g2 n blk sv ((idx R n).map (sq R g1 g2 blk))) (hi : i < n) (hn : n ≤ 1024) :
    Calls Tryd.prog 12 #[.pointer (some ⟨b, 0, none⟩), .pointer (some ⟨blk i, 0, none⟩)] W fun e w' => someEnd e ∧ Lay W w' := by
  refine (follow12 w.heap.size b sv _ (sq R g1 g2 blk i) W h.swept (h.reqs i hi) (by have := idx_len R n; simp; omega) h.size).mono ?_
  rintro e w' ⟨he, sv', _, _, _, hl⟩
  exact ⟨he, hl (covered R hne blk hi)⟩

/-- what is swept, read at any place -/
theorem swept_nth {w W : World} {R : Nat → Req} {b g1 g2 n t : Nat} {blk : Nat → Nat} {sv : Value} (h : St w W R b g1 g2 n blk sv ((idx R n).map (sq R g1 g2 blk))) (ht : t < (idx R n).length) :
    Calls Tryd.prog 17 #[.pointer (some ⟨b, 0, none⟩), .int .i64 t] W fun e w' => e = .returned (.tuple #[.agg #[.string (R ((idx R n)[t])).fr, .string (R ((idx R n)[t])).to, .bool (R ((idx R n)[t])).unb], .int .u64 (R ((idx R n)[t])).seq, .pointer (some ⟨if (R ((idx R n)[t])).sec then g2 else g1, 0, none⟩)]) ∧ Lay W w' := by
  have hlt' : t < ((idx R n).map (sq R g1 g2 blk)).length := by simpa using ht
  obtain ⟨rb, cap, hsv, hcell⟩ := Follow.row_at h.swept.row hlt'
  have hc := hcell _ hlt'
  have hmem : sq R g1 g2 blk ((idx R n)[t]) ∈ (idx R n).map (sq R g1 g2 blk) := List.mem_map.2 ⟨_, List.getElem_mem ht, rfl⟩
  have hq := (h.swept.reqs _ hmem).1
  have hw := h.swept.walk
  rw [hsv] at hw
  exact swept17 b rb (blk ((idx R n)[t])) (if (R ((idx R n)[t])).sec then g2 else g1) _ cap t (R ((idx R n)[t])).fr (R ((idx R n)[t])).to (R ((idx R n)[t])).unb (R ((idx R n)[t])).seq W hw hlt' (by simpa [SQ.ptr, sq] using hc) hq

/-- the first request is swept first -/
theorem idx_first (R : Nat → Req) {n : Nat} (hn : 0 < n) : ∃ h : 0 < (idx R n).length, (idx R n)[0] = 0 := by
  obtain ⟨h, _⟩ := idx_at R hn (fun j hj => absurd hj (Nat.not_lt_zero _))
  obtain ⟨h1, h2⟩ := List.getElem?_eq_some_iff.1 h
  exact ⟨h1, h2⟩

/-- each request is covered at some place of what is swept -/
theorem cover_at (R : Nat → Req) {n i : Nat} (hi : i < n) : ∃ t, ∃ h : t < (idx R n).length, covR (R ((idx R n)[t])) (R i) = true := by
  obtain ⟨j, hj, hc⟩ := List.any_eq_true.1 (any_of R (R i) n ⟨i, hi, covR_refl _⟩)
  obtain ⟨t, ht, rfl⟩ := List.getElem_of_mem hj
  exact ⟨t, ht, hc⟩
/-- WHAT THE SECOND HALF OF THE LAW NEEDS: F: what is swept, by place; M: how many -/
theorem facts {w wr : World} {R : Nat → Req} {b g1 g2 k : Nat} {blk : Nat → Nat} {sv : Value} (h : St w wr R b g1 g2 k blk sv ((idx R k).map (sq R g1 g2 blk))) :
    ∃ (M : Nat) (F : Nat → Req), M = (idx R k).length ∧ M ≤ k
      ∧ (∀ v t, Lay wr v → t < M → Calls Tryd.prog 17 #[.pointer (some ⟨b, 0, none⟩), .int .i64 t] v fun e w' => e = .returned (.tuple #[.agg #[.string (F t).fr, .string (F t).to, .bool (F t).unb], .int .u64 (F t).seq, .pointer (some ⟨if (F t).sec then g2 else g1, 0, none⟩)]) ∧ Lay v w')
      ∧ (0 < k → 0 < M ∧ F 0 = R 0) ∧ (∀ i, i < k → ∃ t, t < M ∧ covR (F t) (R i) = true) := by
  refine ⟨(idx R k).length, fun j => R ((idx R k).getD j 0), rfl, idx_len R k, fun v t hl ht => ?_, fun hk => ?_, fun i hi => ?_⟩
  · have := swept_nth (h.lay hl) ht
    simpa [List.getD, List.getElem?_eq_getElem ht] using this
  · obtain ⟨h0, h1⟩ := idx_first R hk
    exact ⟨h0, by simp [List.getD, List.getElem?_eq_getElem h0, h1]⟩
  · obtain ⟨t, ht, hc⟩ := cover_at R hi
    exact ⟨t, ht, by simpa [List.getD, List.getElem?_eq_getElem ht] using hc⟩
theorem Qs.cells {w wr : World} {k cq : Nat} {blk : Nat → Nat} {sv : Value} {pq : Option Addr} (h : Qs w wr k blk sv (.slice pq k cq)) (hk : 0 < k) :
    ∃ g, pq = some ⟨g, 0, none⟩ ∧ ∀ j, j < k → wr.cell? ⟨g, j, none⟩ = some (.pointer (some ⟨blk j, 0, none⟩)) := by
  obtain ⟨g, cap, hv, _, _⟩ := h.row.form hk
  simp only [Value.slice.injEq] at hv
  obtain ⟨rfl, _, _⟩ := hv
  refine ⟨g, rfl, fun j hj => ?_⟩
  rw [h.row.cellAt j (by omega)]
  simp [hj, rptr]
end Go.Proofs.Qxb6614041aDoor.Row4
