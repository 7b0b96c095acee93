import Derived.Test.Qxb6614041aDoorIter
import Derived.Deep.AppendLies
namespace Go.Proofs.Qxb6614041aDoor.Follow
open Go.RowKit
open Go.Proofs.Qxb6614041aDoor.Base
set_option linter.unusedVariables false

/-- a swept request: its block, its group's block, its data -/
structure SQ where
  blk : Nat
  grp : Nat
  fr : ByteArray
  to : ByteArray
  unb : Bool
  seq : Int

def SQ.ptr (s : SQ) : Value := .pointer (some ⟨s.blk, 0, none⟩)
def SQ.In (s : SQ) (w : World) : Prop := IsReq w s.blk s.grp s.fr s.to s.unb s.seq ∧ IsGroup w s.grp
/-- s covers t -/
def covB (s t : SQ) : Bool := decide (s.grp = t.grp) && (decide (t.seq ≤ s.seq) && withinB t.fr t.to t.unb s.fr s.to s.unb)

/-- the walk in block b has swept just L, in this order -/
structure Swept (w : World) (base b : Nat) (sv : Value) (L : List SQ) : Prop where
  walk : IsWalk w b sv
  row : w.ownsRow base 35 1 sv L.length (L.map SQ.ptr)
  reqs : ∀ s ∈ L, s.In w

/-- what the walk has swept when it has followed t too -/
def stepL (L : List SQ) (t : SQ) : List SQ := if L.any (covB · t) then L else L ++ [t]
/-- the end of a followRange -/
def Done (w w' : World) (base b : Nat) (sv : Value) (L : List SQ) (t : SQ) : Prop :=
  ∃ sv', Swept w' base b sv' (stepL L t) ∧ Moved w w' b sv.ownBlock ∧ (sv'.ownBlock = sv.ownBlock ∨ ∃ g, sv'.ownBlock = some g ∧ w.heap.size ≤ g) ∧ (L.any (covB · t) = true → Lay w w')
def someEnd (e : Ending) : Prop := ∃ v, e = .returned v

theorem SQ.In.lay {s : SQ} {w w' : World} (h : s.In w) (hl : Lay w w') : s.In w' := ⟨h.1.lay hl, h.2.lay hl⟩

/-- the k-th element of the row -/
theorem row_at {w : World} {base : Nat} {sv : Value} {L : List SQ} (h : w.ownsRow base 35 1 sv L.length (L.map SQ.ptr)) {k : Nat} (hk : k < L.length) :
    ∃ rb cap, sv = .slice (some ⟨rb, 0, none⟩) L.length cap ∧ ∀ j (hj : j < L.length), w.cell? ⟨rb, j, none⟩ = some (L[j].ptr) := by
  obtain ⟨_, ⟨_, h0⟩ | ⟨g, cap, cur, rfl, hb, hg, h1, h2, h3, h4⟩⟩ := h
  · omega
  · refine ⟨g, cap, rfl, fun j hj => ?_⟩
    have e : (cur.toList.take (L.length * 1))[j]? = some (L[j].ptr) := by rw [h4]; simp [hj]
    rw [List.getElem?_take] at e
    simp [hj] at e
    simp [World.cell?, hg, e]

/-- a block of another type is not the row's -/
theorem row_ne {w : World} {base : Nat} {v : Value} {n : Nat} {xs : List Value} (h : w.ownsRow base 35 1 v n xs) {k : Nat} {cs : Array Value} {ty : TypeId} (hk : w.heap[k]? = some (.cells cs ty (0, 0))) (hty : ty ≠ 35) : v.ownBlock ≠ some k := fun e => by
  obtain ⟨_, ⟨rfl, _⟩ | ⟨g, cap, cur, rfl, _, hg, _⟩⟩ := h
  · simp [Value.ownBlock] at e
  · simp [Value.ownBlock] at e
    subst e
    rw [hg] at hk
    simp at hk
    exact hty hk.2.symm

theorem grown_set (w : World) (b o : Nat) (v : Value) : w.grownBy (w.setCell ⟨b, o, none⟩ v) (some b) :=
  ⟨rfl, rfl, rfl, by simp [World.setCell], fun k hk hne => Below.heap_setCell w ⟨b, o, none⟩ v k (fun e => hne (by rw [e]))⟩

theorem heap_set_cells {w : World} {b o : Nat} {cs : Array Value} {ty : TypeId} (v : Value) (h : w.heap[b]? = some (.cells cs ty (0, 0))) : ∃ cs', (w.setCell ⟨b, o, none⟩ v).heap[b]? = some (.cells cs' ty (0, 0)) := by
  simp [World.setCell, Array.getElem?_modify, h]

/-- behind the append and the store: the walk has swept one request more -/
theorem finish {base b D gg cap : Nat} {p : Option Addr} {c : Nat} {L : List SQ} {t : SQ} {w W w1 : World} {cw : Array Value}
    (hcw : w.heap[b]? = some (.cells cw 56 (0, 0))) (hw1 : w.cell? ⟨b, 1, none⟩ = some (.bool false)) (hw3 : w.cell? ⟨b, 3, none⟩ = some (.slice none 0 0)) (hw7 : w.cell? ⟨b, 7, none⟩ = some (.slice p L.length c)) (hf7 : w.frozen? ⟨b, 7, none⟩ = false)
    (hrow : w.ownsRow base 35 1 (.slice p L.length c) L.length (L.map SQ.ptr)) (hreqs : ∀ s ∈ L, s.In w) (ht : t.In w) (hlw : Lay w W) (hDw : w.heap.size ≤ D) (hK : W.heap[D]? = some (.deferred (some [])))
    (hown1 : w1.ownsRow base 35 1 (.slice (some ⟨gg, 0, none⟩) (L.length + 1) cap) (L.length + 1) (L.map SQ.ptr ++ [.pointer (some ⟨t.blk, 0, none⟩)]))
    (hgrow : (W.alloc (.cells #[.pointer (some ⟨t.blk, 0, none⟩)] 35)).drew.grownBy w1 (Value.slice p L.length c).ownBlock) (hst : stepL L t = L ++ [t]) (hat : (Value.slice p L.length c).ownBlock = some gg ∨ gg = W.heap.size + 1) :
    (w1.setCell ⟨b, 7, none⟩ (.slice (some ⟨gg, 0, none⟩) (L.length + 1) cap)).heap[D]? = some (.deferred (some []))
    ∧ Done w ((w1.setCell ⟨b, 7, none⟩ (.slice (some ⟨gg, 0, none⟩) (L.length + 1) cap)).putObj D (.deferred none)) base b (.slice p L.length c) L t := by
  have hb := lt_of_heap hcw
  have nb : some b ≠ (Value.slice p L.length c).ownBlock := fun e => row_ne hrow hcw (by decide) e.symm
  have lX : Lay W (W.alloc (.cells #[.pointer (some ⟨t.blk, 0, none⟩)] 35)).drew := ((Lay.refl W).alloc _).drew
  have hX : ∀ k, k < W.heap.size → some k ≠ (Value.slice p L.length c).ownBlock → w1.heap[k]? = W.heap[k]? := fun k hk hne =>
    (hgrow.block k (Nat.lt_of_lt_of_le hk lX.size) hne).trans (lX.heap hk)
  have hx : ∀ k, k < w.heap.size → some k ≠ (Value.slice p L.length c).ownBlock → w1.heap[k]? = w.heap[k]? := fun k hk hne =>
    (hX k (Nat.lt_of_lt_of_le hk hlw.size) hne).trans (hlw.heap hk)
  have hbw1 : w1.heap[b]? = some (.cells cw 56 (0, 0)) := (hx b hb nb).trans hcw
  have nD : some D ≠ (Value.slice p L.length c).ownBlock := fun e => by
    have := (hrow.lt D e.symm).2
    omega
  have hD1 : w1.heap[D]? = some (.deferred (some [])) := (hX D (lt_of_heap hK) nD).trans hK
  have hDb : D ≠ b := by omega
  have hDs : (w1.setCell ⟨b, 7, none⟩ (.slice (some ⟨gg, 0, none⟩) (L.length + 1) cap)).heap[D]? = some (.deferred (some [])) :=
    (Below.heap_setCell w1 ⟨b, 7, none⟩ _ D hDb).trans hD1
  have hnear : (Value.slice (some ⟨gg, 0, none⟩) (L.length + 1) cap).ownBlock = (Value.slice p L.length c).ownBlock ∨ ∃ g, (Value.slice (some ⟨gg, 0, none⟩) (L.length + 1) cap).ownBlock = some g ∧ w.heap.size ≤ g := by
    rcases hat with h | h
    · exact .inl h.symm
    · have := hlw.size
      exact .inr ⟨gg, rfl, by omega⟩
  have hcase : L.any (covB · t) = true → Lay w ((w1.setCell ⟨b, 7, none⟩ (.slice (some ⟨gg, 0, none⟩) (L.length + 1) cap)).putObj D (.deferred none)) := fun h => by
    have e : stepL L t = L := by simp [stepL, h]
    rw [e] at hst
    have := congrArg List.length hst
    simp at this
  refine ⟨hDs, .slice (some ⟨gg, 0, none⟩) (L.length + 1) cap, ?_, ?_, hnear, hcase⟩
  case refine_2 =>
    refine ⟨hgrow.os.trans (Below.os (hlw.trans lX)), hgrow.tape.trans (Below.tape (hlw.trans lX)), hgrow.output.trans (Below.output (hlw.trans lX)), ?_, ?_⟩
    · have h1 := (hlw.trans lX).size
      have h2 := hgrow.size
      have h3 := (grown_set w1 b 7 (.slice (some ⟨gg, 0, none⟩) (L.length + 1) cap)).size
      have h4 := (grownBy_putObj' (w1.setCell ⟨b, 7, none⟩ (.slice (some ⟨gg, 0, none⟩) (L.length + 1) cap)) D (.deferred none)).size
      omega
    · intro k hk hkb hkr
      rw [World.putObj_heap_other (by omega), Below.heap_setCell w1 ⟨b, 7, none⟩ _ k hkb]
      exact hx k hk hkr
  have hmv : Moved w ((w1.setCell ⟨b, 7, none⟩ (.slice (some ⟨gg, 0, none⟩) (L.length + 1) cap)).putObj D (.deferred none)) b (Value.slice p L.length c).ownBlock := by
    refine ⟨hgrow.os.trans (Below.os (hlw.trans lX)), hgrow.tape.trans (Below.tape (hlw.trans lX)), hgrow.output.trans (Below.output (hlw.trans lX)), ?_, ?_⟩
    · have h1 := (hlw.trans lX).size
      have h2 := hgrow.size
      have h3 := (grown_set w1 b 7 (.slice (some ⟨gg, 0, none⟩) (L.length + 1) cap)).size
      have h4 := (grownBy_putObj' (w1.setCell ⟨b, 7, none⟩ (.slice (some ⟨gg, 0, none⟩) (L.length + 1) cap)) D (.deferred none)).size
      omega
    · intro k hk hkb hkr
      rw [World.putObj_heap_other (by omega), Below.heap_setCell w1 ⟨b, 7, none⟩ _ k hkb]
      exact hx k hk hkr
  have hput : ∀ o, ((w1.setCell ⟨b, 7, none⟩ (.slice (some ⟨gg, 0, none⟩) (L.length + 1) cap)).putObj D (.deferred none)).cell? ⟨b, o, none⟩ = (w1.setCell ⟨b, 7, none⟩ (.slice (some ⟨gg, 0, none⟩) (L.length + 1) cap)).cell? ⟨b, o, none⟩ := fun o =>
    World.cell?_of_block (World.putObj_heap_other (Ne.symm hDb))
  have hcb : ∀ o, w1.cell? ⟨b, o, none⟩ = w.cell? ⟨b, o, none⟩ := fun o => World.cell?_of_block (hx b hb nb)
  rw [hst]
  refine ⟨⟨?_, ?_, ?_, ?_, ?_⟩, ?_, ?_⟩
  · obtain ⟨cs', h⟩ := heap_set_cells (o := 7) (.slice (some ⟨gg, 0, none⟩) (L.length + 1) cap) hbw1
    exact ⟨cs', (World.putObj_heap_other (Ne.symm hDb)).trans h⟩
  · exact (hput 1).trans ((World.cell?_setCell_other _ _ _ _ (by simp)).trans ((hcb 1).trans hw1))
  · exact (hput 3).trans ((World.cell?_setCell_other _ _ _ _ (by simp)).trans ((hcb 3).trans hw3))
  · exact (hput 7).trans (World.cell?_setCell_same _ _ _ ((hcb 7).trans hw7))
  · rw [World.frozen?_of_block (w := w1.setCell ⟨b, 7, none⟩ (.slice (some ⟨gg, 0, none⟩) (L.length + 1) cap)) (World.putObj_heap_other (Ne.symm hDb)), World.frozen?_setCell, World.frozen?_of_block (w := w) (hx b hb nb)]
    exact hf7
  · have h1 := hown1.kept (grown_set w1 b 7 (.slice (some ⟨gg, 0, none⟩) (L.length + 1) cap)) (.inr (row_ne hown1 hbw1 (by decide)))
    have h2 := h1.kept (grownBy_putObj' (w1.setCell ⟨b, 7, none⟩ (.slice (some ⟨gg, 0, none⟩) (L.length + 1) cap)) D (.deferred none)) (.inr (fun e => by
      obtain ⟨_, ⟨h, _⟩ | ⟨g, cap', cur, h, _, hg, _⟩⟩ := h1
      · cases h
      · simp at h
        simp [Value.ownBlock] at e
        have hgD : g = D := h.1.symm.trans e
        rw [hgD, hDs] at hg
        cases hg))
    simpa [SQ.ptr] using h2
  · have hIn : ∀ s : SQ, s.In w → s.In ((w1.setCell ⟨b, 7, none⟩ (.slice (some ⟨gg, 0, none⟩) (L.length + 1) cap)).putObj D (.deferred none)) := fun s hs => by
      obtain ⟨⟨cs1, h1⟩, _⟩ := hs.1
      obtain ⟨⟨cs2, h2⟩, _⟩ := hs.2
      exact ⟨hs.1.moved hmv (fun e => by rw [e, hcw] at h1; simp at h1) (fun e => row_ne hrow h1 (by decide) e.symm), hs.2.moved hmv (fun e => by rw [e, hcw] at h2; simp at h2) (fun e => row_ne hrow h2 (by decide) e.symm)⟩
    intro s hs
    rcases List.mem_append.1 hs with h | h
    · exact hIn s (hreqs s h)
    · simp at h
      rw [h]
      exact hIn t ht
end Go.Proofs.Qxb6614041aDoor.Follow
