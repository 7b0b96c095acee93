import Derived.Test.Qxb6614041aDoorBase
import Derived.RangeFuncNested
import Derived.RangeFuncLeaves
import Derived.ControlIn
import Derived.Shelf.Abstract
namespace Go.Proofs.Qxb6614041aDoor.Iter
open Go.ChangeShapes Go.WideShapes Go.ChangeAt Go.RowKit
open Go.Proofs.Qxb6614041aDoor.Base (Lay)
set_option linter.unusedVariables false

theorem grown_of_lay {w w' : World} (h : Lay w w') : w.grownBy w' none :=
  ⟨Below.os h, Below.tape h, Below.output h, Below.size h, fun k hk _ => Below.block h k hk⟩

theorem first29 (g : Nat) (k : ByteArray) (w : World) (h : w.cell? ⟨g, 15, none⟩ = some (.slice none 0 0)) :
    Calls Tryd.prog 29 #[.pointer (some ⟨g, 14, none⟩), .string k] w fun e w' => e = .returned (.pointer none) ∧ w' = w := by
  go_enter Tryd.func29, Tryd.ntmps29
  go_wp2
  go_ret
  exact ⟨rfl, rfl⟩

theorem in24 (g : Nat) (fr to : ByteArray) (u : Bool) (w : World) :
    Calls Tryd.prog 24 #[.pointer (some ⟨g, 14, none⟩), .agg #[.string fr, .string to, .bool u]] w fun e w' => e = .returned (.func (.func 28) #[] #[.pointer (some ⟨w.heap.size, 0, none⟩), .pointer (some ⟨w.heap.size + 1, 0, none⟩)])
      ∧ w' = (w.alloc (.cells #[.pointer (some ⟨g, 14, none⟩)] 124)).alloc (.cells #[.string fr, .string to, .bool u] 38) := by
  go_enter Tryd.func24, Tryd.ntmps24
  go_wp2
  go_ret
  exact ⟨rfl, rfl⟩

/-- the iterator over an empty list: it never calls the loop's body -/
theorem iter28 (l g B1 B2 : Nat) (fr : ByteArray) (w : World) (h1 : w.cell? ⟨B1, 0, none⟩ = some (.pointer (some ⟨g, 14, none⟩))) (h2 : w.cell? ⟨B2, 0, none⟩ = some (.string fr)) (h : w.cell? ⟨g, 15, none⟩ = some (.slice none 0 0)) :
    Calls Tryd.prog 28 #[.func (.yield l) #[] #[], .pointer (some ⟨B1, 0, none⟩), .pointer (some ⟨B2, 0, none⟩)] w fun e w' => (∃ v, e = .returned v) ∧ Lay w w' := by
  have H : Hid (w.cell? ⟨g, 15, none⟩ = some (.slice none 0 0)) := h
  clear h
  go_enter Tryd.func28, Tryd.ntmps28
  go_wp2
  go_quiet ((go_at_call 29; exact Calls.quiet_of_same (first29 g fr _ (by simpa using H.out))))
  go_wp2
  go_loopw [4] (fun p wr => p = .pointer none ∧ Lay w wr) (fun _ _ => 0)
  case atStart => exact ⟨rfl, (Lay.refl w).drewN nq⟩
  case round =>
    obtain ⟨rfl, hl⟩ := hrel
    go_wp2_with fail
    go_quiet (fail)
    go_wp2
    go_end0
    exact ⟨⟨_, rfl⟩, hl.drewN _⟩

/-- the iterator's contract: nothing comes -/
theorem in_stops (n : Nat) (l g B1 B2 : Nat) (fr : ByteArray) (w : World) (h1 : w.cell? ⟨B1, 0, none⟩ = some (.pointer (some ⟨g, 14, none⟩))) (h2 : w.cell? ⟨B2, 0, none⟩ = some (.string fr)) (h : w.cell? ⟨g, 15, none⟩ = some (.slice none 0 0)) :
    SeqStopsK (α := Empty) Fence.wide n Tryd.prog 28 #[.pointer (some ⟨B1, 0, none⟩), .pointer (some ⟨B2, 0, none⟩)] (fun x => x.elim) (fun _ _ => True) (fun xs => xs = []) (fun _ => False) 0 w := by
  intro l J Jx W hW hJ hJx hY h0
  refine callsIn_wide.2 ((iter28 l g B1 B2 fr W ((Lay.cell hW (Base.lt_of_cell h1)).trans h1) ((Lay.cell hW (Base.lt_of_cell h2)).trans h2) ((Lay.cell hW (Base.lt_of_cell h)).trans h)).mono ?_)
  rintro e W' ⟨hv, hl⟩
  exact ⟨hv, .inl ⟨[], rfl, hJ [] W W' none h0 (grown_of_lay hl) (fun r e => by cases e)⟩⟩

/-- a range over the iterator of an empty list: its body is never walked -/
theorem wp_range_none {g : Operand} {ps : Array Tmp} {assign body : Code} {Q : Exit → Act → World → Prop} {a : Act} {w : World} {gb B1 B2 : Nat} {fr : ByteArray}
    (hg : a.eval g = .func (.func 28) #[] #[.pointer (some ⟨B1, 0, none⟩), .pointer (some ⟨B2, 0, none⟩)]) (h1 : w.cell? ⟨B1, 0, none⟩ = some (.pointer (some ⟨gb, 14, none⟩))) (h2 : w.cell? ⟨B2, 0, none⟩ = some (.string fr)) (h : w.cell? ⟨gb, 15, none⟩ = some (.slice none 0 0))
    (hdone : ∀ (D : Nat) (W : World), w.heap.size ≤ D → Lay w W → W.heap[D]? = some (.deferred (some [])) → Q .normal { a with defers := { target := .collected D, args := #[] } :: a.defers } W) :
    (Code.rangeFunc g ps assign body).wp Tryd.prog Q a w := by
  refine (wpIn_wide (n := 3)).1 ?_
  refine wpIn_rangeFunc_ownF (α := Empty) rfl (by omega) hg trivial (Go.Proofs.enters_of Tryd.func28 (by kernel_rfl) rfl) (in_stops 2 0 gb B1 B2 fr w h1 h2 h) (fun _ _ => trivial) (fun _ _ _ _ _ _ _ _ => trivial) (Below.refl _ _) (fun x => x.elim)
    (fun _ W => Lay w W) (fun _ _ _ => False) (fun s W W' row hs hgr hr => Below.grown hs hgr hs.size (fun k e => (hr k e).1)) (fun _ _ _ _ _ hs _ _ => hs) (Lay.refl w) (fun x => x.elim) (fun _ x => x.elim) (fun _ _ x => x.elim)
    (fun D xs W hD _ hI hK => hdone D W hD hI hK) (fun _ _ _ _ _ _ h _ => h.elim)
end Go.Proofs.Qxb6614041aDoor.Iter
