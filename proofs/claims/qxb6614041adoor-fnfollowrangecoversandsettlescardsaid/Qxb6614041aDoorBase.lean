import Derived.Test.Qxb6614041aDoorRows
import Derived.WalkKit
import Derived.ProofKit
import Derived.Laws.Cover1
import Derived.Carry
import Derived.Laws.EntriesVeiled
import Derived.Deep.QuietTactic
import Derived.BigQuiet
import Derived.Deep.RegionHeld3
import Derived.WalkSpells
namespace Go.Proofs.Qxb6614041aDoor.Base
open Go.ChangeShapes Go.WideShapes Go.ChangeAt Go.RowKit
set_option linter.unusedVariables false

/-- new blocks alone: whatever lay there lies as it lay -/
def Lay (w w' : World) : Prop := Below w.heap.size w w'
theorem Lay.refl (w : World) : Lay w w := Below.refl _ _
theorem Lay.size {a b : World} (h : Lay a b) : a.heap.size ≤ b.heap.size := Below.size h
theorem Lay.trans {a b c : World} (h : Lay a b) (k : Lay b c) : Lay a c := Below.trans h (Below.mono k h.size)
theorem Lay.alloc {a b : World} (h : Lay a b) (o : Obj) : Lay a (b.alloc o) := Below.alloc h h.size o
theorem Lay.setCell {a b : World} (h : Lay a b) {p : Addr} (hp : a.heap.size ≤ p.block) (v : Value) : Lay a (b.setCell p v) := Below.setCell h hp v
theorem Lay.drew {a b : World} (h : Lay a b) : Lay a b.drew := Below.drew h
theorem Lay.drewN {a b : World} (h : Lay a b) : ∀ n, Lay a (b.drewN n)
  | 0 => h
  | n + 1 => (Lay.drewN h n).drew
theorem Lay.cell {a b : World} (h : Lay a b) {p : Addr} (hp : p.block < a.heap.size) : b.cell? p = a.cell? p := Below.cell h hp
theorem Lay.frozen {a b : World} (h : Lay a b) {p : Addr} (hp : p.block < a.heap.size) : b.frozen? p = a.frozen? p := Below.frozen h hp
theorem Lay.heap {a b : World} (h : Lay a b) {k : Nat} (hk : k < a.heap.size) : b.heap[k]? = a.heap[k]? := Below.block h k hk

theorem lt_of_cell {w : World} {b o : Nat} {v : Value} (h : w.cell? ⟨b, o, none⟩ = some v) : b < w.heap.size := by
  by_cases hb : b < w.heap.size
  · exact hb
  · simp [World.cell?, Array.getElem?_eq_none (Nat.le_of_not_lt hb)] at h

theorem lt_of_heap {w : World} {b : Nat} {o : Obj} (h : w.heap[b]? = some o) : b < w.heap.size := (Array.getElem?_eq_some_iff.1 h).1
theorem heap_second (w : World) (o o' : Obj) : ((w.alloc o).alloc o').heap[w.heap.size + 1]? = some o' := by
  have e : (w.alloc o).heap.size = w.heap.size + 1 := by simp
  rw [← e]
  exact (MapKept.heap_alloc _ _).1

/-- a group that nobody has contested a key of: its block, and the empty skip list in it -/
def IsGroup (w : World) (g : Nat) : Prop := (∃ cg, w.heap[g]? = some (.cells cg 117 (0, 0))) ∧ w.cell? ⟨g, 15, none⟩ = some (.slice none 0 0)

theorem isGroup_mk (W : World) (c : Array Value) (o : Obj) (hc : c[15]? = some (.slice none 0 0)) : IsGroup ((W.alloc (.cells c 117)).alloc o) W.heap.size := by
  have h : ((W.alloc (.cells c 117)).alloc o).heap[W.heap.size]? = some (.cells c 117 (0, 0)) :=
    (Below.heap_alloc _ _ _ (by simp)).trans (MapKept.heap_alloc W _).1
  exact ⟨⟨c, h⟩, by simp [World.cell?, h, hc]⟩

theorem group20 (s : ByteArray) (w : World) :
    Calls Tryd.prog 20 #[.string s] w fun e w' => ∃ g, e = .returned (.pointer (some ⟨g, 0, none⟩)) ∧ w.heap.size ≤ g ∧ g < w'.heap.size ∧ IsGroup w' g ∧ Lay w w' := by
  have hmm := @run_makeMap Tryd.prog
  go_enter Tryd.func20, Tryd.ntmps20
  go_wp2
  go_ret
  refine ⟨w.heap.size + 1 + 1, rfl, by omega, by simp, ?_, ((((Lay.refl w).alloc _).alloc _).alloc _).alloc _⟩
  have h := isGroup_mk ((w.alloc (Obj.map #[] 0)).alloc (Obj.map #[] 0)) #[.string s, .string s, .pointer (some ⟨w.heap.size + 1 + 1, 0, none⟩), .map (some (w.heap.size + 1 + 1 + 1)), .int .i64 0, .int .i64 0, .int .i64 0, .int .i64 0, .int .i64 0, .int .u64 0, .slice none 0 0, .bool false, .bool false, .map (some w.heap.size), .string ⟨#[]⟩, .slice none 0 0, .slice none 0 0, .map (some (w.heap.size + 1)), .slice none 0 0, .slice none 0 0] (.map #[] 0) rfl
  have e2 : ((w.alloc (Obj.map #[] 0)).alloc (Obj.map #[] 0)).heap.size = w.heap.size + 1 + 1 := by simp
  rw [e2] at h
  exact h

theorem group7 (s : ByteArray) (w : World) :
    Calls Tryd.prog 7 #[.string s] w fun e w' => ∃ g, e = .returned (.pointer (some ⟨g, 0, none⟩)) ∧ w.heap.size ≤ g ∧ g < w'.heap.size ∧ IsGroup w' g ∧ Lay w w' := by
  go_enter Tryd.func7, Tryd.ntmps7
  go_wp2_with fail
  refine (group20 s w).mono ?_
  rintro e w1 ⟨g, rfl, h1, h2, h3, h4⟩
  go_wp2
  go_ret
  exact ⟨g, rfl, h1, h2, h3, h4⟩

/-- a walk: whether it has found its target, whom it has reached, what it has swept -/
def IsWalk (w : World) (b : Nat) (sv : Value) : Prop :=
  (∃ cs, w.heap[b]? = some (.cells cs 56 (0, 0))) ∧ w.cell? ⟨b, 1, none⟩ = some (.bool false) ∧ w.cell? ⟨b, 3, none⟩ = some (.slice none 0 0) ∧ w.cell? ⟨b, 7, none⟩ = some sv ∧ w.frozen? ⟨b, 7, none⟩ = false

theorem walk8 (m : Option Addr) (t : Int) (w : World) :
    Calls Tryd.prog 8 #[.pointer m, .int .u64 t] w fun e w' => ∃ b, e = .returned (.pointer (some ⟨b, 0, none⟩)) ∧ w.heap.size ≤ b ∧ IsWalk w' b (.slice none 0 0) ∧ Lay w w' := by
  have hmm := @run_makeMap Tryd.prog
  go_enter Tryd.func8, Tryd.ntmps8
  go_wp2
  go_ret
  refine ⟨w.heap.size + 1, rfl, by omega, ⟨⟨_, heap_second w _ _⟩, ?_, ?_, ?_, ?_⟩, ((Lay.refl w).alloc _).alloc _⟩ <;> simp

/-- a range request: its group, its span, its seq -/
def IsReq (w : World) (q g : Nat) (fr to : ByteArray) (u : Bool) (sq : Int) : Prop :=
  (∃ cs, w.heap[q]? = some (.cells cs 99 (0, 0))) ∧ w.cell? ⟨q, 3, none⟩ = some (.pointer (some ⟨g, 0, none⟩)) ∧ w.cell? ⟨q, 7, none⟩ = some (.string fr) ∧ w.cell? ⟨q, 8, none⟩ = some (.string to) ∧ w.cell? ⟨q, 9, none⟩ = some (.bool u) ∧ w.cell? ⟨q, 16, none⟩ = some (.int .u64 sq)

theorem req10 (o sq : Int) (g : Nat) (fr to : ByteArray) (u : Bool) (m : Option Nat) (w : World) :
    Calls Tryd.prog 10 #[.int .u64 o, .pointer (some ⟨g, 0, none⟩), .agg #[.string fr, .string to, .bool u], .int .u64 sq, .map m] w fun e w' => ∃ q, e = .returned (.pointer (some ⟨q, 0, none⟩)) ∧ w.heap.size ≤ q ∧ IsReq w' q g fr to u sq ∧ Lay w w' := by
  go_enter Tryd.func10, Tryd.ntmps10
  go_wp2
  go_ret
  refine ⟨w.heap.size + 1, rfl, by omega, ⟨⟨_, heap_second w _ _⟩, ?_, ?_, ?_, ?_, ?_⟩, ((Lay.refl w).alloc _).alloc _⟩ <;> simp

theorem span11 (o sq : Int) (fr to : ByteArray) (u s2 : Bool) (w : World) :
    Calls Tryd.prog 11 #[.agg #[.int .u64 o, .string fr, .string to, .bool u, .int .u64 sq, .bool s2]] w fun e w' => e = .returned (.agg #[.string fr, .string to, .bool u]) ∧ Lay w w' := by
  go_enter Tryd.func11, Tryd.ntmps11
  go_wp2
  exact bodyPost_ret (v := .agg #[.string fr, .string to, .bool u]) (by simp [results, Tryd.results11, go_sem]) rfl ⟨rfl, ((Lay.refl _).alloc _).alloc _⟩

/-- 'within', as the text has it -/
def withinB (f t : ByteArray) (u : Bool) (f' t' : ByteArray) (u' : Bool) : Bool :=
  !Op.bytesLess f.toList f'.toList && (u' || (!u && (Op.bytesLess t.toList t'.toList || t.toList == t'.toList)))

theorem within23 (f t f' t' : ByteArray) (u u' : Bool) (w : World) :
    Calls Tryd.prog 23 #[.agg #[.string f, .string t, .bool u], .agg #[.string f', .string t', .bool u']] w fun e w' => e = .returned (.bool (withinB f t u f' t' u')) ∧ Lay w w' := by
  unfold withinB
  cases h1 : Op.bytesLess f.toList f'.toList
  all_goals cases u
  all_goals cases u'
  all_goals
    go_enter Tryd.func23, Tryd.ntmps23
    go_wp2
    go_ret
    exact ⟨rfl, ((Lay.refl _).alloc _).alloc _⟩

theorem within16 (f t f' t' : ByteArray) (u u' : Bool) (w : World) :
    Calls Tryd.prog 16 #[.agg #[.string f, .string t, .bool u], .agg #[.string f', .string t', .bool u']] w fun e w' => e = .returned (.bool (withinB f t u f' t' u')) ∧ Lay w w' := by
  go_enter Tryd.func16, Tryd.ntmps16
  go_wp2_with fail
  refine (within23 _ _ _ _ _ _ _).mono ?_
  rintro e w1 ⟨rfl, hl⟩
  go_wp2
  go_ret
  exact ⟨rfl, (((Lay.refl _).alloc _).alloc _).trans hl⟩

theorem found13 (b : Nat) (sv : Value) (w : World) (h : IsWalk w b sv) :
    Calls Tryd.prog 13 #[.pointer (some ⟨b, 0, none⟩)] w fun e w' => e = .returned (.bool false) ∧ w' = w := by
  obtain ⟨h0, h1, h2, h3, h4⟩ := h
  clear h0 h2 h3 h4
  go_enter Tryd.func13, Tryd.ntmps13
  go_wp2
  go_ret
  exact ⟨rfl, rfl⟩

theorem reached14 (b : Nat) (sv : Value) (w : World) (h : IsWalk w b sv) :
    Calls Tryd.prog 14 #[.pointer (some ⟨b, 0, none⟩)] w fun e w' => e = .returned (.int .i64 0) ∧ w' = w := by
  obtain ⟨h0, h1, h2, h3, h4⟩ := h
  clear h0 h1 h3 h4
  go_enter Tryd.func14, Tryd.ntmps14
  go_wp2
  go_ret
  exact ⟨rfl, rfl⟩

theorem len15 (b : Nat) (p : Option Addr) (n c : Nat) (w : World) (h : IsWalk w b (.slice p n c)) :
    Calls Tryd.prog 15 #[.pointer (some ⟨b, 0, none⟩)] w fun e w' => e = .returned (.int .i64 n) ∧ w' = w := by
  obtain ⟨h0, h1, h2, h3, h4⟩ := h
  clear h0 h1 h2 h4
  go_enter Tryd.func15, Tryd.ntmps15
  go_wp2
  go_ret
  exact ⟨rfl, rfl⟩

theorem swept17 (b rb q g : Nat) (n c t : Nat) (fr to : ByteArray) (u : Bool) (sq : Int) (w : World) (h : IsWalk w b (.slice (some ⟨rb, 0, none⟩) n c)) (ht : t < n) (hr : w.cell? ⟨rb, t, none⟩ = some (.pointer (some ⟨q, 0, none⟩))) (hq : IsReq w q g fr to u sq) :
    Calls Tryd.prog 17 #[.pointer (some ⟨b, 0, none⟩), .int .i64 t] w fun e w' => e = .returned (.tuple #[.agg #[.string fr, .string to, .bool u], .int .u64 sq, .pointer (some ⟨g, 0, none⟩)]) ∧ Lay w w' := by
  obtain ⟨h0, h1, h2, h3, h4⟩ := h
  obtain ⟨⟨cq, hcq⟩, q1, q2, q3, q4, q5⟩ := hq
  have q0 := lt_of_heap hcq
  have h0' := lt_of_cell h3
  clear hcq h0
  have i1 : (0 : Int) ≤ (t : Int) := by omega
  have i2 : (t : Int) < (n : Int) := by omega
  have hrb : rb < w.heap.size := lt_of_cell hr
  clear h1 h2 h4
  go_enter Tryd.func17, Tryd.ntmps17
  go_wp2
  go_region_held3 (fun v => v.cell? ⟨b, 7, none⟩ = some (.slice (some ⟨rb, 0, none⟩) n c) ∧ v.cell? ⟨rb, t, none⟩ = some (.pointer (some ⟨q, 0, none⟩)) ∧ v.cell? ⟨q, 3, none⟩ = some (.pointer (some ⟨g, 0, none⟩)) ∧ v.cell? ⟨q, 7, none⟩ = some (.string fr) ∧ v.cell? ⟨q, 8, none⟩ = some (.string to) ∧ v.cell? ⟨q, 9, none⟩ = some (.bool u) ∧ v.cell? ⟨q, 16, none⟩ = some (.int .u64 sq))
    (first | assumption | (refine ⟨?_, ?_, ?_, ?_, ?_, ?_, ?_⟩ <;> (refine (Lay.cell (a := w) ?_ (by assumption)).trans (by assumption); first | exact ((Lay.refl w).alloc _).drew | exact ((((Lay.refl w).alloc _).drew.setCell (Nat.le_refl _) _).setCell (Nat.le_refl _) _).setCell (Nat.le_refl _) _ | exact ((Lay.refl w).alloc _).drew)))
    (fail)
  go_wp2
  exact bodyPost_ret (v := .tuple #[.agg #[.string fr, .string to, .bool u], .int .u64 sq, .pointer (some ⟨g, 0, none⟩)]) (by simp [results, Tryd.results17, go_sem]) rfl ⟨rfl, ((Lay.refl w).alloc _).drew⟩

/-! ### What a walk's step may have turned: the walk's own block, the row of what it has swept, and new blocks -/
structure Moved (w w' : World) (b : Nat) (row : Option Nat) : Prop where
  os : w'.os = w.os
  tape : w'.tape = w.tape
  output : w'.output = w.output
  size : w.heap.size ≤ w'.heap.size
  block : ∀ k, k < w.heap.size → k ≠ b → some k ≠ row → w'.heap[k]? = w.heap[k]?

theorem Lay.moved {w w' : World} (h : Lay w w') (b : Nat) (row : Option Nat) : Moved w w' b row :=
  ⟨Below.os h, Below.tape h, Below.output h, Below.size h, fun k hk _ _ => Below.block h k hk⟩

theorem IsReq.lay {w w' : World} {q g : Nat} {fr to : ByteArray} {u : Bool} {sq : Int} (h : IsReq w q g fr to u sq) (hl : Lay w w') : IsReq w' q g fr to u sq := by
  obtain ⟨⟨cs, hc⟩, h1, h2, h3, h4, h5⟩ := h
  have hq := lt_of_heap hc
  exact ⟨⟨cs, (hl.heap hq).trans hc⟩, (hl.cell hq).trans h1, (hl.cell hq).trans h2, (hl.cell hq).trans h3, (hl.cell hq).trans h4, (hl.cell hq).trans h5⟩
theorem IsGroup.lay {w w' : World} {g : Nat} (h : IsGroup w g) (hl : Lay w w') : IsGroup w' g := by
  obtain ⟨⟨cs, hc⟩, h1⟩ := h
  have hq := lt_of_heap hc
  exact ⟨⟨cs, (hl.heap hq).trans hc⟩, (hl.cell hq).trans h1⟩
theorem IsWalk.lay {w w' : World} {b : Nat} {sv : Value} (h : IsWalk w b sv) (hl : Lay w w') : IsWalk w' b sv := by
  obtain ⟨⟨cs, hc⟩, h1, h2, h3, h4⟩ := h
  have hq := lt_of_heap hc
  exact ⟨⟨cs, (hl.heap hq).trans hc⟩, (hl.cell hq).trans h1, (hl.cell hq).trans h2, (hl.cell hq).trans h3, (hl.frozen hq).trans h4⟩

theorem IsReq.moved {w w' : World} {b : Nat} {row : Option Nat} {q g : Nat} {fr to : ByteArray} {u : Bool} {sq : Int} (h : IsReq w q g fr to u sq) (hm : Moved w w' b row) (hb : q ≠ b) (hr : some q ≠ row) : IsReq w' q g fr to u sq := by
  obtain ⟨⟨cs, hc⟩, h1, h2, h3, h4, h5⟩ := h
  have e := hm.block q (lt_of_heap hc) hb hr
  have hcell : ∀ o, w'.cell? ⟨q, o, none⟩ = w.cell? ⟨q, o, none⟩ := fun o => World.cell?_of_block e
  exact ⟨⟨cs, e.trans hc⟩, (hcell _).trans h1, (hcell _).trans h2, (hcell _).trans h3, (hcell _).trans h4, (hcell _).trans h5⟩
theorem IsGroup.moved {w w' : World} {b : Nat} {row : Option Nat} {g : Nat} (h : IsGroup w g) (hm : Moved w w' b row) (hb : g ≠ b) (hr : some g ≠ row) : IsGroup w' g := by
  obtain ⟨⟨cs, hc⟩, h1⟩ := h
  have e := hm.block g (lt_of_heap hc) hb hr
  exact ⟨⟨cs, e.trans hc⟩, (World.cell?_of_block (a := ⟨g, 15, none⟩) e).trans h1⟩
end Go.Proofs.Qxb6614041aDoor.Base
