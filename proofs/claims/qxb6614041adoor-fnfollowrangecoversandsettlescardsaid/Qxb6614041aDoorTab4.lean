import Derived.Test.Qxb6614041aDoorSized
namespace Go.Proofs.Qxb6614041aDoor.Tab4
open Go.RowKit
open Go.Proofs.Qxb6614041aDoor.Base
open Go.Proofs.Qxb6614041aDoor.Sized (Req At)
set_option linter.unusedVariables false

theorem heap_set {v : World} {b : Nat} {c : Array Value} {ty : TypeId} (o : Nat) (x : Value) (h : v.heap[b]? = some (.cells c ty (0, 0))) : (v.setCell ⟨b, o, none⟩ x).heap[b]? = some (.cells (c.setIfInBounds o x) ty (0, 0)) := by
  simp [World.setCell, Array.getElem?_modify, h]
theorem cell_of {v : World} {b : Nat} {c : Array Value} {ty : TypeId} (h : v.heap[b]? = some (.cells c ty (0, 0))) (o : Nat) : v.cell? ⟨b, o, none⟩ = c[o]? := by
  simp [World.cell?, h]
theorem frozen_of {v : World} {b : Nat} {c : Array Value} {ty : TypeId} (h : v.heap[b]? = some (.cells c ty (0, 0))) (o : Nat) : v.frozen? ⟨b, o, none⟩ = false := by
  simp [World.frozen?, h]

/-- three tables of m places, the first t of them filled by f -/
structure Tab (v : World) (sb qb cb m t : Nat) (f : Nat → Req) : Prop where
  s : ∃ c, v.heap[sb]? = some (.cells c 38 (0, 0)) ∧ c.size = m * 3 ∧ ∀ j, j < t → c[j * 3]? = some (.string (f j).fr) ∧ c[j * 3 + 1]? = some (.string (f j).to) ∧ c[j * 3 + 2]? = some (.bool (f j).unb)
  q : ∃ c, v.heap[qb]? = some (.cells c 22 (0, 0)) ∧ c.size = m ∧ ∀ j, j < t → c[j]? = some (.int .u64 (f j).seq)
  c : ∃ c, v.heap[cb]? = some (.cells c 4 (0, 0)) ∧ c.size = m ∧ ∀ j, j < t → c[j]? = some (.bool (f j).sec)

theorem Tab.lay {v v' : World} {sb qb cb m t : Nat} {f : Nat → Req} (h : Tab v sb qb cb m t f) (hl : Lay v v') : Tab v' sb qb cb m t f := by
  obtain ⟨⟨c1, h1, r1⟩, ⟨c2, h2, r2⟩, ⟨c3, h3, r3⟩⟩ := h
  exact ⟨⟨c1, (hl.heap (lt_of_heap h1)).trans h1, r1⟩, ⟨c2, (hl.heap (lt_of_heap h2)).trans h2, r2⟩, ⟨c3, (hl.heap (lt_of_heap h3)).trans h3, r3⟩⟩

theorem Tab.start {v : World} {c1 c2 c3 : Array Value} {sb qb cb m : Nat} (f : Nat → Req) (h1 : v.heap[sb]? = some (.cells c1 38 (0, 0))) (s1 : c1.size = m * 3) (h2 : v.heap[qb]? = some (.cells c2 22 (0, 0))) (s2 : c2.size = m) (h3 : v.heap[cb]? = some (.cells c3 4 (0, 0))) (s3 : c3.size = m) : Tab v sb qb cb m 0 f :=
  ⟨⟨c1, h1, s1, fun j hj => by omega⟩, ⟨c2, h2, s2, fun j hj => by omega⟩, ⟨c3, h3, s3, fun j hj => by omega⟩⟩

/-- the law's three makes -/
theorem three_tabs (W : World) (f : Nat → Req) {c1 c2 c3 : Array Value} {m : Nat} (s1 : c1.size = m * 3) (s2 : c2.size = m) (s3 : c3.size = m) :
    Tab (((W.alloc (.cells c1 38)).alloc (.cells c2 22)).alloc (.cells c3 4)) W.heap.size (W.heap.size + 1) (W.heap.size + 1 + 1) m 0 f := by
  have e1 : (W.alloc (.cells c1 38)).heap.size = W.heap.size + 1 := by simp
  have e2 : ((W.alloc (.cells c1 38)).alloc (.cells c2 22)).heap.size = W.heap.size + 1 + 1 := by simp
  have h1 := (MapKept.heap_alloc W (.cells c1 38)).1
  have h2 := (MapKept.heap_alloc (W.alloc (.cells c1 38)) (.cells c2 22)).1
  have h3 := (MapKept.heap_alloc ((W.alloc (.cells c1 38)).alloc (.cells c2 22)) (.cells c3 4)).1
  rw [e1] at h2
  rw [e2] at h3
  exact Tab.start f ((Below.heap_alloc _ _ _ (by omega)).trans ((Below.heap_alloc _ _ _ (by omega)).trans h1)) s1 ((Below.heap_alloc _ _ _ (by omega)).trans h2) s2 h3 s3

/-- the blocks differ: they are of three types -/
theorem Tab.ne {v : World} {sb qb cb m t : Nat} {f : Nat → Req} (h : Tab v sb qb cb m t f) : sb ≠ qb ∧ sb ≠ cb ∧ qb ≠ cb := by
  obtain ⟨⟨c1, h1, r1⟩, ⟨c2, h2, r2⟩, ⟨c3, h3, r3⟩⟩ := h
  refine ⟨fun e => ?_, fun e => ?_, fun e => ?_⟩
  · rw [e, h2] at h1; simp at h1
  · rw [e, h3] at h1; simp at h1
  · rw [e, h3] at h2; simp at h2

theorem Tab.cells {v : World} {sb qb cb m t : Nat} {f : Nat → Req} (h : Tab v sb qb cb m t f) {j : Nat} (hj : j < t) :
    v.cell? ⟨sb, j * 3, none⟩ = some (.string (f j).fr) ∧ v.cell? ⟨sb, j * 3 + 1, none⟩ = some (.string (f j).to) ∧ v.cell? ⟨sb, j * 3 + 2, none⟩ = some (.bool (f j).unb) ∧ v.cell? ⟨qb, j, none⟩ = some (.int .u64 (f j).seq) ∧ v.cell? ⟨cb, j, none⟩ = some (.bool (f j).sec) := by
  obtain ⟨⟨c1, h1, _, r1⟩, ⟨c2, h2, _, r2⟩, ⟨c3, h3, _, r3⟩⟩ := h
  obtain ⟨x, y, z⟩ := r1 j hj
  exact ⟨(cell_of h1 _).trans x, (cell_of h1 _).trans y, (cell_of h1 _).trans z, (cell_of h2 _).trans (r2 j hj), (cell_of h3 _).trans (r3 j hj)⟩

/-- a place that is there -/
theorem Tab.there {v : World} {sb qb cb m t : Nat} {f : Nat → Req} (h : Tab v sb qb cb m t f) {j : Nat} (hj : j < m) :
    (∃ x0 x1 x2 x3 x4, v.cell? ⟨sb, j * 3, none⟩ = some x0 ∧ v.cell? ⟨sb, j * 3 + 1, none⟩ = some x1 ∧ v.cell? ⟨sb, j * 3 + 2, none⟩ = some x2 ∧ v.cell? ⟨qb, j, none⟩ = some x3 ∧ v.cell? ⟨cb, j, none⟩ = some x4)
    ∧ (∀ o, v.frozen? ⟨sb, o, none⟩ = false) ∧ (∀ o, v.frozen? ⟨qb, o, none⟩ = false) ∧ (∀ o, v.frozen? ⟨cb, o, none⟩ = false) := by
  obtain ⟨⟨c1, h1, s1, r1⟩, ⟨c2, h2, s2, r2⟩, ⟨c3, h3, s3, r3⟩⟩ := h
  refine ⟨⟨_, _, _, _, _, (cell_of h1 _).trans (Array.getElem?_eq_getElem (by omega)), (cell_of h1 _).trans (Array.getElem?_eq_getElem (by omega)), (cell_of h1 _).trans (Array.getElem?_eq_getElem (by omega)), (cell_of h2 _).trans (Array.getElem?_eq_getElem (by omega)), (cell_of h3 _).trans (Array.getElem?_eq_getElem (by omega))⟩, frozen_of h1, frozen_of h2, frozen_of h3⟩

/-- one place more is filled -/
theorem Tab.next {v : World} {sb qb cb m t : Nat} {f : Nat → Req} (h : Tab v sb qb cb m t f) (ht : t < m) :
    Tab (((((v.setCell ⟨sb, t * 3, none⟩ (.string (f t).fr)).setCell ⟨sb, t * 3 + 1, none⟩ (.string (f t).to)).setCell ⟨sb, t * 3 + 2, none⟩ (.bool (f t).unb)).setCell ⟨qb, t, none⟩ (.int .u64 (f t).seq)).setCell ⟨cb, t, none⟩ (.bool (f t).sec)) sb qb cb m (t + 1) f := by
  obtain ⟨n1, n2, n3⟩ := h.ne
  obtain ⟨⟨c1, h1, s1, r1⟩, ⟨c2, h2, s2, r2⟩, ⟨c3, h3, s3, r3⟩⟩ := h
  refine ⟨⟨((c1.setIfInBounds (t * 3) (.string (f t).fr)).setIfInBounds (t * 3 + 1) (.string (f t).to)).setIfInBounds (t * 3 + 2) (.bool (f t).unb), ?_, by simpa using s1, fun j hj => ?_⟩, ⟨c2.setIfInBounds t (.int .u64 (f t).seq), ?_, by simpa using s2, fun j hj => ?_⟩, ⟨c3.setIfInBounds t (.bool (f t).sec), ?_, by simpa using s3, fun j hj => ?_⟩⟩
  · rw [Below.heap_setCell _ ⟨cb, t, none⟩ _ sb n2, Below.heap_setCell _ ⟨qb, t, none⟩ _ sb n1]
    exact heap_set _ _ (heap_set _ _ (heap_set _ _ h1))
  · by_cases e : j = t
    · subst e
      simp only [Array.getElem?_setIfInBounds]
      refine ⟨?_, ?_, ?_⟩ <;> simp [s1] <;> omega
    · obtain ⟨x, y, z⟩ := r1 j (by omega)
      simp only [Array.getElem?_setIfInBounds]
      refine ⟨?_, ?_, ?_⟩
      · rw [if_neg (by omega), if_neg (by omega), if_neg (by omega)]; exact x
      · rw [if_neg (by omega), if_neg (by omega), if_neg (by omega)]; exact y
      · rw [if_neg (by omega), if_neg (by omega), if_neg (by omega)]; exact z
  · rw [Below.heap_setCell _ ⟨cb, t, none⟩ _ qb n3]
    refine heap_set _ _ ?_
    rw [Below.heap_setCell _ ⟨sb, t * 3 + 2, none⟩ _ qb n1.symm, Below.heap_setCell _ ⟨sb, t * 3 + 1, none⟩ _ qb n1.symm, Below.heap_setCell _ ⟨sb, t * 3, none⟩ _ qb n1.symm]
    exact h2
  · by_cases e : j = t
    · subst e
      simp only [Array.getElem?_setIfInBounds]
      simp [s2]; omega
    · simp only [Array.getElem?_setIfInBounds]
      rw [if_neg (by omega)]; exact r2 j (by omega)
  · refine heap_set _ _ ?_
    rw [Below.heap_setCell _ ⟨qb, t, none⟩ _ cb n3.symm, Below.heap_setCell _ ⟨sb, t * 3 + 2, none⟩ _ cb n2.symm, Below.heap_setCell _ ⟨sb, t * 3 + 1, none⟩ _ cb n2.symm, Below.heap_setCell _ ⟨sb, t * 3, none⟩ _ cb n2.symm]
    exact h3
  · by_cases e : j = t
    · subst e
      simp only [Array.getElem?_setIfInBounds]
      simp [s3]; omega
    · simp only [Array.getElem?_setIfInBounds]
      rw [if_neg (by omega)]; exact r3 j (by omega)
end Go.Proofs.Qxb6614041aDoor.Tab4
