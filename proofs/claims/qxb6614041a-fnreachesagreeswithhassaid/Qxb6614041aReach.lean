import Derived.Test.Qxb6614041aRows
import Derived.WalkKit
import Derived.ProofKit
import Derived.Laws.Cover1
namespace Go.Proofs.Qxb6614041a.Reach
open Go.ChangeShapes Go.WideShapes Go.ChangeAt Go.RowKit
set_option linter.unusedVariables false

/-! ### The plain law: Go's order on byte strings is total -/
theorem tri : ∀ (x y : List UInt8), Op.bytesLess y x = !(Op.bytesLess x y || x == y)
  | [], [] => rfl
  | [], _ :: _ => rfl
  | _ :: _, [] => rfl
  | a :: x, b :: y => by
    have h := tri x y
    simp only [Op.bytesLess]
    rw [h]
    rcases Nat.lt_trichotomy a.toNat b.toNat with h1 | h1 | h1
    · have e1 : a < b := UInt8.lt_iff_toNat_lt.2 h1
      have e2 : ¬ b < a := fun h => by have := UInt8.lt_iff_toNat_lt.1 h; omega
      have e3 : ¬ b = a := fun h => by subst h; omega
      simp [e1, e2, e3]
    · have e0 : a = b := UInt8.toNat_inj.1 h1
      subst e0
      have e2 : ¬ a < a := fun h => by have := UInt8.lt_iff_toNat_lt.1 h; omega
      simp [e2]
    · have e1 : b < a := UInt8.lt_iff_toNat_lt.2 h1
      have e2 : ¬ a < b := fun h => by have := UInt8.lt_iff_toNat_lt.1 h; omega
      have e3 : ¬ a = b := fun h => by subst h; omega
      simp [e1, e2, e3]

theorem irr : ∀ (x : List UInt8), Op.bytesLess x x = false
  | [] => rfl
  | a :: x => by
    have e2 : ¬ a < a := fun h => by have := UInt8.lt_iff_toNat_lt.1 h; omega
    simp [Op.bytesLess, e2, irr x]

/-! ### The walks -/
theorem grown_trans {a b c : World} (h : Grown a b) (k : Grown b c) : Grown a c :=
  ⟨World.keptBut_trans h.1 k.1, fun x => (k.2.1 x).trans (h.2.1 x), Nat.le_trans h.2.2 k.2.2⟩

/-- six cells in two blocks that lie, behind a call that turns nothing old -/
theorem keep_two {W v0 v1 : World} {x0 x1 x2 y0 y1 y2 : Value} (hb : Below v0.heap.size v0 v1) (hg : Grown v0 v1)
    (h : v0.cell? ⟨W.heap.size, 0, none⟩ = some x0 ∧ v0.cell? ⟨W.heap.size, 1, none⟩ = some x1 ∧ v0.cell? ⟨W.heap.size, 2, none⟩ = some x2
      ∧ v0.cell? ⟨W.heap.size + 1, 0, none⟩ = some y0 ∧ v0.cell? ⟨W.heap.size + 1, 1, none⟩ = some y1 ∧ v0.cell? ⟨W.heap.size + 1, 2, none⟩ = some y2
      ∧ Grown W v0 ∧ W.heap.size + 2 ≤ v0.heap.size) :
    v1.cell? ⟨W.heap.size, 0, none⟩ = some x0 ∧ v1.cell? ⟨W.heap.size, 1, none⟩ = some x1 ∧ v1.cell? ⟨W.heap.size, 2, none⟩ = some x2
      ∧ v1.cell? ⟨W.heap.size + 1, 0, none⟩ = some y0 ∧ v1.cell? ⟨W.heap.size + 1, 1, none⟩ = some y1 ∧ v1.cell? ⟨W.heap.size + 1, 2, none⟩ = some y2
      ∧ Grown W v1 ∧ W.heap.size + 2 ≤ v1.heap.size := by
  obtain ⟨h0, h1, h2, h3, h4, h5, h6, h7⟩ := h
  refine ⟨?_, ?_, ?_, ?_, ?_, ?_, grown_trans h6 hg, Nat.le_trans h7 hg.2.2⟩
  · rw [hb.cell (by show W.heap.size < _; omega)]; exact h0
  · rw [hb.cell (by show W.heap.size < _; omega)]; exact h1
  · rw [hb.cell (by show W.heap.size < _; omega)]; exact h2
  · rw [hb.cell (by show W.heap.size + 1 < _; omega)]; exact h3
  · rw [hb.cell (by show W.heap.size + 1 < _; omega)]; exact h4
  · rw [hb.cell (by show W.heap.size + 1 < _; omega)]; exact h5

theorem bytesA (a0 a1 a3 : ByteArray) (a2 : Bool) (w0 : a0.size ≤ maxLen) (w1 : a1.size ≤ maxLen) (w3 : a3.size ≤ maxLen) (w : World) :
    Calls Try.prog 5 #[.string a0, .string a1, .bool a2, .string a3] w fun e w' => (∃ b, e = .returned (.bool b)) ∧ w' = w := by
  unfold maxLen at w0 w1 w3
  go_enter Try.func5, Try.ntmps5
  go_wp2
  all_goals (go_ret; exact ⟨⟨_, rfl⟩, rfl⟩)

theorem bytesB (a0 a1 a3 : ByteArray) (a2 : Bool) (w0 : a0.size ≤ maxLen) (w1 : a1.size ≤ maxLen) (w3 : a3.size ≤ maxLen) (w : World) :
    Calls Try.prog 8 #[.string a0, .string a1, .bool a2, .string a3] w fun e w' => (∃ b, e = .returned (.bool b)) ∧ w' = w := by
  unfold maxLen at w0 w1 w3
  go_enter Try.func8, Try.ntmps8
  go_wp2
  all_goals (go_ret; exact ⟨⟨_, rfl⟩, rfl⟩)

theorem has6 (f t k : ByteArray) (u : Bool) (w : World) :
    Calls Try.prog 6 #[.agg #[.string f, .string t, .bool u], .string k] w fun e w' => e = .returned (.bool (!(Op.bytesLess k.toList f.toList) && (u || Op.bytesLess k.toList t.toList))) ∧ Below w.heap.size w w' ∧ Grown w w' := by
  cases h1 : Op.bytesLess k.toList f.toList
  all_goals cases u
  all_goals
    go_enter Try.func6, Try.ntmps6
    go_wp2
    go_ret
    exact ⟨rfl, ((Below.refl _ _).alloc (Nat.le_refl _) _).alloc (by simp) _, ((Grown.refl _).alloc _ _).alloc _ _⟩

theorem reaches7 (f t k : ByteArray) (u : Bool) (w : World) :
    Calls Try.prog 7 #[.agg #[.string f, .string t, .bool u], .string k] w fun e w' => e = .returned (.bool (u || !Op.bytesLess t.toList k.toList)) ∧ Below w.heap.size w w' ∧ Grown w w' := by
  cases u
  all_goals
    go_enter Try.func7, Try.ntmps7
    go_wp2
    go_ret
    exact ⟨rfl, ((Below.refl _ _).alloc (Nat.le_refl _) _).alloc (by simp) _, ((Grown.refl _).alloc _ _).alloc _ _⟩

theorem within9 (f t f' t' : ByteArray) (u u' : Bool) (w : World) :
    Calls Try.prog 9 #[.agg #[.string f, .string t, .bool u], .agg #[.string f', .string t', .bool u']] w fun e w' => e = .returned (.bool (!Op.bytesLess f.toList f'.toList && (u' || (!u && (Op.bytesLess t.toList t'.toList || t.toList == t'.toList))))) ∧ Below w.heap.size w w' ∧ Grown w w' := by
  cases h1 : Op.bytesLess f.toList f'.toList
  all_goals cases u
  all_goals cases u'
  all_goals
    go_enter Try.func9, Try.ntmps9
    go_wp2
    go_ret
    exact ⟨rfl, ((((Below.refl _ _).alloc (Nat.le_refl _) _).alloc (by simp) _).alloc (by simp; omega) _).alloc (by simp; omega) _, ((((Grown.refl _).alloc _ _).alloc _ _).alloc _ _).alloc _ _⟩
end Go.Proofs.Qxb6614041a.Reach
