import Derived.Test.Qxb6613088aRows
import Derived.WalkKit
import Derived.ProofKit
import Derived.Laws.Cover1
import Derived.Carry
namespace Go.Proofs.Qxb6613088a.Keys
open Go.ChangeShapes Go.WideShapes Go.ChangeAt Go.RowKit
set_option linter.unusedVariables false

/-! ### What a call may have done to the world: new blocks alone -/
def Laid (w w' : World) : Prop := Below w.heap.size w w' ∧ Grown w w'
theorem Laid.refl (w : World) : Laid w w := ⟨Below.refl _ _, Grown.refl _⟩
theorem Laid.trans {a b c : World} (h : Laid a b) (k : Laid b c) : Laid a c :=
  ⟨h.1.trans (k.1.mono h.2.2.2), World.keptBut_trans h.2.1 k.2.1, fun x => (k.2.2.1 x).trans (h.2.2.1 x), Nat.le_trans h.2.2.2 k.2.2.2⟩
theorem Laid.alloc {a b : World} (h : Laid a b) (c : Array Value) (t : TypeId) : Laid a (b.alloc (.cells c t)) :=
  ⟨h.1.alloc h.2.2.2 _, h.2.alloc c t⟩
theorem Laid.allocMap {a b : World} (h : Laid a b) (es : Array MapEntry) (n : Nat) : Laid a (b.alloc (.map es n)) :=
  ⟨h.1.alloc h.2.2.2 _, h.2.allocMap es n⟩
theorem Laid.heap {a b : World} (h : Laid a b) {k : Nat} (hk : k < a.heap.size) : b.heap[k]? = a.heap[k]? := h.1.block k hk
theorem Laid.setCell {a b : World} (h : Laid a b) {p : Addr} (hp : a.heap.size ≤ p.block) (v : Value) : Laid a (b.setCell p v) :=
  ⟨h.1.setCell hp v, h.2.setCell hp v⟩
theorem Laid.drew {a b : World} (h : Laid a b) : Laid a b.drew := ⟨h.1.drew, h.2.drew⟩
theorem Laid.cell {a b : World} (h : Laid a b) {p : Addr} (hp : p.block < a.heap.size) : b.cell? p = a.cell? p := h.1.cell hp
theorem Laid.frozen {a b : World} (h : Laid a b) {p : Addr} (hp : p.block < a.heap.size) : b.frozen? p = a.frozen? p := h.1.frozen hp
theorem Laid.size {a b : World} (h : Laid a b) : a.heap.size ≤ b.heap.size := h.2.2.2

/-! ### zzBytes: whatever it answers -/
theorem bytes7 (a0 a1 a6 a7 : ByteArray) (a2 a3 a4 : Bool) (a5 : Int) (w0 : a0.size ≤ maxLen) (w1 : a1.size ≤ maxLen) (w6 : a6.size ≤ maxLen) (w7 : a7.size ≤ maxLen) (w : World) :
    Calls Try.prog 7 #[.string a0, .string a1, .bool a2, .bool a3, .bool a4, .int .u8 a5, .string a6, .string a7] w fun e w' => (∃ b, e = .returned (.bool b) ∧ (b = true → a0.size + a1.size + a6.size + a7.size ≤ 1048576)) ∧ w' = w := by
  unfold maxLen at w0 w1 w6 w7
  go_enter Try.func7, Try.ntmps7
  go_wp2
  all_goals (go_ret; refine ⟨⟨_, rfl, fun h => ?_⟩, rfl⟩; first | omega | cases h)

theorem bytes12 (a0 a1 a6 a7 a10 : ByteArray) (a2 a3 a4 a9 : Bool) (a5 a8 : Int) (w0 : a0.size ≤ maxLen) (w1 : a1.size ≤ maxLen) (w6 : a6.size ≤ maxLen) (w7 : a7.size ≤ maxLen) (w10 : a10.size ≤ maxLen) (w : World) :
    Calls Try.prog 12 #[.string a0, .string a1, .bool a2, .bool a3, .bool a4, .int .u8 a5, .string a6, .string a7, .int .i64 a8, .bool a9, .string a10] w fun e w' => (∃ b, e = .returned (.bool b) ∧ (b = true → a0.size + a1.size + a6.size + a7.size + a10.size ≤ 1048576)) ∧ w' = w := by
  unfold maxLen at w0 w1 w6 w7 w10
  go_enter Try.func12, Try.ntmps12
  go_wp2
  all_goals (go_ret; refine ⟨⟨_, rfl, fun h => ?_⟩, rfl⟩; first | omega | cases h)

theorem bytes17 (a0 a1 a6 a7 a10 a11 : ByteArray) (a2 a3 a4 a9 : Bool) (a5 a8 : Int) (w0 : a0.size ≤ maxLen) (w1 : a1.size ≤ maxLen) (w6 : a6.size ≤ maxLen) (w7 : a7.size ≤ maxLen) (w10 : a10.size ≤ maxLen) (w11 : a11.size ≤ maxLen) (w : World) :
    Calls Try.prog 17 #[.string a0, .string a1, .bool a2, .bool a3, .bool a4, .int .u8 a5, .string a6, .string a7, .int .i64 a8, .bool a9, .string a10, .string a11] w fun e w' => (∃ b, e = .returned (.bool b) ∧ (b = true → a0.size + a1.size + a6.size + a7.size + a10.size + a11.size ≤ 1048576)) ∧ w' = w := by
  unfold maxLen at w0 w1 w6 w7 w10 w11
  go_enter Try.func17, Try.ntmps17
  go_wp2
  all_goals (go_ret; refine ⟨⟨_, rfl, fun h => ?_⟩, rfl⟩; first | omega | cases h)

theorem new8 (a0 a1 a6 a7 : ByteArray) (a2 a3 a4 : Bool) (a5 : Int) (w : World) :
    Calls Try.prog 8 #[.string a0, .string a1, .bool a2, .bool a3, .bool a4, .int .u8 a5, .string a6, .string a7] w fun e w' => e = .returned (.agg #[.string a0, .string a1, .bool a2, .bool a3, .bool a4, .int .u8 a5, .string a6, .string a7]) ∧ Laid w w' := by
  go_enter Try.func8, Try.ntmps8
  go_wp2
  refine bodyPost_ret (v := .agg #[.string a0, .string a1, .bool a2, .bool a3, .bool a4, .int .u8 a5, .string a6, .string a7]) (by simp [results, Try.results8, go_sem]) rfl ⟨rfl, ?_⟩
  exact (Laid.refl _).alloc _ _

theorem smallest9 (a0 a1 a6 a7 : ByteArray) (a2 a3 a4 : Bool) (a5 : Int) (w : World) :
    Calls Try.prog 9 #[.agg #[.string a0, .string a1, .bool a2, .bool a3, .bool a4, .int .u8 a5, .string a6, .string a7]] w fun e w' => e = .returned (.bool (a4 || (a3 != a2))) ∧ Laid w w' := by
  cases a4
  all_goals
    go_enter Try.func9, Try.ntmps9
    go_wp2
    go_ret
    exact ⟨rfl, ((Laid.refl _).alloc _ _).alloc _ _⟩

theorem reversed24 (a0 a1 a6 a7 : ByteArray) (a2 a3 a4 : Bool) (a5 : Int) (w : World) :
    Calls Try.prog 24 #[.agg #[.string a0, .string a1, .bool a2, .bool a3, .bool a4, .int .u8 a5, .string a6, .string a7]] w fun e w' => e = .returned (.agg #[.string a0, .string a1, .bool !a2, .bool !a3, .bool a4, .int .u8 a5, .string a6, .string a7]) ∧ Laid w w' := by
  go_enter Try.func24, Try.ntmps24
  go_wp2
  exact bodyPost_ret (v := .agg #[.string a0, .string a1, .bool !a2, .bool !a3, .bool a4, .int .u8 a5, .string a6, .string a7]) (by simp [results, Try.results24, go_sem]) rfl ⟨rfl, ((Laid.refl _).alloc _ _).alloc _ _⟩

theorem reversed10 (a0 a1 a6 a7 : ByteArray) (a2 a3 a4 : Bool) (a5 : Int) (w : World) :
    Calls Try.prog 10 #[.agg #[.string a0, .string a1, .bool a2, .bool a3, .bool a4, .int .u8 a5, .string a6, .string a7]] w fun e w' => e = .returned (.agg #[.string a0, .string a1, .bool !a2, .bool !a3, .bool a4, .int .u8 a5, .string a6, .string a7]) ∧ Laid w w' := by
  go_enter Try.func10, Try.ntmps10
  go_wp2_with fail
  refine (reversed24 _ _ _ _ _ _ _ _ _).mono ?_
  rintro e w1 ⟨rfl, hl⟩
  have hs := hl.size
  have hc (o : Nat) := hl.cell (p := ⟨w.heap.size + 1, o, none⟩) (by simp)
  have hf (o : Nat) := hl.frozen (p := ⟨w.heap.size + 1, o, none⟩) (by simp)
  simp at hs
  have ht : w.heap.size + 1 < w1.heap.size := by omega
  go_wp2
  refine bodyPost_ret (v := .agg #[.string a0, .string a1, .bool !a2, .bool !a3, .bool a4, .int .u8 a5, .string a6, .string a7]) (by simp [results, Try.results10, go_sem, hc]) rfl ⟨rfl, ?_⟩
  have h0 : Laid w w1 := (((Laid.refl w).alloc _ _).alloc _ _).trans hl
  have hb : w.heap.size ≤ w.heap.size + 1 := Nat.le_succ _
  exact (((((((h0.setCell hb _).setCell hb _).setCell hb _).setCell hb _).setCell hb _).setCell hb _).setCell hb _).setCell hb _

/-- the operator that 'beyond' gives -/
def opOf : Bool → Bool → ByteArray
  | true, true => ⟨#[32, 60, 61, 32]⟩
  | true, false => ⟨#[32, 60, 32]⟩
  | false, true => ⟨#[32, 62, 61, 32]⟩
  | false, false => ⟨#[32, 62, 32]⟩

theorem beyond25 (a0 a1 a6 a7 : ByteArray) (a2 a3 a4 : Bool) (a5 : Int) (o : Bool) (w : World) :
    Calls Try.prog 25 #[.agg #[.string a0, .string a1, .bool a2, .bool a3, .bool a4, .int .u8 a5, .string a6, .string a7], .bool o] w fun e w' => e = .returned (.string (opOf a2 o)) ∧ Laid w w' := by
  cases a2 <;> cases o
  all_goals
    go_enter Try.func25, Try.ntmps25
    go_wp2
    go_ret
    exact ⟨rfl, (Laid.refl _).alloc _ _⟩

theorem beyond11 (a0 a1 a6 a7 : ByteArray) (a2 a3 a4 : Bool) (a5 : Int) (o : Bool) (w : World) :
    Calls Try.prog 11 #[.agg #[.string a0, .string a1, .bool a2, .bool a3, .bool a4, .int .u8 a5, .string a6, .string a7], .bool o] w fun e w' => e = .returned (.string (opOf a2 o)) ∧ Laid w w' := by
  cases a2 <;> cases o
  all_goals
    go_enter Try.func11, Try.ntmps11
    go_wp2
    go_ret
    exact ⟨rfl, ((Laid.refl _).alloc _ _).alloc _ _⟩
end Go.Proofs.Qxb6613088a.Keys
