import Derived.Test.Qxb6613088aKeys
import Derived.Test.Qxb6613088aPtrMap
import Derived.Carry
import Derived.Deep.RegionHeld3
import Derived.WalkSpells
namespace Go.Proofs.Qxb6613088a.Ahead
open Go.ChangeShapes Go.WideShapes Go.ChangeAt Go.RowKit
open Go.Proofs.Qxb6613088a.Keys (Laid)
set_option linter.unusedVariables false

theorem seek13 (n : Int) (b : Bool) (w : World) :
    Calls Try.prog 13 #[.int .i64 n, .bool b] w fun e w' => e = .returned (.pointer (some ⟨w.heap.size, 0, none⟩)) ∧ w' = w.alloc (.cells #[.int .i64 n, .nilFunc, .bool b] 48) := by
  go_enter Try.func13, Try.ntmps13
  go_wp2
  go_ret
  exact ⟨rfl, rfl⟩

theorem place14 (a : Addr) (s : ByteArray) (w : World) :
    Calls Try.prog 14 #[.pointer (some a), .string s] w fun e w' => e = .returned (.pointer (some ⟨w.heap.size + 1, 0, none⟩)) ∧ Laid w w' ∧ w'.heap.size = w.heap.size + 2 ∧ w'.heap[w.heap.size]? = some (.map #[{ key := .pointer (some a), val := .string s, born := 0 }] 1) ∧ w'.cell? ⟨w.heap.size + 1, 36, none⟩ = some (.map (some w.heap.size)) := by
  have hmm := @run_makeMap Try.prog
  have hu : (Instr.mapUpdate 49 (.map (some w.heap.size)) (.pointer (some a)) (.string s)).run Try.prog (w.alloc (.map #[] 0)) = .ok () (w.alloc (.map #[{ key := .pointer (some a), val := .string s, born := 0 }] 1)) := by
    rw [PtrMap.update_first Try.underlying49 Try.underlying31 (MapKept.heap_alloc w _).1, PtrMap.set_last]
  go_enter Try.func14, Try.ntmps14
  go_wp2
  go_ret
  refine ⟨rfl, ((Laid.refl w).allocMap _ _).alloc _ _, by simp, ?_, by simp⟩
  rw [Below.heap_alloc _ _ _ (by simp)]
  exact (MapKept.heap_alloc w _).1

/-- the text between the operator and the name -/
def headS : ByteArray := ⟨#[40, 83, 69, 76, 69, 67, 84, 32, 102, 97, 114, 116, 104, 101, 115, 116, 32, 70, 82, 79, 77, 32]⟩
/-- the condition that 'beforeFarthest' writes -/
def textOf (c : ByteArray) (d : Bool) (s : ByteArray) : ByteArray := c ++ Keys.opOf (!d) false ++ headS ++ s ++ ⟨#[41]⟩

/-- what the region of 'beforeFarthest' reads: the key in its box, the field of the placeholders -/
def Reads (w : World) (c0 c1 c2 c3 c4 c5 c6 c7 : Value) (pb r : Nat) (v : World) : Prop :=
  v.cell? ⟨w.heap.size, 0, none⟩ = some c0 ∧ v.cell? ⟨w.heap.size, 1, none⟩ = some c1 ∧ v.cell? ⟨w.heap.size, 2, none⟩ = some c2 ∧ v.cell? ⟨w.heap.size, 3, none⟩ = some c3
    ∧ v.cell? ⟨w.heap.size, 4, none⟩ = some c4 ∧ v.cell? ⟨w.heap.size, 5, none⟩ = some c5 ∧ v.cell? ⟨w.heap.size, 6, none⟩ = some c6 ∧ v.cell? ⟨w.heap.size, 7, none⟩ = some c7
    ∧ v.cell? ⟨pb, 36, none⟩ = some (.map (some r)) ∧ Laid w v ∧ w.heap.size < v.heap.size

theorem Reads.keep {w : World} {c0 c1 c2 c3 c4 c5 c6 c7 : Value} {pb r : Nat} {v v' : World} (hpb : pb < w.heap.size) (hl : Laid v v') (h : Reads w c0 c1 c2 c3 c4 c5 c6 c7 pb r v) : Reads w c0 c1 c2 c3 c4 c5 c6 c7 pb r v' := by
  obtain ⟨h0, h1, h2, h3, h4, h5, h6, h7, h8, h9, h10⟩ := h
  refine ⟨?_, ?_, ?_, ?_, ?_, ?_, ?_, ?_, ?_, h9.trans hl, Nat.lt_of_lt_of_le h10 hl.size⟩
  · rw [hl.cell (by exact h10)]; exact h0
  · rw [hl.cell (by exact h10)]; exact h1
  · rw [hl.cell (by exact h10)]; exact h2
  · rw [hl.cell (by exact h10)]; exact h3
  · rw [hl.cell (by exact h10)]; exact h4
  · rw [hl.cell (by exact h10)]; exact h5
  · rw [hl.cell (by exact h10)]; exact h6
  · rw [hl.cell (by exact h10)]; exact h7
  · rw [hl.cell (show pb < _ from Nat.lt_trans hpb h10)]; exact h8

theorem Reads.start {w : World} {c0 c1 c2 c3 c4 c5 c6 c7 : Value} {pb r : Nat} (hpb : pb < w.heap.size) (hp : w.cell? ⟨pb, 36, none⟩ = some (.map (some r))) :
    Reads w c0 c1 c2 c3 c4 c5 c6 c7 pb r (w.alloc (.cells #[c0, c1, c2, c3, c4, c5, c6, c7] 25)).drew := by
  have hl : Laid w (w.alloc (.cells #[c0, c1, c2, c3, c4, c5, c6, c7] 25)).drew := ((Laid.refl w).alloc _ _).drew
  refine ⟨?_, ?_, ?_, ?_, ?_, ?_, ?_, ?_, (hl.cell hpb).trans hp, hl, by simp⟩ <;> simp

set_option maxHeartbeats 1000000 in
theorem before26 (ad : Addr) (pb r : Nat) (s : ByteArray) (a0 a1 a6 a7 : ByteArray) (a2 a3 a4 : Bool) (a5 : Int) (w : World)
    (hs : s.size ≤ 1048576) (h1 : a1.size ≤ 1048576) (hpb : pb < w.heap.size)
    (hp : w.cell? ⟨pb, 36, none⟩ = some (.map (some r)))
    (hl : ∀ W : World, Laid w W → (Instr.lookup 49 (.map (some r)) (.pointer (some ad)) false).run Try.prog W = .ok (.string s) W) :
    Calls Try.prog 26 #[.pointer (some ad), .agg #[.string a0, .string a1, .bool a2, .bool a3, .bool a4, .int .u8 a5, .string a6, .string a7], .pointer (some ⟨pb, 0, none⟩)] w fun e w' => e = .returned (.string (textOf a1 a2 s)) ∧ Laid w w' := by
  have q1 : ¬ 9223372036854775807 < a1.size + 3 := by omega
  have q2 : ¬ 9223372036854775807 < a1.size + 3 + 22 := by omega
  have q3 : ¬ 9223372036854775807 < a1.size + 3 + 22 + s.size := by omega
  have q4 : ¬ 9223372036854775807 < a1.size + 3 + 22 + s.size + 1 := by omega
  cases a2
  · go_enter Try.func26, Try.ntmps26
    go_wp2
    go_region_held3 (fun v => v.cell? ⟨w.heap.size, 0, none⟩ = some (.string a0) ∧ v.cell? ⟨w.heap.size, 1, none⟩ = some (.string a1) ∧ v.cell? ⟨w.heap.size, 2, none⟩ = some (.bool false) ∧ v.cell? ⟨w.heap.size, 3, none⟩ = some (.bool a3)
        ∧ v.cell? ⟨w.heap.size, 4, none⟩ = some (.bool a4) ∧ v.cell? ⟨w.heap.size, 5, none⟩ = some (.int .u8 a5) ∧ v.cell? ⟨w.heap.size, 6, none⟩ = some (.string a6) ∧ v.cell? ⟨w.heap.size, 7, none⟩ = some (.string a7)
        ∧ v.cell? ⟨pb, 36, none⟩ = some (.map (some r)) ∧ Laid w v ∧ w.heap.size < v.heap.size)
      (first | assumption | exact Reads.start hpb hp | (refine Reads.keep hpb hlay ?_; assumption))
      (first | (go_at_call 24; refine (Keys.reversed24 _ _ _ _ _ _ _ _ _).mono ?_; rintro e w1 ⟨rfl, hlay⟩) | (go_at_call 25; refine (Keys.beyond25 _ _ _ _ _ _ _ _ _ _).mono ?_; rintro e w1 ⟨rfl, hlay⟩; simp only [Keys.opOf]))
    all_goals
      rename_i hS
      go_wp2
      go_ret
      exact ⟨rfl, hS.2.2.2.2.2.2.2.2.2.1⟩
  · go_enter Try.func26, Try.ntmps26
    go_wp2
    go_region_held3 (fun v => v.cell? ⟨w.heap.size, 0, none⟩ = some (.string a0) ∧ v.cell? ⟨w.heap.size, 1, none⟩ = some (.string a1) ∧ v.cell? ⟨w.heap.size, 2, none⟩ = some (.bool true) ∧ v.cell? ⟨w.heap.size, 3, none⟩ = some (.bool a3)
        ∧ v.cell? ⟨w.heap.size, 4, none⟩ = some (.bool a4) ∧ v.cell? ⟨w.heap.size, 5, none⟩ = some (.int .u8 a5) ∧ v.cell? ⟨w.heap.size, 6, none⟩ = some (.string a6) ∧ v.cell? ⟨w.heap.size, 7, none⟩ = some (.string a7)
        ∧ v.cell? ⟨pb, 36, none⟩ = some (.map (some r)) ∧ Laid w v ∧ w.heap.size < v.heap.size)
      (first | assumption | exact Reads.start hpb hp | (refine Reads.keep hpb hlay ?_; assumption))
      (first | (go_at_call 24; refine (Keys.reversed24 _ _ _ _ _ _ _ _ _).mono ?_; rintro e w1 ⟨rfl, hlay⟩) | (go_at_call 25; refine (Keys.beyond25 _ _ _ _ _ _ _ _ _ _).mono ?_; rintro e w1 ⟨rfl, hlay⟩; simp only [Keys.opOf]))
    all_goals
      rename_i hS
      go_wp2
      go_ret
      exact ⟨rfl, hS.2.2.2.2.2.2.2.2.2.1⟩

theorem before15 (ad : Addr) (pb r : Nat) (s : ByteArray) (a0 a1 a6 a7 : ByteArray) (a2 a3 a4 : Bool) (a5 : Int) (w : World)
    (hs : s.size ≤ 1048576) (h1 : a1.size ≤ 1048576) (hpb : pb < w.heap.size)
    (hp : w.cell? ⟨pb, 36, none⟩ = some (.map (some r)))
    (hl : ∀ W : World, Laid w W → (Instr.lookup 49 (.map (some r)) (.pointer (some ad)) false).run Try.prog W = .ok (.string s) W) :
    Calls Try.prog 15 #[.pointer (some ad), .agg #[.string a0, .string a1, .bool a2, .bool a3, .bool a4, .int .u8 a5, .string a6, .string a7], .pointer (some ⟨pb, 0, none⟩)] w fun e w' => e = .returned (.string (textOf a1 a2 s)) ∧ Laid w w' := by
  have H : Hid (∀ W : World, Laid w W → (Instr.lookup 49 (.map (some r)) (.pointer (some ad)) false).run Try.prog W = .ok (.string s) W) := hl
  clear hl
  go_enter Try.func15, Try.ntmps15
  go_wp2_with fail
  have hb : Laid w (w.alloc (.cells #[.string a0, .string a1, .bool a2, .bool a3, .bool a4, .int .u8 a5, .string a6, .string a7] 25)) := (Laid.refl w).alloc _ _
  refine (before26 ad pb r s _ _ _ _ _ _ _ _ _ hs h1 (Nat.lt_of_lt_of_le hpb hb.size) ((hb.cell hpb).trans hp) (fun W hW => H.out W (hb.trans hW))).mono ?_
  rintro e w1 ⟨rfl, hl1⟩
  go_wp2
  go_ret
  exact ⟨rfl, hb.trans hl1⟩

/-- the operator that 'zzNegatedOperator' makes of 'beyond(true)' -/
theorem negated16 (d : Bool) (w : World) :
    Calls Try.prog 16 #[.string (Keys.opOf d true)] w fun e w' => e = .returned (.string (Keys.opOf (!d) false)) ∧ w' = w := by
  cases d
  all_goals
    simp only [Keys.opOf]
    go_enter Try.func16, Try.ntmps16
    go_wp2
    go_ret
    exact ⟨rfl, rfl⟩

theorem info48 : (Try.prog.info? 48).map (·.size) = some 3 := by kernel_rfl
theorem info48' : ∃ j, Try.prog.info? 48 = some j ∧ j.size ≠ 0 := by
  have h := info48
  cases hj : Try.prog.info? 48 with
  | none => rw [hj] at h; cases h
  | some j => rw [hj] at h; exact ⟨j, rfl, by simp at h; omega⟩

/-- the look-up in a map of one entry, wherever new blocks have been laid since -/
theorem look_one {W3 : World} {r : Nat} {ad : Addr} {s : ByteArray} (hr : r < W3.heap.size) (hm : W3.heap[r]? = some (.map #[{ key := .pointer (some ad), val := .string s, born := 0 }] 1)) :
    ∀ W, Laid W3 W → (Instr.lookup 49 (.map (some r)) (.pointer (some ad)) false).run Try.prog W = .ok (.string s) W := fun W hW => by
  obtain ⟨j, hj, _⟩ := info48'
  exact PtrMap.lookup_first (l := []) Try.underlying49 Try.underlying31 hj ((hW.heap hr).trans hm)
end Go.Proofs.Qxb6613088a.Ahead
