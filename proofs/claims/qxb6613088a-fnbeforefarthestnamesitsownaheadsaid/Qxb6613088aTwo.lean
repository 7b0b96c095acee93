import Derived.Test.Qxb6613088aAhead
import Derived.Test.Qxb6613088aTexts
namespace Go.Proofs.Qxb6613088a.Two
open Go.ChangeShapes Go.WideShapes Go.ChangeAt Go.RowKit
open Go.Proofs.Qxb6613088a.Keys (Laid)
set_option linter.unusedVariables false

theorem up1 (a : Addr) (s : ByteArray) (w : World) :
    (Instr.mapUpdate 49 (.map (some w.heap.size)) (.pointer (some a)) (.string s)).run Try.prog (w.alloc (.map #[] 0)).drew = .ok () (w.alloc (.map #[{ key := .pointer (some a), val := .string s, born := 0 }] 1)).drew := by
  show (Instr.mapUpdate 49 (.map (some w.heap.size)) (.pointer (some a)) (.string s)).run Try.prog (w.drew.alloc (.map #[] 0)) = .ok () (w.drew.alloc (.map #[{ key := .pointer (some a), val := .string s, born := 0 }] 1))
  exact (PtrMap.update_first Try.underlying49 Try.underlying31 (MapKept.heap_alloc w.drew _).1).trans (congrArg (Result.ok ()) (PtrMap.set_last w.drew _ _))

theorem up2 (a b : Addr) (s t : ByteArray) (w : World) (ca cb : Array Value) (ta tb : TypeId) (hne : b ≠ a) (ha : w.heap[a.block]? = some (.cells ca ta (0, 0))) (hb : w.heap[b.block]? = some (.cells cb tb (0, 0))) :
    (Instr.mapUpdate 49 (.map (some w.heap.size)) (.pointer (some b)) (.string t)).run Try.prog (w.alloc (.map #[{ key := .pointer (some a), val := .string s, born := 0 }] 1)).drew
      = .ok () (w.alloc (.map #[{ key := .pointer (some a), val := .string s, born := 0 }, { key := .pointer (some b), val := .string t, born := 1 }] 2)).drew := by
  obtain ⟨j, hj, hz⟩ := Ahead.info48'
  have la := (Array.getElem?_eq_some_iff.1 ha).1
  have lb := (Array.getElem?_eq_some_iff.1 hb).1
  show (Instr.mapUpdate 49 (.map (some w.heap.size)) (.pointer (some b)) (.string t)).run Try.prog (w.drew.alloc (.map #[{ key := .pointer (some a), val := .string s, born := 0 }] 1))
      = .ok () (w.drew.alloc (.map #[{ key := .pointer (some a), val := .string s, born := 0 }, { key := .pointer (some b), val := .string t, born := 1 }] 2))
  exact (PtrMap.update_second Try.underlying49 Try.underlying31 hj hz hne ((Below.heap_alloc w.drew _ _ la).trans ha) ((Below.heap_alloc w.drew _ _ lb).trans hb) (MapKept.heap_alloc w.drew _).1).trans (congrArg (Result.ok ()) (PtrMap.set_last w.drew _ _))

/-- a map of two entries, under different keys: what each look-up gives, in every world with at most new blocks -/
theorem looks {W3 : World} {r : Nat} {a b : Addr} {s t : ByteArray} {ca cb : Array Value} {ta tb : TypeId} (hne : b ≠ a) (hr : r < W3.heap.size) (ha : W3.heap[a.block]? = some (.cells ca ta (0, 0))) (hb : W3.heap[b.block]? = some (.cells cb tb (0, 0)))
    (hm : W3.heap[r]? = some (.map #[{ key := .pointer (some a), val := .string s, born := 0 }, { key := .pointer (some b), val := .string t, born := 1 }] 2)) :
    (∀ W, Laid W3 W → (Instr.lookup 49 (.map (some r)) (.pointer (some a)) false).run Try.prog W = .ok (.string s) W)
    ∧ (∀ W, Laid W3 W → (Instr.lookup 49 (.map (some r)) (.pointer (some b)) false).run Try.prog W = .ok (.string t) W) := by
  obtain ⟨j, hj, hz⟩ := Ahead.info48'
  have la := (Array.getElem?_eq_some_iff.1 ha).1
  have lb := (Array.getElem?_eq_some_iff.1 hb).1
  exact ⟨fun W hW => PtrMap.lookup_first (l := [{ key := .pointer (some b), val := .string t, born := 1 }]) Try.underlying49 Try.underlying31 hj ((hW.heap hr).trans hm),
    fun W hW => PtrMap.lookup_second Try.underlying49 Try.underlying31 hj hz hne ((hW.heap la).trans ha) ((hW.heap lb).trans hb) ((hW.heap hr).trans hm)⟩

theorem looks2 (w : World) {a b : Addr} {s t : ByteArray} {ca cb : Array Value} {ta tb : TypeId} (c : Array Value) (tc : TypeId) (ha : w.heap[a.block]? = some (.cells ca ta (0, 0))) (hb : w.heap[b.block]? = some (.cells cb tb (0, 0))) (hne : b ≠ a) :
    (∀ W, Laid ((w.alloc (.map #[{ key := .pointer (some a), val := .string s, born := 0 }, { key := .pointer (some b), val := .string t, born := 1 }] 2)).alloc (.cells c tc)).drew W → (Instr.lookup 49 (.map (some w.heap.size)) (.pointer (some a)) false).run Try.prog W = .ok (.string s) W)
    ∧ (∀ W, Laid ((w.alloc (.map #[{ key := .pointer (some a), val := .string s, born := 0 }, { key := .pointer (some b), val := .string t, born := 1 }] 2)).alloc (.cells c tc)).drew W → (Instr.lookup 49 (.map (some w.heap.size)) (.pointer (some b)) false).run Try.prog W = .ok (.string t) W) := by
  have la := (Array.getElem?_eq_some_iff.1 ha).1
  have lb := (Array.getElem?_eq_some_iff.1 hb).1
  have hl : Laid w ((w.alloc (.map #[{ key := .pointer (some a), val := .string s, born := 0 }, { key := .pointer (some b), val := .string t, born := 1 }] 2)).alloc (.cells c tc)).drew := (((Laid.refl w).allocMap _ _).alloc _ _).drew
  refine looks hne (by simp; omega) ((hl.heap la).trans ha) ((hl.heap lb).trans hb) ?_
  exact (Below.heap_alloc (w.alloc _) _ _ (by simp)).trans (MapKept.heap_alloc w _).1

set_option maxHeartbeats 400000 in
theorem place18 (a b : Addr) (s t : ByteArray) (w : World) (ca cb : Array Value) (ta tb : TypeId) (hne : b ≠ a) (ha : w.heap[a.block]? = some (.cells ca ta (0, 0))) (hb : w.heap[b.block]? = some (.cells cb tb (0, 0))) :
    Calls Try.prog 18 #[.pointer (some a), .string s, .pointer (some b), .string t] w fun e w' => e = .returned (.pointer (some ⟨w.heap.size + 1, 0, none⟩)) ∧ Laid w w' ∧ w'.heap.size = w.heap.size + 2 ∧ w'.cell? ⟨w.heap.size + 1, 36, none⟩ = some (.map (some w.heap.size))
      ∧ (∀ W, Laid w' W → (Instr.lookup 49 (.map (some w.heap.size)) (.pointer (some a)) false).run Try.prog W = .ok (.string s) W)
      ∧ (∀ W, Laid w' W → (Instr.lookup 49 (.map (some w.heap.size)) (.pointer (some b)) false).run Try.prog W = .ok (.string t) W) := by
  have la := (Array.getElem?_eq_some_iff.1 ha).1
  have lb := (Array.getElem?_eq_some_iff.1 hb).1
  have hmm := @run_makeMap Try.prog
  have u1 := up1 a s w
  have u2 := up1 b t w
  have u3 := up2 a b s t w ca cb ta tb hne ha hb
  have u4 := up2 b a t s w cb ca tb ta (Ne.symm hne) hb ha
  have Ha : Hid (w.heap[a.block]? = some (.cells ca ta (0, 0))) := ha
  have Hb : Hid (w.heap[b.block]? = some (.cells cb tb (0, 0))) := hb
  clear ha hb
  go_enter Try.func18, Try.ntmps18
  go_wp2
  go_region_held3 (fun v => True) (trivial) (fail)
  all_goals
    go_wp2
    go_ret
    refine ⟨rfl, (((Laid.refl w).allocMap _ _).alloc _ _).drew, by simp, by simp, ?_⟩
  · exact looks2 w _ _ Ha.out Hb.out hne
  · exact (looks2 w _ _ Hb.out Ha.out (Ne.symm hne)).symm

theorem three (W : World) (ck ca : Array Value) (tk ta : TypeId) :
    (((W.alloc (.cells ck tk)).alloc (.cells ca ta)).alloc (.cells ca ta)).heap.size = W.heap.size + 3
    ∧ (((W.alloc (.cells ck tk)).alloc (.cells ca ta)).alloc (.cells ca ta)).heap[W.heap.size + 1]? = some (.cells ca ta (0, 0))
    ∧ (((W.alloc (.cells ck tk)).alloc (.cells ca ta)).alloc (.cells ca ta)).heap[W.heap.size + 1 + 1]? = some (.cells ca ta (0, 0)) := by
  have e1 : (W.alloc (.cells ck tk)).heap.size = W.heap.size + 1 := by simp
  have e2 : ((W.alloc (.cells ck tk)).alloc (.cells ca ta)).heap.size = W.heap.size + 1 + 1 := by simp
  refine ⟨by simp, ?_, ?_⟩
  · rw [Below.heap_alloc _ _ _ (by rw [e2]; omega), ← e1]
    exact (MapKept.heap_alloc _ _).1
  · rw [← e2]
    exact (MapKept.heap_alloc _ _).1

/-! ### The texts -/
/-- the column, the operator, the text up to the name -/
def preOf (c : ByteArray) (d : Bool) : ByteArray := c ++ Keys.opOf (!d) false ++ Ahead.headS
theorem text_eq (c : ByteArray) (d : Bool) (s : ByteArray) : Ahead.textOf c d s = preOf c d ++ (s ++ ⟨#[41]⟩) := by
  unfold Ahead.textOf preOf
  rw [ByteArray.append_assoc (a := c ++ Keys.opOf (!d) false ++ Ahead.headS)]
theorem op_size (d : Bool) : (Keys.opOf d false).size = 3 := by cases d <;> rfl
theorem pre_size (c : ByteArray) (d : Bool) : (preOf c d).size = c.size + 25 := by
  unfold preOf
  rw [ByteArray.size_append, ByteArray.size_append, op_size]
  rfl
theorem pre_left (c : ByteArray) (d : Bool) : preOf c d = c ++ (Keys.opOf (!d) false ++ Ahead.headS) := by
  unfold preOf
  rw [ByteArray.append_assoc]

theorem prefix_pre (c : ByteArray) (d : Bool) (w : World) (h : c.size ≤ 1048576) :
    Calls Try.prog 20 #[.string (preOf c d), .string c] w fun e w' => e = .returned (.bool true) ∧ Laid w w' := by
  have := Texts.prefix_app c (Keys.opOf (!d) false ++ Ahead.headS) w (by rw [← pre_left, pre_size]; omega)
  rw [← pre_left] at this
  exact this
theorem suffix_pre (c : ByteArray) (d : Bool) (w : World) (h : c.size ≤ 1048576) :
    Calls Try.prog 19 #[.string (preOf c d), .string ⟨#[40, 83, 69, 76, 69, 67, 84, 32, 102, 97, 114, 116, 104, 101, 115, 116, 32, 70, 82, 79, 77, 32]⟩] w fun e w' => e = .returned (.bool true) ∧ Laid w w' :=
  Texts.suffix_app (c ++ Keys.opOf (!d) false) Ahead.headS w (by have := pre_size c d; unfold preOf at this; omega)
theorem prefix_text (c : ByteArray) (d : Bool) (t : ByteArray) (w : World) (h : c.size ≤ 1048576) (ht : t.size ≤ 1048577) :
    Calls Try.prog 20 #[.string (preOf c d ++ t), .string c] w fun e w' => e = .returned (.bool true) ∧ Laid w w' := by
  have e : preOf c d ++ t = c ++ (Keys.opOf (!d) false ++ Ahead.headS ++ t) := by rw [pre_left, ByteArray.append_assoc (a := c)]
  have hz : (preOf c d ++ t).size ≤ 9000000 := by rw [ByteArray.size_append, pre_size]; omega
  rw [e] at hz ⊢
  exact Texts.prefix_app _ _ w hz
theorem suffix_text (c : ByteArray) (d : Bool) (t : ByteArray) (w : World) (h : c.size ≤ 1048576) (ht : t.size ≤ 1048577) :
    Calls Try.prog 19 #[.string (preOf c d ++ t), .string (⟨#[40, 83, 69, 76, 69, 67, 84, 32, 102, 97, 114, 116, 104, 101, 115, 116, 32, 70, 82, 79, 77, 32]⟩ ++ t)] w fun e w' => e = .returned (.bool true) ∧ Laid w w' := by
  have e : preOf c d ++ t = (c ++ Keys.opOf (!d) false) ++ (Ahead.headS ++ t) := by unfold preOf; rw [ByteArray.append_assoc (a := c ++ Keys.opOf (!d) false)]
  have hz : (preOf c d ++ t).size ≤ 9000000 := by rw [ByteArray.size_append, pre_size]; omega
  rw [e] at hz ⊢
  exact Texts.suffix_app _ _ w hz
theorem suffix_own (c : ByteArray) (d : Bool) (t : ByteArray) (w : World) (h : c.size ≤ 1048576) (ht : t.size ≤ 1048577) :
    Calls Try.prog 19 #[.string (preOf c d ++ t), .string t] w fun e w' => e = .returned (.bool true) ∧ Laid w w' :=
  Texts.suffix_app _ _ w (by rw [ByteArray.size_append, pre_size]; omega)

theorem toList_inj {a b : ByteArray} (h : a.toList = b.toList) : a = b := by
  rw [ByteArray.toList_eq, ByteArray.toList_eq] at h
  exact ByteArray.ext (Array.toList_inj.1 h)
theorem text_ne (c : ByteArray) (d : Bool) (t : ByteArray) : ((preOf c (!d) ++ t).toList == (preOf c d ++ t).toList) = false := by
  rw [beq_eq_false_iff_ne]
  intro h
  have h1 := toList_inj h
  have h2 : (c.data.toList ++ ((Keys.opOf (!!d) false).data.toList ++ (Ahead.headS.data.toList ++ t.data.toList))) = (c.data.toList ++ ((Keys.opOf (!d) false).data.toList ++ (Ahead.headS.data.toList ++ t.data.toList))) := by
    have := congrArg (fun x : ByteArray => x.data.toList) h1
    simpa [preOf, ByteArray.data_append] using this
  have h3 := List.append_cancel_left h2
  have h4 := List.append_cancel_right h3
  revert h4
  cases d <;> decide
theorem cut_pre (c : ByteArray) (d : Bool) (t : ByteArray) : (preOf c d ++ t).extract 0 (c.size + 25) = preOf c d := by
  rw [← pre_size c d]
  apply ByteArray.ext
  simp [ByteArray.data_extract, ByteArray.data_append]
end Go.Proofs.Qxb6613088a.Two
