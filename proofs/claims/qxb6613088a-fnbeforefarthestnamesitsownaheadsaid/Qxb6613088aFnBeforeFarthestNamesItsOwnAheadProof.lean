/-
  For every input the Go law FnBeforeFarthestNamesItsOwnAhead returns true. The frame is the shell that was given with the seat; the walk is ours.
-/
import Derived.Test.Qxb6613088aRows
import Derived.WalkKit
import Derived.ProofKit
import Derived.OpenShut
import Derived.ShutString
import Derived.Test.Qxb6613088aTwo
namespace Go.Proofs.Qxb6613088a.fnBeforeFarthestNamesItsOwnAhead
open Go.ChangeShapes Go.WideShapes Go.ChangeAt Go.RowKit
open Go.ChangeMaps (open_string shut_string)
set_option linter.unusedVariables false      -- a walk need not use every 'w<i>' (that an integer argument fits its kind)

theorem own : ownKnob Try.prog.godebug = none := by kernel_rfl

/-! ### STEP 1: THE WALK: the Go text returns true. 'Grown w w'': the world has at most new blocks (Derived/RowKit3.lean). Part the cases AHEAD of 'go_enter' where a test parts the walk; take each callee by a contract of your own. -/
set_option maxRecDepth 100000 in
set_option maxHeartbeats 4000000 in
theorem walk (a0 : ByteArray) (a1 : ByteArray) (a2 : Bool) (a3 : Bool) (a4 : Bool) (a5 : Int) (a6 : ByteArray) (a7 : ByteArray) (a8 : Int) (a9 : Bool) (a10 : ByteArray) (a11 : ByteArray) (w0 : a0.size ≤ maxLen) (w1 : a1.size ≤ maxLen) (w5 : (Lit.int .u8 a5).wf = true) (w6 : a6.size ≤ maxLen) (w7 : a7.size ≤ maxLen) (w8 : (Lit.int .i64 a8).wf = true) (w10 : a10.size ≤ maxLen) (w11 : a11.size ≤ maxLen) (w : World) :
    Calls Try.prog 5 #[.string a0, .string a1, .bool a2, .bool a3, .bool a4, .int .u8 a5, .string a6, .string a7, .int .i64 a8, .bool a9, .string a10, .string a11] w fun e w' => e = .returned (.bool true) ∧ Grown w w' := by
  have k0 := w0; have k1 := w1; have k6 := w6; have k7 := w7; have k10 := w10; have k11 := w11
  unfold maxLen at w0 w1 w6 w7 w10 w11
  go_enter Try.func5, Try.ntmps5
  go_wp2_with fail
  refine (Keys.bytes17 _ _ _ _ _ _ _ _ _ _ _ _ k0 k1 k6 k7 k10 k11 _).mono ?_
  rintro e w' ⟨⟨b, rfl, hb⟩, rfl⟩
  cases b
  · go_wp2
    go_ret
    exact ⟨rfl, Grown.refl _⟩
  have hsum := hb rfl
  clear hb k0 k1 k6 k7 k10 k11
  have l0 : (a0.size : Int) ≤ 1048576 := by omega
  have l1 : (a0.size : Int) + a1.size ≤ 1048576 := by omega
  have l6 : (a0.size : Int) + a1.size + a6.size ≤ 1048576 := by omega
  have l7 : (a0.size : Int) + a1.size + a6.size + a7.size ≤ 1048576 := by omega
  have l10 : (a0.size : Int) + a1.size + a6.size + a7.size + a10.size ≤ 1048576 := by omega
  have l11 : (a0.size : Int) + a1.size + a6.size + a7.size + a10.size + a11.size ≤ 1048576 := by omega
  have n1 : a1.size ≤ 1048576 := by omega
  have n10 : a10.size ≤ 1048576 := by omega
  have n11 : a11.size ≤ 1048576 := by omega
  have q1 : ¬ 9223372036854775807 < a10.size + 1 := by omega
  have q2 : ¬ 9223372036854775807 < a11.size + 1 := by omega
  have q3 : ¬ 9223372036854775807 < 22 + (a10.size + 1) := by omega
  go_wp2_with fail
  refine (Keys.new8 _ _ _ _ _ _ _ _ _).mono ?_
  rintro e W1 ⟨rfl, hl1⟩
  go_wp2_with fail
  refine (Ahead.seek13 _ _ _).mono ?_
  rintro e W2 ⟨rfl, hw2⟩
  rw [hw2]
  clear hw2 W2
  go_wp2_with fail
  refine (Ahead.seek13 _ _ _).mono ?_
  rintro e W2 ⟨rfl, hw2⟩
  rw [hw2]
  clear hw2 W2
  go_wp2_with fail
  obtain ⟨eN, eA, eB⟩ := Two.three W1 #[.string a0, .string a1, .bool a2, .bool a3, .bool a4, .int .u8 a5, .string a6, .string a7] #[.int .i64 a8, .nilFunc, .bool a9] 25 48
  refine (Two.place18 ⟨W1.heap.size + 1, 0, none⟩ ⟨W1.heap.size + 1 + 1, 0, none⟩ _ _ _ _ _ _ _ (by simp) eA eB).mono ?_
  rintro e W3 ⟨rfl, hl3, hs3, hc3, hla, hlb⟩
  have hG := (((hl1.alloc _ _).alloc _ _).alloc _ _).trans hl3
  have hk (o : Nat) := hl3.cell (p := ⟨W1.heap.size, o, none⟩) (by rw [eN]; show W1.heap.size < _; omega)
  clear hl3 eA eB
  rw [eN] at hs3 hc3 hla hlb ⊢
  clear eN
  have Hc : Hid (W3.cell? ⟨W1.heap.size + 3 + 1, 36, none⟩ = some (.map (some (W1.heap.size + 3)))) := hc3
  have Hs : Hid (W3.heap.size = W1.heap.size + 3 + 2) := hs3
  have Ha : Hid (∀ W, Keys.Laid W3 W → (Instr.lookup 49 (.map (some (W1.heap.size + 3))) (.pointer (some ⟨W1.heap.size + 1, 0, none⟩)) false).run Try.prog W = .ok (.string a10) W) := hla
  have Hb : Hid (∀ W, Keys.Laid W3 W → (Instr.lookup 49 (.map (some (W1.heap.size + 3))) (.pointer (some ⟨W1.heap.size + 1 + 1, 0, none⟩)) false).run Try.prog W = .ok (.string a11) W) := hlb
  clear hc3 hs3 hla hlb
  go_wp2_with fail
  refine (Ahead.before15 _ _ _ _ _ _ _ _ _ _ _ _ _ n10 n1 (by rw [Hs.out]; omega) Hc.out Ha.out).mono ?_
  rintro e W4 ⟨rfl, hl4⟩
  have hk4 (o : Nat) := hl4.cell (p := ⟨W1.heap.size, o, none⟩) (by rw [Hs.out]; show W1.heap.size < _; omega)
  have HA4 : Keys.Laid W3 W4 := hl4
  rw [Two.text_eq]
  go_wp2_with fail
  refine (Ahead.before15 _ _ _ _ _ _ _ _ _ _ _ _ _ n11 n1 (Nat.lt_of_lt_of_le (by rw [Hs.out]; omega) hl4.size) ((hl4.cell (by rw [Hs.out]; show W1.heap.size + 3 + 1 < _; omega)).trans Hc.out) (fun W hW => Hb.out W (hl4.trans hW))).mono ?_
  rintro e W5 ⟨rfl, hl5⟩
  have hl35 := hl4.trans hl5
  have hk5 (o : Nat) := hl35.cell (p := ⟨W1.heap.size, o, none⟩) (by rw [Hs.out]; show W1.heap.size < _; omega)
  rw [Two.text_eq]
  go_wp2_with fail
  refine (Keys.reversed10 _ _ _ _ _ _ _ _ _).mono ?_
  rintro e W6 ⟨rfl, hl6⟩
  have hl36 := hl35.trans hl6
  go_wp2_with fail
  refine (Ahead.before15 _ _ _ _ _ _ _ _ _ _ _ _ _ n10 n1 (Nat.lt_of_lt_of_le (by rw [Hs.out]; omega) hl36.size) ((hl36.cell (by rw [Hs.out]; show W1.heap.size + 3 + 1 < _; omega)).trans Hc.out) (fun W hW => Ha.out W (hl36.trans hW))).mono ?_
  rintro e W7 ⟨rfl, hl7⟩
  have hG7 := hG.trans (hl36.trans hl7)
  rw [Two.text_eq]
  clear hk hk4 hk5 HA4 hl4 hl5 hl6 hl7 hl35 hl36 hG hl1 Ha Hb Hc Hs
  have z1 := Two.pre_size a1 a2
  have z2 := Two.pre_size a1 (!a2)
  have t10 : (a10 ++ ⟨#[41]⟩ : ByteArray).size ≤ 1048577 := by rw [ByteArray.size_append]; show a10.size + 1 ≤ _; omega
  have t11 : (a11 ++ ⟨#[41]⟩ : ByteArray).size ≤ 1048577 := by rw [ByteArray.size_append]; show a11.size + 1 ≤ _; omega
  go_wp2_with fail
  refine (Two.suffix_own _ _ _ _ n1 t10).mono ?_
  rintro e W8 ⟨rfl, hl8⟩
  go_wp2_with fail
  refine (Two.suffix_own _ _ _ _ n1 t11).mono ?_
  rintro e W9 ⟨rfl, hl9⟩
  have hG9 := (hG7.trans hl8).trans hl9
  clear hl8 hl9 hG7
  have x10 := Two.cut_pre a1 a2 (a10 ++ ⟨#[41]⟩)
  have x11 := Two.cut_pre a1 a2 (a11 ++ ⟨#[41]⟩)
  have xne := Two.text_ne a1 a2 (a10 ++ ⟨#[41]⟩)
  go_wp2_with fail
  refine (Two.prefix_pre _ _ _ n1).mono ?_
  rintro e W10 ⟨rfl, hl10⟩
  go_wp2_with fail
  refine (Two.suffix_pre _ _ _ n1).mono ?_
  rintro e W11 ⟨rfl, hl11⟩
  have hG11 := (hG9.trans hl10).trans hl11
  clear hl10 hl11 hG9
  go_wp2_with fail
  refine (Two.prefix_text _ _ _ _ n1 t10).mono ?_
  rintro e W12 ⟨rfl, hl12⟩
  go_wp2_with fail
  refine (Two.suffix_text _ _ _ _ n1 t10).mono ?_
  rintro e W13 ⟨rfl, hl13⟩
  go_wp2
  go_ret
  exact ⟨rfl, ((hG11.trans hl12).trans hl13).2⟩

/-! ### THE ROW's STEP: WRITTEN OUT: LEAVE IT -/
set_option maxRecDepth 100000 in
theorem lifted (os : Os) (started : os.Started) (H : Type) (enc : TypeId × Value → H) :
    ReturnsInHanded {} Try.checked os 5 .any (Rows.fnBeforeFarthestNamesItsOwnAheadSpec.pre6 enc Try.prog Try.f5 Rows.fnBeforeFarthestNamesItsOwnAheadRow.domain false) (Rows.fnBeforeFarthestNamesItsOwnAheadSpec.post enc Try.prog Try.f5 false true false false) := by
  refine returnsInHanded_of_change (C := Try.checked) own started (by kernel_rfl) Try.func5
    (ChangeSpec.witness6 (enc := enc) (C := Try.checked) false ⟨#[], #[.string ByteArray.empty, .string ByteArray.empty, .bool false, .bool false, .bool false, .int .u8 0, .string ByteArray.empty, .string ByteArray.empty, .int .i64 0, .bool false, .string ByteArray.empty, .string ByteArray.empty], []⟩ 8 (by kernel_rfl) (by kernel_rfl) (by kernel_rfl) (by kernel_rfl)) ?_
  intro W base args ds gs before hval0 hW hcnd _
  have hval : ∀ (j : Nat) t v, Try.f5.params[j]? = some t → args[j]? = some v → Value.okWide Try.prog W .any base t v := hval0
  have hW' := hW
  obtain ⟨p, q, hA0, hV, rfl, hfz, hnd⟩ := hW
  have hA : DataW.TrodAll enc Try.prog W 0 (fun _ => true) true Try.f5.params.toList args.toList ds p := hA0
  rw [Try.params5] at hA hval
  obtain ⟨v0, vs0, d0, ds0, p0, q0, hargs, rfl, rfl, h0, r0⟩ := trodAll_cons hA
  obtain ⟨v1, vs1, d1, ds1, p1, q1, rfl, rfl, rfl, h1, r1⟩ := trodAll_cons r0
  obtain ⟨v2, vs2, d2, ds2, p2, q2, rfl, rfl, rfl, h2, r2⟩ := trodAll_cons r1
  obtain ⟨v3, vs3, d3, ds3, p3, q3, rfl, rfl, rfl, h3, r3⟩ := trodAll_cons r2
  obtain ⟨v4, vs4, d4, ds4, p4, q4, rfl, rfl, rfl, h4, r4⟩ := trodAll_cons r3
  obtain ⟨v5, vs5, d5, ds5, p5, q5, rfl, rfl, rfl, h5, r5⟩ := trodAll_cons r4
  obtain ⟨v6, vs6, d6, ds6, p6, q6, rfl, rfl, rfl, h6, r6⟩ := trodAll_cons r5
  obtain ⟨v7, vs7, d7, ds7, p7, q7, rfl, rfl, rfl, h7, r7⟩ := trodAll_cons r6
  obtain ⟨v8, vs8, d8, ds8, p8, q8, rfl, rfl, rfl, h8, r8⟩ := trodAll_cons r7
  obtain ⟨v9, vs9, d9, ds9, p9, q9, rfl, rfl, rfl, h9, r9⟩ := trodAll_cons r8
  obtain ⟨v10, vs10, d10, ds10, p10, q10, rfl, rfl, rfl, h10, r10⟩ := trodAll_cons r9
  obtain ⟨v11, vs11, d11, ds11, p11, q11, rfl, rfl, rfl, h11, r11⟩ := trodAll_cons r10
  obtain ⟨rfl, rfl, rfl⟩ := trodAll_nil r11
  obtain rfl : args = #[v0, v1, v2, v3, v4, v5, v6, v7, v8, v9, v10, v11] := by cases args; simp_all
  obtain ⟨rfl, rfl⟩ := trodVars_none hV
  obtain ⟨a0, rfl, rfl, rfl, w0⟩ := open_string Try.underlying9 (hval 0 9 v0 rfl rfl) h0
  obtain ⟨a1, rfl, rfl, rfl, w1⟩ := open_string Try.underlying9 (hval 1 9 v1 rfl rfl) h1
  obtain ⟨a2, rfl, rfl, rfl⟩ := open_bool Try.underlying4 (hval 2 4 v2 rfl rfl) h2
  obtain ⟨a3, rfl, rfl, rfl⟩ := open_bool Try.underlying4 (hval 3 4 v3 rfl rfl) h3
  obtain ⟨a4, rfl, rfl, rfl⟩ := open_bool Try.underlying4 (hval 4 4 v4 rfl rfl) h4
  obtain ⟨a5, rfl, rfl, rfl, w5⟩ := open_int Try.underlying5 (hval 5 5 v5 rfl rfl) h5
  obtain ⟨a6, rfl, rfl, rfl, w6⟩ := open_string Try.underlying9 (hval 6 9 v6 rfl rfl) h6
  obtain ⟨a7, rfl, rfl, rfl, w7⟩ := open_string Try.underlying9 (hval 7 9 v7 rfl rfl) h7
  obtain ⟨a8, rfl, rfl, rfl, w8⟩ := open_int Try.underlying3 (hval 8 3 v8 rfl rfl) h8
  obtain ⟨a9, rfl, rfl, rfl⟩ := open_bool Try.underlying4 (hval 9 4 v9 rfl rfl) h9
  obtain ⟨a10, rfl, rfl, rfl, w10⟩ := open_string Try.underlying9 (hval 10 9 v10 rfl rfl) h10
  obtain ⟨a11, rfl, rfl, rfl, w11⟩ := open_string Try.underlying9 (hval 11 9 v11 rfl rfl) h11
  clear hA0 hval0
  simp only [List.append_nil] at hW'
  refine (walk a0 a1 a2 a3 a4 a5 a6 a7 a8 a9 a10 a11 w0 w1 w5 w6 w7 w8 w10 w11 W).mono fun e W' ⟨he, hg⟩ => ?_
  subst he
  exact ⟨_, rfl, post_of_same (pa := []) (pv := []) hW' (fun _ _ _ => (trodAll_cons_mk (shut_bool Try.underlying4 _) trodAll_mk0)) (fun sp _ => (trodAll_cons_mk (shut_string Try.underlying9 w0) (trodAll_cons_mk (shut_string Try.underlying9 w1) (trodAll_cons_mk (shut_bool Try.underlying4 _) (trodAll_cons_mk (shut_bool Try.underlying4 _) (trodAll_cons_mk (shut_bool Try.underlying4 _) (trodAll_cons_mk (shut_int Try.underlying5 w5) (trodAll_cons_mk (shut_string Try.underlying9 w6) (trodAll_cons_mk (shut_string Try.underlying9 w7) (trodAll_cons_mk (shut_int Try.underlying3 w8) (trodAll_cons_mk (shut_bool Try.underlying4 _) (trodAll_cons_mk (shut_string Try.underlying9 w10) (trodAll_cons_mk (shut_string Try.underlying9 w11) trodAll_mk0))))))))))))) (fun _ _ => rfl) rfl
    (hg.frame _) hg.2.1 (ok_one (by kernel_rfl) rfl (okWide_bool_mk Try.underlying4 _))⟩

theorem over : Rows.fnBeforeFarthestNamesItsOwnAheadRow.holds Try.pinned (OpenSpec.ofChange Rows.fnBeforeFarthestNamesItsOwnAheadSpec) :=
  OpenClaim.holds_of_wide 5 Try.f5 rfl rfl rfl rfl rfl rfl rfl ⟨rfl, rfl, rfl, rfl, rfl⟩ rfl rfl rfl rfl rfl (by kernel_rfl) Try.func5 (by kernel_rfl)
    (of_decide_eq_true (by kernel_rfl)) (by unfold Func.isWrapper; first | (rw [if_pos (by decide +kernel)]; kernel_rfl) | (rw [if_neg (by decide +kernel)]; exact ⟨rfl, rfl⟩))
    (fun os started H enc _ => lifted os started H enc)

/-- ████ THE STATEMENT ████ -/
theorem proved : Rows.FnBeforeFarthestNamesItsOwnAheadSaid :=
  over
end Go.Proofs.Qxb6613088a.fnBeforeFarthestNamesItsOwnAhead
