import Derived.Test.Qxb6614041aDoorKeep4
import Derived.Test.Qxb6614041aDoorNew
namespace Go.Proofs.Qxb6614041aDoor.Law4
open Go.RowKit
open Go.Proofs.Qxb6614041aDoor.Base
open Go.Proofs.Qxb6614041aDoor.Sized (Req At)
open Go.Proofs.Qxb6614041aDoor.Follow (SQ covB stepL Swept Done someEnd row_ne)
open Go.Proofs.Qxb6614041aDoor.Plain
open Go.Proofs.Qxb6614041aDoor.State
open Go.Proofs.Qxb6614041aDoor.Row4
open Go.Proofs.Qxb6614041aDoor.Tab4
open Go.Proofs.Qxb6614041aDoor.Keep4
set_option linter.unusedVariables false

set_option maxRecDepth 100000 in
set_option maxHeartbeats 20000000 in
theorem law4 (tgt : Int) (p : Option Addr) (b0 off n c : Nat) (R : Nat → Req) (w : World) (hp : ∀ k, k < n → p = some ⟨b0, off, none⟩) (hR : Hid (∀ k, k < n → At w b0 off k (R k))) (hn : (n : Int) ≤ 140737488355328) :
    Calls Tryd.prog 4 #[.int .u64 tgt, .slice p n c] w fun e w' => e = .returned (.bool true) ∧ Below w.heap.size w w' := by
  have HP : Hid (∀ k, k < n → p = some ⟨b0, off, none⟩) := hp
  clear hp
  have hmm := @run_makeMap Tryd.prog
  go_enter Tryd.func4, Tryd.ntmps4
  go_wp2_with fail
  refine (Sized.bytes18 tgt b0 off n c R w p HP.out hR hn).mono ?_
  rintro e w' ⟨⟨x, rfl⟩, hw⟩
  rw [hw]
  clear hw w'
  cases x
  · go_wp2
    go_ret
    exact ⟨rfl, Below.refl _ _⟩
  by_cases hbig : (1024 : Int) < n
  · go_wp2
    go_ret
    exact ⟨rfl, Below.refl _ _⟩
  have hsm : (n : Int) ≤ 1024 := by omega
  clear hbig
  go_wp2_with fail
  refine (Sized.sized6 b0 off n c R w p HP.out hR (by omega)).mono ?_
  rintro e w' ⟨⟨x, rfl⟩, hw⟩
  rw [hw]
  clear hw w'
  cases x
  · go_wp2
    go_ret
    exact ⟨rfl, Below.refl _ _⟩
  go_wp2_with fail
  refine (group7 _ _).mono ?_
  rintro e W1 ⟨g1, rfl, hg1, hg1', hG1, hl1⟩
  go_wp2_with fail
  refine (group7 _ _).mono ?_
  rintro e W2 ⟨g2, rfl, hg2, hg2', hG2, hl2⟩
  go_wp2_with fail
  refine (New.new9 _).mono ?_
  rintro e W3 ⟨m, rfl, hl3⟩
  go_wp2_with fail
  refine (walk8 _ _ _).mono ?_
  rintro e W4 ⟨b, rfl, hb, hW, hl4⟩
  have hl14 := hl2.trans (hl3.trans hl4)
  have hne : g1 ≠ g2 := by omega
  have hst : St w W4 R b g1 g2 0 (fun _ => 0) (.slice none 0 0) ((idx R 0).map (sq R g1 g2 (fun _ => 0))) :=
    ⟨⟨hW, World.ownsRow_nil _ _ _ _, fun s hs => by cases hs⟩, fun i hi => by omega, hG1.lay hl14, hG2.lay (hl3.trans hl4), hl1.trans hl14, by have := (hl1.trans (hl2.trans hl3)).size; omega⟩
  clear hW hl1 hl2 hl3 hl4 hl14 hG1 hG2 hg1 hg1' hg2 hg2' hb
  go_wp2_with fail
  refine (none19 _).mono ?_
  rintro e w' ⟨rfl, hw⟩
  rw [hw]
  clear hw w'
  have hqs : Qs w W4 0 (fun _ => 0) (.slice none 0 0) (.slice none 0 0) := ⟨World.ownsRow_nil _ _ _ _, .inl rfl⟩
  go_wp2_with fail
  obtain ⟨i0, hi0, hz0, hz1, hz2⟩ := info_parts Follow.info35
  go_loopw [8, 46] (fun qv i wr => ∃ (k : Nat) (blk : Nat → Nat) (sv : Value) (pq : Option Addr) (cq : Nat), k ≤ n ∧ i = .int .i64 k ∧ qv = .slice pq k cq ∧ St w wr R b g1 g2 k blk sv ((idx R k).map (sq R g1 g2 blk)) ∧ Qs w wr k blk sv (.slice pq k cq)) (fun _ i _ => n - (intOf i).toNat)
  case atStart => exact ⟨0, _, _, none, 0, by omega, rfl, rfl, hst, hqs⟩
  case round =>
    obtain ⟨k, blk, sv, pq, cq, hk, rfl, rfl, hS, hQ⟩ := hrel
    clear hst hqs
    by_cases hlt : k < n
    · obtain rfl := HP.out k hlt
      have hA := at_below (hR.out k hlt) hS.below
      obtain ⟨x0, x1, x2, x3, x4, x5⟩ := hA
      have i1 : (0 : Int) ≤ (k : Int) := by omega
      have i2 : (k : Int) < (n : Int) := by omega
      cases hsec : (R k).sec
      · have Hsec : Hid ((R k).sec = false) := hsec
        rw [hsec] at x5
        clear hsec
        go_wp2_with fail
        go_region_held3 (fun v => v.cell? ⟨b0, off + k * 6, none⟩ = some (.int .u64 (R k).owner) ∧ v.cell? ⟨b0, off + k * 6 + 1, none⟩ = some (.string (R k).fr) ∧ v.cell? ⟨b0, off + k * 6 + 2, none⟩ = some (.string (R k).to) ∧ v.cell? ⟨b0, off + k * 6 + 3, none⟩ = some (.bool (R k).unb)
            ∧ v.cell? ⟨b0, off + k * 6 + 4, none⟩ = some (.int .u64 (R k).seq) ∧ v.cell? ⟨b0, off + k * 6 + 5, none⟩ = some (.bool false) ∧ Lay wr v)
          (first | assumption | exact keep6 (W := wr) (Lay.refl wr).drew ⟨x0, x1, x2, x3, x4, x5, Lay.refl wr⟩ | exact keep6 (W := wr) ((Lay.refl wr).alloc _).drew ⟨x0, x1, x2, x3, x4, x5, Lay.refl wr⟩ | (refine keep6 hlay ?_; assumption) | (refine keep6 ((Lay.refl _).alloc _) ?_; assumption))
          (first | (go_at_call 11; refine (span11 _ _ _ _ _ _ _).mono ?_; rintro e w1 ⟨rfl, hlay⟩) | (go_at_call 10; refine (req10 _ _ _ _ _ _ _ _).mono ?_; rintro e w1 ⟨q, rfl, hq, hreq, hlay⟩))
        all_goals
          rename_i hSS
          have hlW := hSS.2.2.2.2.2.2
          have hreq' : IsReq w1 q (if (R k).sec then g2 else g1) (R k).fr (R k).to (R k).unb (R k).seq := by rw [Hsec.out]; exact hreq
          clear hSS hreq hlay hq x0 x1 x2 x3 x4 x5
          have Howns : Hid (w1.ownsRow w.heap.size 35 1 (.slice pq k cq) k ((List.range k).map (rptr blk))) := (hQ.lay hlW).row
          have hszW := Nat.le_trans hS.size hlW.size
          go_wp2_with (refine wpList_append_lies _ (by rfl) _ _ _ (by rfl) w.heap.size 35 i0 _ 1 8 Tryd.underlying47 hi0 hz0 hz1 hz2 rfl (by omega) (.slice pq k cq) k ((List.range k).map (rptr blk)) (by rfl) (Howns.out.alloc _) ⟨w1.heap.size, 0, none⟩ 1 1 [.pointer (some ⟨q, 0, none⟩)] (by rfl) (by rfl) (World.news_of_block (cs := #[.pointer (some ⟨q, 0, none⟩)]) (t := 35) (fr := (0, 0)) (heap_alloc_new w1 _)) (by simp [Value.oneCell']) (by omega) (by unfold maxLen; omega) (by omega) (by simp; omega) (w1.heap.size + 1) (by simp) ?_; intro gg cap w5 hown5 hgrow hat hlt5)
          obtain ⟨hS5, hreq5, hQ5⟩ := appended hS hQ hlW ((Lay.refl w1).alloc _) hreq' hown5 hgrow (hat.imp_right (fun h => by omega)) hlt5
          clear hown5 hgrow hat hlt5 Howns
          have hf := follow_new hne hS5 (Lay.refl w5) hreq5 (by omega)
          refine hf.mono ?_
          rintro e w2 ⟨⟨v, rfl⟩, hd⟩
          clear hf
          go_wp2
          obtain ⟨sv', hS', hQ'⟩ := followed hne hS5 hreq5 hQ5 hd
          exact ⟨⟨k + 1, _, sv', _, _, by omega, by go_num, rfl, hS', hQ'⟩, by simp [intOf]; omega⟩
      · have Hsec : Hid ((R k).sec = true) := hsec
        rw [hsec] at x5
        clear hsec
        go_wp2_with fail
        go_region_held3 (fun v => v.cell? ⟨b0, off + k * 6, none⟩ = some (.int .u64 (R k).owner) ∧ v.cell? ⟨b0, off + k * 6 + 1, none⟩ = some (.string (R k).fr) ∧ v.cell? ⟨b0, off + k * 6 + 2, none⟩ = some (.string (R k).to) ∧ v.cell? ⟨b0, off + k * 6 + 3, none⟩ = some (.bool (R k).unb)
            ∧ v.cell? ⟨b0, off + k * 6 + 4, none⟩ = some (.int .u64 (R k).seq) ∧ v.cell? ⟨b0, off + k * 6 + 5, none⟩ = some (.bool true) ∧ Lay wr v)
          (first | assumption | exact keep6 (W := wr) (Lay.refl wr).drew ⟨x0, x1, x2, x3, x4, x5, Lay.refl wr⟩ | exact keep6 (W := wr) ((Lay.refl wr).alloc _).drew ⟨x0, x1, x2, x3, x4, x5, Lay.refl wr⟩ | (refine keep6 hlay ?_; assumption) | (refine keep6 ((Lay.refl _).alloc _) ?_; assumption))
          (first | (go_at_call 11; refine (span11 _ _ _ _ _ _ _).mono ?_; rintro e w1 ⟨rfl, hlay⟩) | (go_at_call 10; refine (req10 _ _ _ _ _ _ _ _).mono ?_; rintro e w1 ⟨q, rfl, hq, hreq, hlay⟩))
        all_goals
          rename_i hSS
          have hlW := hSS.2.2.2.2.2.2
          have hreq' : IsReq w1 q (if (R k).sec then g2 else g1) (R k).fr (R k).to (R k).unb (R k).seq := by rw [Hsec.out]; exact hreq
          clear hSS hreq hlay hq x0 x1 x2 x3 x4 x5
          have Howns : Hid (w1.ownsRow w.heap.size 35 1 (.slice pq k cq) k ((List.range k).map (rptr blk))) := (hQ.lay hlW).row
          have hszW := Nat.le_trans hS.size hlW.size
          go_wp2_with (refine wpList_append_lies _ (by rfl) _ _ _ (by rfl) w.heap.size 35 i0 _ 1 8 Tryd.underlying47 hi0 hz0 hz1 hz2 rfl (by omega) (.slice pq k cq) k ((List.range k).map (rptr blk)) (by rfl) (Howns.out.alloc _) ⟨w1.heap.size, 0, none⟩ 1 1 [.pointer (some ⟨q, 0, none⟩)] (by rfl) (by rfl) (World.news_of_block (cs := #[.pointer (some ⟨q, 0, none⟩)]) (t := 35) (fr := (0, 0)) (heap_alloc_new w1 _)) (by simp [Value.oneCell']) (by omega) (by unfold maxLen; omega) (by omega) (by simp; omega) (w1.heap.size + 1) (by simp) ?_; intro gg cap w5 hown5 hgrow hat hlt5)
          obtain ⟨hS5, hreq5, hQ5⟩ := appended hS hQ hlW ((Lay.refl w1).alloc _) hreq' hown5 hgrow (hat.imp_right (fun h => by omega)) hlt5
          clear hown5 hgrow hat hlt5 Howns
          have hf := follow_new hne hS5 (Lay.refl w5) hreq5 (by omega)
          refine hf.mono ?_
          rintro e w2 ⟨⟨v, rfl⟩, hd⟩
          clear hf
          go_wp2
          obtain ⟨sv', hS', hQ'⟩ := followed hne hS5 hreq5 hQ5 hd
          exact ⟨⟨k + 1, _, sv', _, _, by omega, by go_num, rfl, hS', hQ'⟩, by simp [intOf]; omega⟩
    · obtain rfl : k = n := by omega
      have hw1 := hS.swept.walk
      obtain ⟨p', c', hsv⟩ : ∃ p' c', sv = .slice p' (idx R k).length c' := by
        obtain ⟨p', c', h⟩ := sv_form hS.swept
        exact ⟨p', c', by simpa using h⟩
      have HF : Hid (IsWalk wr b sv) := hw1
      obtain ⟨M, F, hM, hMk, hsw, hfirst, hcover⟩ := facts hS
      rw [← hM] at hsv
      have hln := len15 b p' M c' wr (by rw [← hsv]; exact hw1)
      have HL : Hid (IsWalk wr b (.slice p' M c')) := by rw [← hsv]; exact hw1
      clear hw1 hsv hM
      have Hsw : Hid (∀ v t, Lay wr v → t < M → Calls Tryd.prog 17 #[.pointer (some ⟨b, 0, none⟩), .int .i64 t] v fun e w' => e = .returned (.tuple #[.agg #[.string (F t).fr, .string (F t).to, .bool (F t).unb], .int .u64 (F t).seq, .pointer (some ⟨if (F t).sec then g2 else g1, 0, none⟩)]) ∧ Lay v w') := hsw
      have Hfirst : Hid (0 < k → 0 < M ∧ F 0 = R 0) := hfirst
      have Hcover : Hid (∀ i, i < k → ∃ t, t < M ∧ covR (F t) (R i) = true) := hcover
      clear hsw hfirst hcover
      go_wp2_with fail
      refine hln.mono ?_
      rintro e w1 ⟨rfl, hw⟩
      rw [hw]
      clear hw w1 hln
      obtain ⟨Wf, hWf⟩ : ∃ Wf, Wf = wr := ⟨_, rfl⟩
      rw [← hWf] at hS hQ Hsw HF HL ⊢
      clear hWf
      have m1 : (M : Int) ≤ (k : Int) := by omega
      have m2 : (M : Int) ≤ 1024 := by omega
      obtain ⟨cs1, s1, mk1⟩ := make_any 49 38 _ 3 40 Tryd.underlying49 info38 M (by omega) (by omega)
      obtain ⟨cs2, s2, mk2⟩ := make_any 50 22 _ 1 8 Tryd.underlying50 info22 M (by omega) (by omega)
      obtain ⟨cs3, s3, mk3⟩ := make_any 51 4 _ 1 1 Tryd.underlying51 info4 M (by omega) (by omega)
      go_wp2_with fail
      have hd87 : decide (k < M) = false := by simp; omega
      have hd34 : decide ((1024 : Int) < (k : Int)) = false := by simp; omega
      rw [hd87, hd34]
      clear hd87 hd34
      have hT : Tab (((Wf.alloc (.cells cs1 38)).alloc (.cells cs2 22)).alloc (.cells cs3 4)) Wf.heap.size (Wf.heap.size + 1) (Wf.heap.size + 1 + 1) M 0 F :=
        three_tabs Wf F s1 (by omega) (by omega)
      have hlT : Lay Wf (((Wf.alloc (.cells cs1 38)).alloc (.cells cs2 22)).alloc (.cells cs3 4)) := (((Lay.refl Wf).alloc _).alloc _).alloc _
      obtain ⟨sb, hsb⟩ : ∃ x, x = Wf.heap.size := ⟨_, rfl⟩
      obtain ⟨qb, hqb⟩ : ∃ x, x = Wf.heap.size + 1 := ⟨_, rfl⟩
      obtain ⟨cb, hcb⟩ : ∃ x, x = Wf.heap.size + 1 + 1 := ⟨_, rfl⟩
      rw [← hcb, ← hqb, ← hsb] at hT ⊢
      have HB : Hid (Wf.heap.size ≤ sb ∧ Wf.heap.size ≤ qb ∧ Wf.heap.size ≤ cb) := ⟨by omega, by omega, by omega⟩
      clear hsb hqb hcb mk1 mk2 mk3 s1 s2 s3
      generalize (((Wf.alloc (.cells cs1 38)).alloc (.cells cs2 22)).alloc (.cells cs3 4)) = W0 at *
      go_loopw [16] (fun t v => ∃ tt : Nat, tt ≤ M ∧ t = .int .i64 tt ∧ Lay Wf v ∧ Tab v sb qb cb M tt F) (fun t _ => M - (intOf t).toNat)
      case atStart => exact ⟨0, by omega, rfl, hlT, hT⟩
      case round =>
        obtain ⟨tt, htt, rfl, hl, hTt⟩ := hrel
        clear hlT hT
        by_cases hlt2 : tt < M
        · have j1 : (0 : Int) ≤ (tt : Int) := by omega
          have j2 : (tt : Int) < (M : Int) := by omega
          have j3 : (tt : Int) ≤ 1024 := by omega
          have hcall := Hsw.out _ tt hl hlt2
          cases hsec : (F tt).sec
          · have Hsec : Hid ((F tt).sec = false) := hsec
            rw [hsec] at hcall
            simp only [Bool.false_eq_true, if_false] at hcall
            clear hsec
            go_wp2_with fail
            refine hcall.mono ?_
            rintro e w4 ⟨rfl, hl4⟩
            clear hcall
            have hT4 := hTt.lay hl4
            obtain ⟨⟨x0, x1, x2, x3, x4, y0, y1, y2, y3, y4⟩, f1, f2, f3⟩ := hT4.there hlt2
            have HT4 : Hid (Tab w4 sb qb cb M tt F) := hT4
            clear hT4 hTt
            have lsb := lt_of_cell y0
            have lqb := lt_of_cell y3
            have lcb := lt_of_cell y4
            have n1 := HT4.out.ne.1
            have n2 := HT4.out.ne.2.1
            have n3 := HT4.out.ne.2.2
            have hl5 : ∀ o, Lay Wf (((((w4.setCell ⟨sb, tt * 3, none⟩ (.string (F tt).fr)).setCell ⟨sb, tt * 3 + 1, none⟩ (.string (F tt).to)).setCell ⟨sb, tt * 3 + 2, none⟩ (.bool (F tt).unb)).setCell ⟨qb, tt, none⟩ (.int .u64 (F tt).seq)).alloc o) := fun o =>
              (((((hl.trans hl4).setCell HB.out.1 _).setCell HB.out.1 _).setCell HB.out.1 _).setCell HB.out.2.1 _).alloc o
            have heq := fun o => Follow.eq_other hne (hS.lay (hl5 o)).gr1.1 (hS.lay (hl5 o)).gr2.1
            go_wp2
            have hT5 := HT4.out.next hlt2
            rw [Hsec.out] at hT5
            go_roundw
            case rel => exact ⟨tt + 1, by omega, by go_num, ((((((hl.trans hl4).setCell HB.out.1 _).setCell HB.out.1 _).setCell HB.out.1 _).setCell HB.out.2.1 _).setCell HB.out.2.2 _).alloc _, hT5.lay ((Lay.refl _).alloc _)⟩
            case measure => simp [intOf]; omega
          · have Hsec : Hid ((F tt).sec = true) := hsec
            rw [hsec] at hcall
            simp only [if_true] at hcall
            clear hsec
            go_wp2_with fail
            refine hcall.mono ?_
            rintro e w4 ⟨rfl, hl4⟩
            clear hcall
            have hT4 := hTt.lay hl4
            obtain ⟨⟨x0, x1, x2, x3, x4, y0, y1, y2, y3, y4⟩, f1, f2, f3⟩ := hT4.there hlt2
            have HT4 : Hid (Tab w4 sb qb cb M tt F) := hT4
            clear hT4 hTt
            have lsb := lt_of_cell y0
            have lqb := lt_of_cell y3
            have lcb := lt_of_cell y4
            have n1 := HT4.out.ne.1
            have n2 := HT4.out.ne.2.1
            have n3 := HT4.out.ne.2.2
            have heq := Follow.eq_same g2
            go_wp2
            have hT5 := HT4.out.next hlt2
            rw [Hsec.out] at hT5
            go_roundw
            case rel => exact ⟨tt + 1, by omega, by go_num, ((((((hl.trans hl4).setCell HB.out.1 _).setCell HB.out.1 _).setCell HB.out.1 _).setCell HB.out.2.1 _).setCell HB.out.2.2 _).alloc _, hT5.lay ((Lay.refl _).alloc _)⟩
            case measure => simp [intOf]; omega
        · obtain rfl : tt = M := by omega
          clear htt hlt2
          rcases Nat.eq_zero_or_pos k with hk0 | hk0
          · have hk1 : (k : Int) ≤ 0 := by omega
            have t0 : (tt : Int) ≤ 0 := by omega
            clear hTt
            go_wp2_with fail
            go_loopw [157] (fun i v => i = .int .i64 0 ∧ Lay Wf v) (fun _ _ => 0)
            case atStart => exact ⟨rfl, hl⟩
            case round =>
              obtain ⟨rfl, hla⟩ := hrel
              go_wp2_with fail
              go_loopw [208] (fun i v => i = .int .i64 0 ∧ Lay Wf v) (fun _ _ => 0)
              case atStart => exact ⟨rfl, hla⟩
              case round =>
                obtain ⟨rfl, hlb⟩ := hrel
                have hln := len15 b p' tt c' wr (HL.out.lay hlb)
                go_wp2_with fail
                refine hln.mono ?_
                rintro e w6 ⟨rfl, hw⟩
                rw [hw]
                clear hw w6 hln
                go_wp2_with fail
                go_loopw [24] (fun t v => t = .int .i64 0 ∧ Lay Wf v) (fun _ _ => 0)
                case atStart => exact ⟨rfl, hlb⟩
                case round =>
                  obtain ⟨rfl, hlc⟩ := hrel
                  have hwk := HL.out.lay hlc
                  have hf := found13 b _ _ hwk
                  have hr := reached14 b _ _ hwk
                  clear hwk
                  go_wp2_with fail
                  refine hf.mono ?_
                  rintro e w6 ⟨rfl, hw⟩
                  rw [hw]
                  clear hw w6 hf
                  go_wp2_with fail
                  refine hr.mono ?_
                  rintro e w6 ⟨rfl, hw⟩
                  rw [hw]
                  clear hw w6 hr
                  go_wp2
                  go_ret
                  exact ⟨rfl, (hS.lay hlc).below⟩
          · obtain ⟨hM0, hF0⟩ := Hfirst.out hk0
            obtain rfl := HP.out 0 hk0
            obtain ⟨x0, x1, x2, x3, x4, x5⟩ := at_zero (at_below (hR.out 0 hk0) (hS.lay hl).below)
            obtain ⟨y0, y1, y2, y3, y4⟩ := tab_zero hTt hM0
            rw [hF0] at y0 y1 y2 y3 y4
            have a1 : (0 : Int) < (k : Int) := by omega
            have a2 : (0 : Int) < (tt : Int) := by omega
            have z1 : ((tt : Int) == 0) = false := by simp; omega
            have z2 : decide ((tt : Int) = 0) = false := by simp; omega
            have z3 : (tt == 0) = false := by simp; omega
            have z4 : decide (tt = 0) = false := by simp; omega
            have hss := span_same (R 0).fr (R 0).to (R 0).unb
            go_wp2_with fail
            go_region_held3 (fun v => v.cell? ⟨b0, off, none⟩ = some (.int .u64 (R 0).owner) ∧ v.cell? ⟨b0, off + 1, none⟩ = some (.string (R 0).fr) ∧ v.cell? ⟨b0, off + 2, none⟩ = some (.string (R 0).to) ∧ v.cell? ⟨b0, off + 3, none⟩ = some (.bool (R 0).unb)
                ∧ v.cell? ⟨b0, off + 4, none⟩ = some (.int .u64 (R 0).seq) ∧ v.cell? ⟨b0, off + 5, none⟩ = some (.bool (R 0).sec)
                ∧ v.cell? ⟨sb, 0, none⟩ = some (.string (R 0).fr) ∧ v.cell? ⟨sb, 1, none⟩ = some (.string (R 0).to) ∧ v.cell? ⟨sb, 2, none⟩ = some (.bool (R 0).unb) ∧ v.cell? ⟨qb, 0, none⟩ = some (.int .u64 (R 0).seq) ∧ v.cell? ⟨cb, 0, none⟩ = some (.bool (R 0).sec) ∧ Lay wr v)
              (first | assumption | exact keep11z (W := wr) (Lay.refl wr).drew ⟨x0, x1, x2, x3, x4, x5, y0, y1, y2, y3, y4, Lay.refl wr⟩ | (refine keep11z hlay ?_; assumption))
              (first | (go_at_call 11; refine (span11 _ _ _ _ _ _ _).mono ?_; rintro e w5 ⟨rfl, hlay⟩))
            rename_i hSS
            have hlW := hSS.2.2.2.2.2.2.2.2.2.2.2
            have hlV := hl.trans hlW
            have hTV := hTt.lay hlW
            clear hSS hlay x0 x1 x2 x3 x4 x5 y0 y1 y2 y3 y4 hl hTt hlW hss z1 z2 z3 z4 hM0 hF0
            obtain ⟨V, hV⟩ : ∃ V, V = w5 := ⟨_, rfl⟩
            rw [← hV] at hlV hTV ⊢
            clear hV
            go_wp2_with fail
            have hd122 : decide ((0 : Int) < (k : Int)) = true := by simpa using a1
            try rw [hd122]
            clear hd122
            go_loopw [157] (fun i v => ∃ ii : Nat, ii ≤ k ∧ i = .int .i64 ii ∧ Lay V v) (fun i _ => k - (intOf i).toNat)
            case atStart => exact ⟨0, by omega, rfl, Lay.refl _⟩
            case round =>
              obtain ⟨ii, hii, rfl, hlv⟩ := hrel
              by_cases hlt3 : ii < k
              · have i1 : (0 : Int) ≤ (ii : Int) := by omega
                have i2 : (ii : Int) < (k : Int) := by omega
                go_wp2_with fail
                go_loopw [21, 22] (fun cv j v3 => ∃ (jj : Nat) (bb : Bool), jj ≤ tt ∧ j = .int .i64 jj ∧ cv = .bool bb ∧ NoCov F (R ii) jj bb ∧ Lay V v3) (fun _ j _ => tt - (intOf j).toNat)
                case atStart => exact ⟨0, false, by omega, rfl, rfl, NoCov.start F (R ii), hlv⟩
                case round =>
                  obtain ⟨jj, bb, hjj, rfl, rfl, hcs, hl3⟩ := hrel
                  have j1 : (0 : Int) ≤ (jj : Int) := by omega
                  by_cases hlt4 : jj < tt
                  · have j2 : (jj : Int) < (tt : Int) := by omega
                    cases bb
                    · obtain ⟨x0, x1, x2, x3, x4, x5⟩ := at_below (hR.out ii hlt3) (hS.lay (hlV.trans hl3)).below
                      obtain ⟨y0, y1, y2, y3, y4⟩ := (hTV.lay hl3).cells hlt4
                      by_cases hsec : ((F jj).sec == (R ii).sec) = true
                      · by_cases hseq : (R ii).seq ≤ (F jj).seq
                        · have Hcv : Hid (covR (F jj) (R ii) = withinB (R ii).fr (R ii).to (R ii).unb (F jj).fr (F jj).to (F jj).unb) := by show _ = _; simp [covR, hsec, hseq]
                          have hd : decide ((R ii).seq ≤ (F jj).seq) = true := by simpa using hseq
                          cases hwi : withinB (R ii).fr (R ii).to (R ii).unb (F jj).fr (F jj).to (F jj).unb
                          · have Hwi : Hid (withinB (R ii).fr (R ii).to (R ii).unb (F jj).fr (F jj).to (F jj).unb = false) := hwi
                            clear hwi
                            go_wp2_with fail
                            go_region_held3 (fun v => v.cell? ⟨b0, off + ii * 6, none⟩ = some (.int .u64 (R ii).owner) ∧ v.cell? ⟨b0, off + ii * 6 + 1, none⟩ = some (.string (R ii).fr) ∧ v.cell? ⟨b0, off + ii * 6 + 2, none⟩ = some (.string (R ii).to) ∧ v.cell? ⟨b0, off + ii * 6 + 3, none⟩ = some (.bool (R ii).unb)
                                ∧ v.cell? ⟨b0, off + ii * 6 + 4, none⟩ = some (.int .u64 (R ii).seq) ∧ v.cell? ⟨b0, off + ii * 6 + 5, none⟩ = some (.bool (R ii).sec)
                                ∧ v.cell? ⟨sb, jj * 3, none⟩ = some (.string (F jj).fr) ∧ v.cell? ⟨sb, jj * 3 + 1, none⟩ = some (.string (F jj).to) ∧ v.cell? ⟨sb, jj * 3 + 2, none⟩ = some (.bool (F jj).unb) ∧ v.cell? ⟨qb, jj, none⟩ = some (.int .u64 (F jj).seq) ∧ v.cell? ⟨cb, jj, none⟩ = some (.bool (F jj).sec) ∧ Lay wr v)
                              (first | assumption | exact keep11 (W := wr) (Lay.refl wr).drew ⟨x0, x1, x2, x3, x4, x5, y0, y1, y2, y3, y4, Lay.refl wr⟩ | (refine keep11 hlay ?_; assumption))
                              (first | (go_at_call 11; refine (span11 _ _ _ _ _ _ _).mono ?_; rintro e w1 ⟨rfl, hlay⟩) | (go_at_call 16; refine (within16 _ _ _ _ _ _ _).mono ?_; rintro e w1 ⟨rfl, hlay⟩))
                            rename_i hSS
                            have hlW := hSS.2.2.2.2.2.2.2.2.2.2.2
                            clear hSS
                            rw [Hwi.out]
                            go_wp2
                            exact ⟨⟨jj + 1, false, by omega, by go_num, rfl, hcs.no (Hcv.out.trans Hwi.out), hl3.trans hlW⟩, by simp [intOf]; omega⟩
                          · have Hwi : Hid (withinB (R ii).fr (R ii).to (R ii).unb (F jj).fr (F jj).to (F jj).unb = true) := hwi
                            clear hwi
                            go_wp2_with fail
                            go_region_held3 (fun v => v.cell? ⟨b0, off + ii * 6, none⟩ = some (.int .u64 (R ii).owner) ∧ v.cell? ⟨b0, off + ii * 6 + 1, none⟩ = some (.string (R ii).fr) ∧ v.cell? ⟨b0, off + ii * 6 + 2, none⟩ = some (.string (R ii).to) ∧ v.cell? ⟨b0, off + ii * 6 + 3, none⟩ = some (.bool (R ii).unb)
                                ∧ v.cell? ⟨b0, off + ii * 6 + 4, none⟩ = some (.int .u64 (R ii).seq) ∧ v.cell? ⟨b0, off + ii * 6 + 5, none⟩ = some (.bool (R ii).sec)
                                ∧ v.cell? ⟨sb, jj * 3, none⟩ = some (.string (F jj).fr) ∧ v.cell? ⟨sb, jj * 3 + 1, none⟩ = some (.string (F jj).to) ∧ v.cell? ⟨sb, jj * 3 + 2, none⟩ = some (.bool (F jj).unb) ∧ v.cell? ⟨qb, jj, none⟩ = some (.int .u64 (F jj).seq) ∧ v.cell? ⟨cb, jj, none⟩ = some (.bool (F jj).sec) ∧ Lay wr v)
                              (first | assumption | exact keep11 (W := wr) (Lay.refl wr).drew ⟨x0, x1, x2, x3, x4, x5, y0, y1, y2, y3, y4, Lay.refl wr⟩ | (refine keep11 hlay ?_; assumption))
                              (first | (go_at_call 11; refine (span11 _ _ _ _ _ _ _).mono ?_; rintro e w1 ⟨rfl, hlay⟩) | (go_at_call 16; refine (within16 _ _ _ _ _ _ _).mono ?_; rintro e w1 ⟨rfl, hlay⟩))
                            rename_i hSS
                            have hlW := hSS.2.2.2.2.2.2.2.2.2.2.2
                            clear hSS
                            rw [Hwi.out]
                            go_wp2
                            exact ⟨⟨jj + 1, true, by omega, by go_num, rfl, NoCov.yes _ _ _, hl3.trans hlW⟩, by simp [intOf]; omega⟩
                        · have hd : decide ((R ii).seq ≤ (F jj).seq) = false := by simpa using hseq
                          have Hcov : Hid (covR (F jj) (R ii) = false) := by show _ = _; simp [covR, hd]
                          clear x0 x1 x2 x3 y0 y1 y2 hseq
                          go_wp2_with fail
                          go_quiet (fail)
                          go_wp2
                          exact ⟨⟨jj + 1, false, by omega, by go_num, rfl, hcs.no Hcov.out, hl3.drewN _⟩, by simp [intOf]; omega⟩
                      · have hs' : ((F jj).sec == (R ii).sec) = false := by simpa using hsec
                        have Hcov : Hid (covR (F jj) (R ii) = false) := by show _ = _; simp [covR, hs']
                        clear hsec x0 x1 x2 x3 x4 y0 y1 y2 y3
                        go_wp2_with fail
                        go_quiet (fail)
                        go_wp2
                        exact ⟨⟨jj + 1, false, by omega, by go_num, rfl, hcs.no Hcov.out, hl3.drewN _⟩, by simp [intOf]; omega⟩
                    · go_wp2
                      exact ⟨⟨ii + 1, by omega, by go_num, hl3⟩, by simp [intOf]; omega⟩
                  · cases bb
                    · exact (hcs.out (by omega) (Hcover.out ii hlt3)).elim
                    · go_wp2
                      exact ⟨⟨ii + 1, by omega, by go_num, hl3⟩, by simp [intOf]; omega⟩
              · obtain rfl : ii = k := by omega
                obtain ⟨qg, hqg, hqc⟩ := hQ.cells hk0
                subst hqg
                have Hqc : Hid (∀ j, j < ii → Wf.cell? ⟨qg, j, none⟩ = some (.pointer (some ⟨blk j, 0, none⟩))) := hqc
                clear hqc
                go_wp2_with fail
                obtain ⟨U, hU⟩ : ∃ U, U = wr := ⟨_, rfl⟩
                rw [← hU] at hlv ⊢
                clear hU
                go_loopw [208] (fun i v => ∃ jj : Nat, jj ≤ ii ∧ i = .int .i64 jj ∧ Lay U v) (fun i _ => ii - (intOf i).toNat)
                case atStart => exact ⟨0, by omega, rfl, Lay.refl _⟩
                case round =>
                  obtain ⟨jj, hjj, rfl, hl5⟩ := hrel
                  have hlF := hlV.trans (hlv.trans hl5)
                  by_cases hlt5 : jj < ii
                  · have i1 : (0 : Int) ≤ (jj : Int) := by omega
                    have i2 : (jj : Int) < (ii : Int) := by omega
                    have hc := (hlF.cell (lt_of_cell (Hqc.out jj hlt5))).trans (Hqc.out jj hlt5)
                    have hf := follow_again hne (hS.lay hlF) hlt5 (by omega)
                    go_wp2_with fail
                    refine hf.mono ?_
                    rintro e w6 ⟨⟨x, rfl⟩, hl6⟩
                    clear hf
                    go_wp2
                    exact ⟨⟨jj + 1, by omega, by go_num, hl5.trans hl6⟩, by simp [intOf]; omega⟩
                  · obtain rfl : jj = ii := by omega
                    have hwk := HL.out.lay hlF
                    have hln := len15 b p' tt c' wr hwk
                    clear hwk
                    go_wp2_with fail
                    refine hln.mono ?_
                    rintro e w6 ⟨rfl, hw⟩
                    rw [hw]
                    clear hw w6 hln
                    go_wp2_with fail
                    go_loopw [24] (fun t v => ∃ uu : Nat, uu ≤ tt ∧ t = .int .i64 uu ∧ Lay U v) (fun t _ => tt - (intOf t).toNat)
                    case atStart => exact ⟨0, by omega, rfl, hl5⟩
                    case round =>
                      obtain ⟨uu, huu, rfl, hl6⟩ := hrel
                      have hlF6 := hlV.trans (hlv.trans hl6)
                      by_cases hlt6 : uu < tt
                      · have j1 : (0 : Int) ≤ (uu : Int) := by omega
                        have j2 : (uu : Int) < (tt : Int) := by omega
                        have j3 : (uu : Int) ≤ 1024 := by omega
                        have hcall := Hsw.out _ uu hlF6 hlt6
                        cases hsec : (F uu).sec
                        · have Hsec : Hid ((F uu).sec = false) := hsec
                          rw [hsec] at hcall
                          simp only [Bool.false_eq_true, if_false] at hcall
                          clear hsec
                          go_wp2_with fail
                          refine hcall.mono ?_
                          rintro e w7 ⟨rfl, hl7⟩
                          clear hcall
                          obtain ⟨y0, y1, y2, y3, y4⟩ := (hTV.lay (hlv.trans (hl6.trans hl7))).cells hlt6
                          rw [Hsec.out] at y4
                          have lsb := lt_of_cell y0
                          have lqb := lt_of_cell y3
                          have lcb := lt_of_cell y4
                          have hss := span_same (F uu).fr (F uu).to (F uu).unb
                          have heq := fun o m => Follow.eq_other hne (hS.lay (((hlF6.trans hl7).alloc o).drewN m)).gr1.1 (hS.lay (((hlF6.trans hl7).alloc o).drewN m)).gr2.1
                          go_wp2_with fail
                          go_quiet (fail)
                          go_wp2
                          go_roundw
                          case rel => exact ⟨uu + 1, by omega, by go_num, ((hl6.trans hl7).alloc _).drewN _⟩
                          case measure => simp [intOf]; omega
                        · have Hsec : Hid ((F uu).sec = true) := hsec
                          rw [hsec] at hcall
                          simp only [if_true] at hcall
                          clear hsec
                          go_wp2_with fail
                          refine hcall.mono ?_
                          rintro e w7 ⟨rfl, hl7⟩
                          clear hcall
                          obtain ⟨y0, y1, y2, y3, y4⟩ := (hTV.lay (hlv.trans (hl6.trans hl7))).cells hlt6
                          rw [Hsec.out] at y4
                          have lsb := lt_of_cell y0
                          have lqb := lt_of_cell y3
                          have lcb := lt_of_cell y4
                          have hss := span_same (F uu).fr (F uu).to (F uu).unb
                          have heq := Follow.eq_same g2
                          go_wp2_with fail
                          go_quiet (fail)
                          go_wp2
                          go_roundw
                          case rel => exact ⟨uu + 1, by omega, by go_num, ((hl6.trans hl7).alloc _).drewN _⟩
                          case measure => simp [intOf]; omega
                      · obtain rfl : uu = tt := by omega
                        have hwk := HL.out.lay hlF6
                        have hf := found13 b _ _ hwk
                        have hr := reached14 b _ _ hwk
                        clear hwk
                        go_wp2_with fail
                        refine hf.mono ?_
                        rintro e w6 ⟨rfl, hw⟩
                        rw [hw]
                        clear hw w6 hf
                        go_wp2_with fail
                        refine hr.mono ?_
                        rintro e w6 ⟨rfl, hw⟩
                        rw [hw]
                        clear hw w6 hr
                        go_wp2
                        go_ret
                        exact ⟨rfl, (hS.lay hlF6).below⟩
end Go.Proofs.Qxb6614041aDoor.Law4
