import Derived.Test.Qxb6614041aDoorState
import Derived.Test.Qxb6614041aDoorNew
namespace Go.Proofs.Qxb6614041aDoor.Law3
open Go.RowKit
open Go.Proofs.Qxb6614041aDoor.Base
open Go.Proofs.Qxb6614041aDoor.Sized (Req At)
open Go.Proofs.Qxb6614041aDoor.Follow (SQ covB stepL Swept Done someEnd row_ne)
open Go.Proofs.Qxb6614041aDoor.Plain
open Go.Proofs.Qxb6614041aDoor.State
set_option linter.unusedVariables false

theorem at_below {w wr : World} {b off k : Nat} {r : Req} (h : At w b off k r) (hb : Below w.heap.size w wr) : At wr b off k r := h.lay hb

/-- the six cells, behind new blocks -/
theorem keep6 {W v v' : World} {b0 o : Nat} {x0 x1 x2 x3 x4 x5 : Value} (hl : Lay v v')
    (h : v.cell? ⟨b0, o, none⟩ = some x0 ∧ v.cell? ⟨b0, o + 1, none⟩ = some x1 ∧ v.cell? ⟨b0, o + 2, none⟩ = some x2 ∧ v.cell? ⟨b0, o + 3, none⟩ = some x3 ∧ v.cell? ⟨b0, o + 4, none⟩ = some x4 ∧ v.cell? ⟨b0, o + 5, none⟩ = some x5 ∧ Lay W v) :
    v'.cell? ⟨b0, o, none⟩ = some x0 ∧ v'.cell? ⟨b0, o + 1, none⟩ = some x1 ∧ v'.cell? ⟨b0, o + 2, none⟩ = some x2 ∧ v'.cell? ⟨b0, o + 3, none⟩ = some x3 ∧ v'.cell? ⟨b0, o + 4, none⟩ = some x4 ∧ v'.cell? ⟨b0, o + 5, none⟩ = some x5 ∧ Lay W v' := by
  obtain ⟨h0, h1, h2, h3, h4, h5, h6⟩ := h
  have hb := lt_of_cell h0
  exact ⟨(hl.cell hb).trans h0, (hl.cell hb).trans h1, (hl.cell hb).trans h2, (hl.cell hb).trans h3, (hl.cell hb).trans h4, (hl.cell hb).trans h5, h6.trans hl⟩

theorem keep12 {W v v' : World} {b0 o o' : Nat} {x0 x1 x2 x3 x4 x5 y0 y1 y2 y3 y4 y5 : Value} (hl : Lay v v')
    (h : v.cell? ⟨b0, o, none⟩ = some x0 ∧ v.cell? ⟨b0, o + 1, none⟩ = some x1 ∧ v.cell? ⟨b0, o + 2, none⟩ = some x2 ∧ v.cell? ⟨b0, o + 3, none⟩ = some x3 ∧ v.cell? ⟨b0, o + 4, none⟩ = some x4 ∧ v.cell? ⟨b0, o + 5, none⟩ = some x5
      ∧ v.cell? ⟨b0, o', none⟩ = some y0 ∧ v.cell? ⟨b0, o' + 1, none⟩ = some y1 ∧ v.cell? ⟨b0, o' + 2, none⟩ = some y2 ∧ v.cell? ⟨b0, o' + 3, none⟩ = some y3 ∧ v.cell? ⟨b0, o' + 4, none⟩ = some y4 ∧ v.cell? ⟨b0, o' + 5, none⟩ = some y5 ∧ Lay W v) :
    v'.cell? ⟨b0, o, none⟩ = some x0 ∧ v'.cell? ⟨b0, o + 1, none⟩ = some x1 ∧ v'.cell? ⟨b0, o + 2, none⟩ = some x2 ∧ v'.cell? ⟨b0, o + 3, none⟩ = some x3 ∧ v'.cell? ⟨b0, o + 4, none⟩ = some x4 ∧ v'.cell? ⟨b0, o + 5, none⟩ = some x5
      ∧ v'.cell? ⟨b0, o', none⟩ = some y0 ∧ v'.cell? ⟨b0, o' + 1, none⟩ = some y1 ∧ v'.cell? ⟨b0, o' + 2, none⟩ = some y2 ∧ v'.cell? ⟨b0, o' + 3, none⟩ = some y3 ∧ v'.cell? ⟨b0, o' + 4, none⟩ = some y4 ∧ v'.cell? ⟨b0, o' + 5, none⟩ = some y5 ∧ Lay W v' := by
  obtain ⟨h0, h1, h2, h3, h4, h5, k0, k1, k2, k3, k4, k5, h6⟩ := h
  have hb := lt_of_cell h0
  exact ⟨(hl.cell hb).trans h0, (hl.cell hb).trans h1, (hl.cell hb).trans h2, (hl.cell hb).trans h3, (hl.cell hb).trans h4, (hl.cell hb).trans h5, (hl.cell hb).trans k0, (hl.cell hb).trans k1, (hl.cell hb).trans k2, (hl.cell hb).trans k3, (hl.cell hb).trans k4, (hl.cell hb).trans k5, h6.trans hl⟩

theorem keep9 {W v v' : World} {b0 o B : Nat} {x0 x1 x2 x3 x4 x5 y0 y1 y2 : Value} (hl : Lay v v')
    (h : v.cell? ⟨b0, o, none⟩ = some x0 ∧ v.cell? ⟨b0, o + 1, none⟩ = some x1 ∧ v.cell? ⟨b0, o + 2, none⟩ = some x2 ∧ v.cell? ⟨b0, o + 3, none⟩ = some x3 ∧ v.cell? ⟨b0, o + 4, none⟩ = some x4 ∧ v.cell? ⟨b0, o + 5, none⟩ = some x5
      ∧ v.cell? ⟨B, 0, none⟩ = some y0 ∧ v.cell? ⟨B, 1, none⟩ = some y1 ∧ v.cell? ⟨B, 2, none⟩ = some y2 ∧ Lay W v) :
    v'.cell? ⟨b0, o, none⟩ = some x0 ∧ v'.cell? ⟨b0, o + 1, none⟩ = some x1 ∧ v'.cell? ⟨b0, o + 2, none⟩ = some x2 ∧ v'.cell? ⟨b0, o + 3, none⟩ = some x3 ∧ v'.cell? ⟨b0, o + 4, none⟩ = some x4 ∧ v'.cell? ⟨b0, o + 5, none⟩ = some x5
      ∧ v'.cell? ⟨B, 0, none⟩ = some y0 ∧ v'.cell? ⟨B, 1, none⟩ = some y1 ∧ v'.cell? ⟨B, 2, none⟩ = some y2 ∧ Lay W v' := by
  obtain ⟨h0, h1, h2, h3, h4, h5, k0, k1, k2, h6⟩ := h
  have hb := lt_of_cell h0
  have hB := lt_of_cell k0
  exact ⟨(hl.cell hb).trans h0, (hl.cell hb).trans h1, (hl.cell hb).trans h2, (hl.cell hb).trans h3, (hl.cell hb).trans h4, (hl.cell hb).trans h5, (hl.cell hB).trans k0, (hl.cell hB).trans k1, (hl.cell hB).trans k2, h6.trans hl⟩

theorem start9 {v : World} {b0 o : Nat} {x0 x1 x2 x3 x4 x5 y0 y1 y2 : Value}
    (h : v.cell? ⟨b0, o, none⟩ = some x0 ∧ v.cell? ⟨b0, o + 1, none⟩ = some x1 ∧ v.cell? ⟨b0, o + 2, none⟩ = some x2 ∧ v.cell? ⟨b0, o + 3, none⟩ = some x3 ∧ v.cell? ⟨b0, o + 4, none⟩ = some x4 ∧ v.cell? ⟨b0, o + 5, none⟩ = some x5) :
    (v.alloc (.cells #[y0, y1, y2] 38)).drew.cell? ⟨b0, o, none⟩ = some x0 ∧ (v.alloc (.cells #[y0, y1, y2] 38)).drew.cell? ⟨b0, o + 1, none⟩ = some x1 ∧ (v.alloc (.cells #[y0, y1, y2] 38)).drew.cell? ⟨b0, o + 2, none⟩ = some x2 ∧ (v.alloc (.cells #[y0, y1, y2] 38)).drew.cell? ⟨b0, o + 3, none⟩ = some x3
      ∧ (v.alloc (.cells #[y0, y1, y2] 38)).drew.cell? ⟨b0, o + 4, none⟩ = some x4 ∧ (v.alloc (.cells #[y0, y1, y2] 38)).drew.cell? ⟨b0, o + 5, none⟩ = some x5
      ∧ (v.alloc (.cells #[y0, y1, y2] 38)).drew.cell? ⟨v.heap.size, 0, none⟩ = some y0 ∧ (v.alloc (.cells #[y0, y1, y2] 38)).drew.cell? ⟨v.heap.size, 1, none⟩ = some y1 ∧ (v.alloc (.cells #[y0, y1, y2] 38)).drew.cell? ⟨v.heap.size, 2, none⟩ = some y2 ∧ Lay v (v.alloc (.cells #[y0, y1, y2] 38)).drew := by
  have hl : Lay v (v.alloc (.cells #[y0, y1, y2] 38)).drew := ((Lay.refl v).alloc _).drew
  obtain ⟨h0, h1, h2, h3, h4, h5⟩ := h
  have hb := lt_of_cell h0
  exact ⟨(hl.cell hb).trans h0, (hl.cell hb).trans h1, (hl.cell hb).trans h2, (hl.cell hb).trans h3, (hl.cell hb).trans h4, (hl.cell hb).trans h5, by simp, by simp, by simp, hl⟩

theorem num_succ (a : Nat) : Value.int .i64 ((a : Int) + 1) = Value.int .i64 ((a + 1 : Nat) : Int) := by rw [Int.natCast_add]; rfl

theorem follow_new {w wr W : World} {R : Nat → Req} {b g1 g2 k q : Nat} {blk : Nat → Nat} {sv : Value} (hne : g1 ≠ g2) (h : St w wr R b g1 g2 k blk sv ((idx R k).map (sq R g1 g2 blk)))
    (hl : Lay wr W) (hq : IsReq W q (if (R k).sec then g2 else g1) (R k).fr (R k).to (R k).unb (R k).seq) (hk : k ≤ 1024) :
    Calls Tryd.prog 12 #[.pointer (some ⟨b, 0, none⟩), .pointer (some ⟨q, 0, none⟩)] W fun e w' => someEnd e ∧ Done W w' w.heap.size b sv ((idx R k).map (sq R g1 g2 blk)) (sq R g1 g2 (fun i => if i = k then q else blk i) k) := by
  have h0 := h.lay hl
  have hblk : (sq R g1 g2 (fun i => if i = k then q else blk i) k).blk = q := by simp [sq]
  have hg : IsGroup W (if (R k).sec then g2 else g1) := by
    split
    · exact h0.gr2
    · exact h0.gr1
  have hf := follow12 w.heap.size b sv ((idx R k).map (sq R g1 g2 blk)) (sq R g1 g2 (fun i => if i = k then q else blk i) k) W h0.swept ⟨by simpa [sq] using hq, by simpa [sq] using hg⟩ (by have := idx_len R k; simp; omega) h0.size
  rw [hblk] at hf
  exact hf

set_option maxRecDepth 100000 in
set_option maxHeartbeats 4000000 in
theorem law3 (tgt : Int) (p : Option Addr) (b0 off n c : Nat) (R : Nat → Req) (w : World) (hp : ∀ k, k < n → p = some ⟨b0, off, none⟩) (hR : Hid (∀ k, k < n → At w b0 off k (R k))) (hn : (n : Int) ≤ 140737488355328) :
    Calls Tryd.prog 3 #[.int .u64 tgt, .slice p n c] w fun e w' => e = .returned (.bool true) ∧ Below w.heap.size w w' := by
  have HP : Hid (∀ k, k < n → p = some ⟨b0, off, none⟩) := hp
  clear hp
  have hmm := @run_makeMap Tryd.prog
  go_enter Tryd.func3, Tryd.ntmps3
  go_wp2_with fail
  refine (Sized.bytes5 tgt b0 off n c R w p HP.out hR hn).mono ?_
  rintro e w' ⟨⟨x, rfl⟩, hw⟩
  rw [hw]
  clear hw w'
  cases x
  · go_wp2
    go_ret
    exact ⟨rfl, Below.refl _ _⟩
  by_cases hbig : (1024 : Int) < n
  · go_wp2
    go_ret
    exact ⟨rfl, Below.refl _ _⟩
  have hsm : (n : Int) ≤ 1024 := by omega
  clear hbig
  go_wp2_with fail
  refine (Sized.sized6 b0 off n c R w p HP.out hR (by omega)).mono ?_
  rintro e w' ⟨⟨x, rfl⟩, hw⟩
  rw [hw]
  clear hw w'
  cases x
  · go_wp2
    go_ret
    exact ⟨rfl, Below.refl _ _⟩
  go_wp2_with fail
  refine (group7 _ _).mono ?_
  rintro e W1 ⟨g1, rfl, hg1, hg1', hG1, hl1⟩
  go_wp2_with fail
  refine (group7 _ _).mono ?_
  rintro e W2 ⟨g2, rfl, hg2, hg2', hG2, hl2⟩
  go_wp2_with fail
  refine (New.new9 _).mono ?_
  rintro e W3 ⟨m, rfl, hl3⟩
  go_wp2_with fail
  refine (walk8 _ _ _).mono ?_
  rintro e W4 ⟨b, rfl, hb, hW, hl4⟩
  have hl14 := hl2.trans (hl3.trans hl4)
  have hne : g1 ≠ g2 := by omega
  have hst : St w W4 R b g1 g2 0 (fun _ => 0) (.slice none 0 0) ((idx R 0).map (sq R g1 g2 (fun _ => 0))) :=
    ⟨⟨hW, World.ownsRow_nil _ _ _ _, fun s hs => by cases hs⟩, fun i hi => by omega, hG1.lay hl14, hG2.lay (hl3.trans hl4), hl1.trans hl14, by have := (hl1.trans (hl2.trans hl3)).size; omega⟩
  clear hW hl1 hl2 hl3 hl4 hl14 hG1 hG2 hg1 hg1' hg2 hg2' hb
  go_wp2_with fail
  go_loopw [37] (fun i wr => ∃ (k : Nat) (blk : Nat → Nat) (sv : Value), k ≤ n ∧ i = .int .i64 k ∧ St w wr R b g1 g2 k blk sv ((idx R k).map (sq R g1 g2 blk))) (fun i _ => n - (intOf i).toNat)
  case atStart => exact ⟨0, _, _, by omega, rfl, hst⟩
  case round =>
    obtain ⟨k, blk, sv, hk, rfl, hS⟩ := hrel
    clear hst
    by_cases hlt : k < n
    · obtain rfl := HP.out k hlt
      have hA := at_below (hR.out k hlt) hS.below
      obtain ⟨x0, x1, x2, x3, x4, x5⟩ := hA
      have i1 : (0 : Int) ≤ (k : Int) := by omega
      have i2 : (k : Int) < (n : Int) := by omega
      cases hsec : (R k).sec
      · have Hsec : Hid ((R k).sec = false) := hsec
        rw [hsec] at x5
        clear hsec
        go_wp2_with fail
        go_region_held3 (fun v => v.cell? ⟨b0, off + k * 6, none⟩ = some (.int .u64 (R k).owner) ∧ v.cell? ⟨b0, off + k * 6 + 1, none⟩ = some (.string (R k).fr) ∧ v.cell? ⟨b0, off + k * 6 + 2, none⟩ = some (.string (R k).to) ∧ v.cell? ⟨b0, off + k * 6 + 3, none⟩ = some (.bool (R k).unb)
            ∧ v.cell? ⟨b0, off + k * 6 + 4, none⟩ = some (.int .u64 (R k).seq) ∧ v.cell? ⟨b0, off + k * 6 + 5, none⟩ = some (.bool false) ∧ Lay wr v)
          (first | assumption | exact keep6 (W := wr) (Lay.refl wr).drew ⟨x0, x1, x2, x3, x4, x5, Lay.refl wr⟩ | exact keep6 (W := wr) ((Lay.refl wr).alloc _).drew ⟨x0, x1, x2, x3, x4, x5, Lay.refl wr⟩ | (refine keep6 hlay ?_; assumption) | (refine keep6 ((Lay.refl _).alloc _) ?_; assumption))
          (first | (go_at_call 11; refine (span11 _ _ _ _ _ _ _).mono ?_; rintro e w1 ⟨rfl, hlay⟩) | (go_at_call 10; refine (req10 _ _ _ _ _ _ _ _).mono ?_; rintro e w1 ⟨q, rfl, hq, hreq, hlay⟩))
        all_goals
          rename_i hSS
          have hlW := hSS.2.2.2.2.2.2
          have hreq' : IsReq w1 q (if (R k).sec then g2 else g1) (R k).fr (R k).to (R k).unb (R k).seq := by rw [Hsec.out]; exact hreq
          clear hSS hreq hlay hq x0 x1 x2 x3 x4 x5
          have hf := follow_new hne hS hlW hreq' (by omega)
          go_wp2_with fail
          refine hf.mono ?_
          rintro e w2 ⟨⟨v, rfl⟩, hd⟩
          clear hf
          go_wp2
          obtain ⟨sv', hS'⟩ := St.next hne hS hlW hreq' hd
          exact ⟨⟨k + 1, _, sv', by omega, by go_num, hS'⟩, by simp [intOf]; omega⟩
      · have Hsec : Hid ((R k).sec = true) := hsec
        rw [hsec] at x5
        clear hsec
        go_wp2_with fail
        go_region_held3 (fun v => v.cell? ⟨b0, off + k * 6, none⟩ = some (.int .u64 (R k).owner) ∧ v.cell? ⟨b0, off + k * 6 + 1, none⟩ = some (.string (R k).fr) ∧ v.cell? ⟨b0, off + k * 6 + 2, none⟩ = some (.string (R k).to) ∧ v.cell? ⟨b0, off + k * 6 + 3, none⟩ = some (.bool (R k).unb)
            ∧ v.cell? ⟨b0, off + k * 6 + 4, none⟩ = some (.int .u64 (R k).seq) ∧ v.cell? ⟨b0, off + k * 6 + 5, none⟩ = some (.bool true) ∧ Lay wr v)
          (first | assumption | exact keep6 (W := wr) (Lay.refl wr).drew ⟨x0, x1, x2, x3, x4, x5, Lay.refl wr⟩ | exact keep6 (W := wr) ((Lay.refl wr).alloc _).drew ⟨x0, x1, x2, x3, x4, x5, Lay.refl wr⟩ | (refine keep6 hlay ?_; assumption) | (refine keep6 ((Lay.refl _).alloc _) ?_; assumption))
          (first | (go_at_call 11; refine (span11 _ _ _ _ _ _ _).mono ?_; rintro e w1 ⟨rfl, hlay⟩) | (go_at_call 10; refine (req10 _ _ _ _ _ _ _ _).mono ?_; rintro e w1 ⟨q, rfl, hq, hreq, hlay⟩))
        all_goals
          rename_i hSS
          have hlW := hSS.2.2.2.2.2.2
          have hreq' : IsReq w1 q (if (R k).sec then g2 else g1) (R k).fr (R k).to (R k).unb (R k).seq := by rw [Hsec.out]; exact hreq
          clear hSS hreq hlay hq x0 x1 x2 x3 x4 x5
          have hf := follow_new hne hS hlW hreq' (by omega)
          go_wp2_with fail
          refine hf.mono ?_
          rintro e w2 ⟨⟨v, rfl⟩, hd⟩
          clear hf
          go_wp2
          obtain ⟨sv', hS'⟩ := St.next hne hS hlW hreq' hd
          exact ⟨⟨k + 1, _, sv', by omega, by go_num, hS'⟩, by simp [intOf]; omega⟩
    · obtain rfl : k = n := by omega
      have hw1 := hS.swept.walk
      have hf := found13 b sv wr hw1
      have hrl := reached14 b sv wr hw1
      obtain ⟨p', c', hsv⟩ : ∃ p' c', sv = .slice p' (idx R k).length c' := by
        obtain ⟨p', c', h⟩ := sv_form hS.swept
        exact ⟨p', c', by simpa using h⟩
      have hln := len15 b p' (idx R k).length c' wr (by rw [← hsv]; exact hw1)
      go_wp2_with fail
      refine hf.mono ?_
      rintro e w1 ⟨rfl, hw⟩
      rw [hw]
      clear hw w1 hf
      go_wp2_with fail
      refine hrl.mono ?_
      rintro e w1 ⟨rfl, hw⟩
      rw [hw]
      clear hw w1 hrl
      go_wp2_with fail
      refine hln.mono ?_
      rintro e w1 ⟨rfl, hw⟩
      rw [hw]
      clear hw w1 hln hw1
      have Hsv : Hid (sv = .slice p' (idx R k).length c') := hsv
      clear hsv
      obtain ⟨Wf, hWf⟩ : ∃ Wf, Wf = wr := ⟨_, rfl⟩
      rw [← hWf] at hS ⊢
      clear hWf
      go_wp2_with fail
      go_loopw [12, 80] (fun t i w2 => ∃ (ii : Nat), ii ≤ k ∧ i = .int .i64 ii ∧ t = .int .i64 (idx R ii).length ∧ Lay Wf w2) (fun _ i _ => k - (intOf i).toNat)
      case atStart => exact ⟨0, by omega, rfl, rfl, Lay.refl _⟩
      case round =>
        obtain ⟨ii, hii, rfl, rfl, hl2⟩ := hrel
        by_cases hlt2 : ii < k
        · obtain rfl := HP.out ii hlt2
          have i1 : (0 : Int) ≤ (ii : Int) := by omega
          have i2 : (ii : Int) < (k : Int) := by omega
          go_wp2_with fail
          go_loopw [14, 15] (fun cv j w3 => ∃ (jj : Nat) (bb : Bool), jj ≤ ii ∧ j = .int .i64 jj ∧ cv = .bool bb ∧ CovSt R ii jj bb ∧ Lay Wf w3) (fun _ j _ => ii - (intOf j).toNat)
          case atStart => exact ⟨0, false, by omega, rfl, rfl, CovSt.start R ii, hl2⟩
          case round =>
            obtain ⟨jj, bb, hjj, rfl, rfl, hcs, hl3⟩ := hrel
            have j1 : (0 : Int) ≤ (jj : Int) := by omega
            by_cases hlt3 : jj < ii
            · have j2 : (jj : Int) < (ii : Int) := by omega
              have j3 : (jj : Int) < (k : Int) := by omega
              cases bb
              · obtain ⟨x0, x1, x2, x3, x4, x5⟩ := at_below (hR.out ii hlt2) (hS.lay hl3).below
                obtain ⟨y0, y1, y2, y3, y4, y5⟩ := at_below (hR.out jj (by omega)) (hS.lay hl3).below
                by_cases hsec : ((R jj).sec == (R ii).sec) = true
                · by_cases hseq : (R ii).seq ≤ (R jj).seq
                  · have Hcv : Hid (covR (R jj) (R ii) = withinB (R ii).fr (R ii).to (R ii).unb (R jj).fr (R jj).to (R jj).unb) := by show _ = _; simp [covR, hsec, hseq]
                    have hd : decide ((R ii).seq ≤ (R jj).seq) = true := by simpa using hseq
                    cases hwi : withinB (R ii).fr (R ii).to (R ii).unb (R jj).fr (R jj).to (R jj).unb
                    · have Hwi : Hid (withinB (R ii).fr (R ii).to (R ii).unb (R jj).fr (R jj).to (R jj).unb = false) := hwi
                      clear hwi
                      go_wp2_with fail
                      go_region_held3 (fun v => v.cell? ⟨b0, off + ii * 6, none⟩ = some (.int .u64 (R ii).owner) ∧ v.cell? ⟨b0, off + ii * 6 + 1, none⟩ = some (.string (R ii).fr) ∧ v.cell? ⟨b0, off + ii * 6 + 2, none⟩ = some (.string (R ii).to) ∧ v.cell? ⟨b0, off + ii * 6 + 3, none⟩ = some (.bool (R ii).unb)
                          ∧ v.cell? ⟨b0, off + ii * 6 + 4, none⟩ = some (.int .u64 (R ii).seq) ∧ v.cell? ⟨b0, off + ii * 6 + 5, none⟩ = some (.bool (R ii).sec)
                          ∧ v.cell? ⟨b0, off + jj * 6, none⟩ = some (.int .u64 (R jj).owner) ∧ v.cell? ⟨b0, off + jj * 6 + 1, none⟩ = some (.string (R jj).fr) ∧ v.cell? ⟨b0, off + jj * 6 + 2, none⟩ = some (.string (R jj).to) ∧ v.cell? ⟨b0, off + jj * 6 + 3, none⟩ = some (.bool (R jj).unb)
                          ∧ v.cell? ⟨b0, off + jj * 6 + 4, none⟩ = some (.int .u64 (R jj).seq) ∧ v.cell? ⟨b0, off + jj * 6 + 5, none⟩ = some (.bool (R jj).sec) ∧ Lay wr v)
                        (first | assumption | exact keep12 (W := wr) (Lay.refl wr).drew ⟨x0, x1, x2, x3, x4, x5, y0, y1, y2, y3, y4, y5, Lay.refl wr⟩ | (refine keep12 hlay ?_; assumption))
                        (first | (go_at_call 11; refine (span11 _ _ _ _ _ _ _).mono ?_; rintro e w1 ⟨rfl, hlay⟩) | (go_at_call 16; refine (within16 _ _ _ _ _ _ _).mono ?_; rintro e w1 ⟨rfl, hlay⟩))
                      rename_i hSS
                      have hlW := hSS.2.2.2.2.2.2.2.2.2.2.2.2
                      clear hSS
                      rw [Hwi.out]
                      go_wp2
                      exact ⟨⟨jj + 1, false, by omega, by go_num, rfl, hcs.no (Hcv.out.trans Hwi.out), hl3.trans hlW⟩, by simp [intOf]; omega⟩
                    · have Hwi : Hid (withinB (R ii).fr (R ii).to (R ii).unb (R jj).fr (R jj).to (R jj).unb = true) := hwi
                      clear hwi
                      go_wp2_with fail
                      go_region_held3 (fun v => v.cell? ⟨b0, off + ii * 6, none⟩ = some (.int .u64 (R ii).owner) ∧ v.cell? ⟨b0, off + ii * 6 + 1, none⟩ = some (.string (R ii).fr) ∧ v.cell? ⟨b0, off + ii * 6 + 2, none⟩ = some (.string (R ii).to) ∧ v.cell? ⟨b0, off + ii * 6 + 3, none⟩ = some (.bool (R ii).unb)
                          ∧ v.cell? ⟨b0, off + ii * 6 + 4, none⟩ = some (.int .u64 (R ii).seq) ∧ v.cell? ⟨b0, off + ii * 6 + 5, none⟩ = some (.bool (R ii).sec)
                          ∧ v.cell? ⟨b0, off + jj * 6, none⟩ = some (.int .u64 (R jj).owner) ∧ v.cell? ⟨b0, off + jj * 6 + 1, none⟩ = some (.string (R jj).fr) ∧ v.cell? ⟨b0, off + jj * 6 + 2, none⟩ = some (.string (R jj).to) ∧ v.cell? ⟨b0, off + jj * 6 + 3, none⟩ = some (.bool (R jj).unb)
                          ∧ v.cell? ⟨b0, off + jj * 6 + 4, none⟩ = some (.int .u64 (R jj).seq) ∧ v.cell? ⟨b0, off + jj * 6 + 5, none⟩ = some (.bool (R jj).sec) ∧ Lay wr v)
                        (first | assumption | exact keep12 (W := wr) (Lay.refl wr).drew ⟨x0, x1, x2, x3, x4, x5, y0, y1, y2, y3, y4, y5, Lay.refl wr⟩ | (refine keep12 hlay ?_; assumption))
                        (first | (go_at_call 11; refine (span11 _ _ _ _ _ _ _).mono ?_; rintro e w1 ⟨rfl, hlay⟩) | (go_at_call 16; refine (within16 _ _ _ _ _ _ _).mono ?_; rintro e w1 ⟨rfl, hlay⟩))
                      rename_i hSS
                      have hlW := hSS.2.2.2.2.2.2.2.2.2.2.2.2
                      clear hSS
                      rw [Hwi.out]
                      go_wp2
                      exact ⟨⟨jj + 1, true, by omega, by go_num, rfl, CovSt.yes hlt3 (Hcv.out.trans Hwi.out), hl3.trans hlW⟩, by simp [intOf]; omega⟩
                  · have hd : decide ((R ii).seq ≤ (R jj).seq) = false := by simpa using hseq
                    have Hcov : Hid (covR (R jj) (R ii) = false) := by show _ = _; simp [covR, hd]
                    clear x0 x1 x2 x3 y0 y1 y2 y3 hseq
                    go_wp2_with fail
                    go_quiet (fail)
                    go_wp2
                    exact ⟨⟨jj + 1, false, by omega, by go_num, rfl, hcs.no Hcov.out, hl3.drewN _⟩, by simp [intOf]; omega⟩
                · have hs' : ((R jj).sec == (R ii).sec) = false := by simpa using hsec
                  have Hcov : Hid (covR (R jj) (R ii) = false) := by show _ = _; simp [covR, hs']
                  clear hsec x0 x1 x2 x3 x4 y0 y1 y2 y3 y4
                  go_wp2_with fail
                  go_quiet (fail)
                  go_wp2
                  exact ⟨⟨jj + 1, false, by omega, by go_num, rfl, hcs.no Hcov.out, hl3.drewN _⟩, by simp [intOf]; omega⟩
              · have Hsm : Hid (idx R (ii + 1) = idx R ii) := idx_same R (hcs.2 rfl)
                go_wp2
                exact ⟨⟨ii + 1, by omega, by go_num, by rw [Hsm.out], hl3⟩, by simp [intOf]; omega⟩
            · cases bb
              · have hno : ∀ j', j' < ii → covR (R j') (R ii) = false := fun j' h => hcs.1 rfl j' (by omega)
                have hsw := swept_at (hS.lay hl3) hlt2 hno
                have hll := len_lt hlt2 hno
                have hll' : ((idx R ii).length : Int) < ((idx R k).length : Int) := by omega
                have hlb : ((idx R ii).length : Int) ≤ 1024 := by have := idx_len R ii; omega
                have Hstep : Hid ((idx R (ii + 1)).length = (idx R ii).length + 1) := (idx_at R hlt2 hno).2
                clear hno
                cases hsec : (R ii).sec
                · have Hsec : Hid ((R ii).sec = false) := hsec
                  rw [hsec] at hsw
                  simp only [Bool.false_eq_true, if_false] at hsw
                  clear hsec
                  go_wp2_with fail
                  refine hsw.mono ?_
                  rintro e w4 ⟨rfl, hl4⟩
                  clear hsw
                  obtain ⟨x0, x1, x2, x3, x4, x5⟩ := at_below (hR.out ii hlt2) (hS.lay (hl3.trans hl4)).below
                  rw [Hsec.out] at x5
                  have hbx := lt_of_cell x0
                  have z5 : ∀ o, (w4.alloc o).cell? ⟨b0, off + ii * 6 + 5, none⟩ = some (.bool false) := fun o => (((Lay.refl w4).alloc o).cell hbx).trans x5
                  have hnq := neq_same g1
                  go_wp2_with fail
                  go_region_held3 (fun v => v.cell? ⟨b0, off + ii * 6, none⟩ = some (.int .u64 (R ii).owner) ∧ v.cell? ⟨b0, off + ii * 6 + 1, none⟩ = some (.string (R ii).fr) ∧ v.cell? ⟨b0, off + ii * 6 + 2, none⟩ = some (.string (R ii).to) ∧ v.cell? ⟨b0, off + ii * 6 + 3, none⟩ = some (.bool (R ii).unb)
                      ∧ v.cell? ⟨b0, off + ii * 6 + 4, none⟩ = some (.int .u64 (R ii).seq) ∧ v.cell? ⟨b0, off + ii * 6 + 5, none⟩ = some (.bool false)
                      ∧ v.cell? ⟨w4.heap.size, 0, none⟩ = some (.string (R ii).fr) ∧ v.cell? ⟨w4.heap.size, 1, none⟩ = some (.string (R ii).to) ∧ v.cell? ⟨w4.heap.size, 2, none⟩ = some (.bool (R ii).unb) ∧ Lay w4 v)
                    (first | assumption | exact start9 ⟨x0, x1, x2, x3, x4, x5⟩ | (refine keep9 hlay ?_; assumption))
                    (first | (go_at_call 11; refine (span11 _ _ _ _ _ _ _).mono ?_; rintro e w5 ⟨rfl, hlay⟩))
                  rename_i hSS
                  have hlW := hSS.2.2.2.2.2.2.2.2.2
                  clear hSS
                  go_wp2
                  exact ⟨⟨ii + 1, by omega, by go_num, by rw [Hstep.out]; exact num_succ _, (hl3.trans hl4).trans hlW⟩, by simp [intOf]; omega⟩
                · have Hsec : Hid ((R ii).sec = true) := hsec
                  rw [hsec] at hsw
                  simp only [if_true] at hsw
                  clear hsec
                  go_wp2_with fail
                  refine hsw.mono ?_
                  rintro e w4 ⟨rfl, hl4⟩
                  clear hsw
                  obtain ⟨x0, x1, x2, x3, x4, x5⟩ := at_below (hR.out ii hlt2) (hS.lay (hl3.trans hl4)).below
                  rw [Hsec.out] at x5
                  have hbx := lt_of_cell x0
                  have z5 : ∀ o, (w4.alloc o).cell? ⟨b0, off + ii * 6 + 5, none⟩ = some (.bool true) := fun o => (((Lay.refl w4).alloc o).cell hbx).trans x5
                  have hnq := neq_same g2
                  go_wp2_with fail
                  go_region_held3 (fun v => v.cell? ⟨b0, off + ii * 6, none⟩ = some (.int .u64 (R ii).owner) ∧ v.cell? ⟨b0, off + ii * 6 + 1, none⟩ = some (.string (R ii).fr) ∧ v.cell? ⟨b0, off + ii * 6 + 2, none⟩ = some (.string (R ii).to) ∧ v.cell? ⟨b0, off + ii * 6 + 3, none⟩ = some (.bool (R ii).unb)
                      ∧ v.cell? ⟨b0, off + ii * 6 + 4, none⟩ = some (.int .u64 (R ii).seq) ∧ v.cell? ⟨b0, off + ii * 6 + 5, none⟩ = some (.bool true)
                      ∧ v.cell? ⟨w4.heap.size, 0, none⟩ = some (.string (R ii).fr) ∧ v.cell? ⟨w4.heap.size, 1, none⟩ = some (.string (R ii).to) ∧ v.cell? ⟨w4.heap.size, 2, none⟩ = some (.bool (R ii).unb) ∧ Lay w4 v)
                    (first | assumption | exact start9 ⟨x0, x1, x2, x3, x4, x5⟩ | (refine keep9 hlay ?_; assumption))
                    (first | (go_at_call 11; refine (span11 _ _ _ _ _ _ _).mono ?_; rintro e w5 ⟨rfl, hlay⟩))
                  rename_i hSS
                  have hlW := hSS.2.2.2.2.2.2.2.2.2
                  clear hSS
                  go_wp2
                  exact ⟨⟨ii + 1, by omega, by go_num, by rw [Hstep.out]; exact num_succ _, (hl3.trans hl4).trans hlW⟩, by simp [intOf]; omega⟩
              · have Hsm : Hid (idx R (ii + 1) = idx R ii) := idx_same R (hcs.2 rfl)
                go_wp2
                exact ⟨⟨ii + 1, by omega, by go_num, by rw [Hsm.out], hl3⟩, by simp [intOf]; omega⟩
        · obtain rfl : ii = k := by omega
          go_wp2
          go_ret
          exact ⟨rfl, (hS.lay hl2).below⟩
end Go.Proofs.Qxb6614041aDoor.Law3
