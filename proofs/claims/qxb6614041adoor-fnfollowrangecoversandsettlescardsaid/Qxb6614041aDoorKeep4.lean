import Derived.Test.Qxb6614041aDoorRow4
import Derived.Test.Qxb6614041aDoorTab4
namespace Go.Proofs.Qxb6614041aDoor.Keep4
open Go.RowKit
open Go.Proofs.Qxb6614041aDoor.Base
open Go.Proofs.Qxb6614041aDoor.Sized (Req At)
open Go.Proofs.Qxb6614041aDoor.Follow (SQ covB stepL Swept Done someEnd row_ne)
open Go.Proofs.Qxb6614041aDoor.Plain
open Go.Proofs.Qxb6614041aDoor.State
set_option linter.unusedVariables false

theorem at_below {w wr : World} {b off k : Nat} {r : Req} (h : At w b off k r) (hb : Below w.heap.size w wr) : At wr b off k r := h.lay hb

/-- the six cells, behind new blocks -/
theorem keep6 {W v v' : World} {b0 o : Nat} {x0 x1 x2 x3 x4 x5 : Value} (hl : Lay v v')
    (h : v.cell? ⟨b0, o, none⟩ = some x0 ∧ v.cell? ⟨b0, o + 1, none⟩ = some x1 ∧ v.cell? ⟨b0, o + 2, none⟩ = some x2 ∧ v.cell? ⟨b0, o + 3, none⟩ = some x3 ∧ v.cell? ⟨b0, o + 4, none⟩ = some x4 ∧ v.cell? ⟨b0, o + 5, none⟩ = some x5 ∧ Lay W v) :
    v'.cell? ⟨b0, o, none⟩ = some x0 ∧ v'.cell? ⟨b0, o + 1, none⟩ = some x1 ∧ v'.cell? ⟨b0, o + 2, none⟩ = some x2 ∧ v'.cell? ⟨b0, o + 3, none⟩ = some x3 ∧ v'.cell? ⟨b0, o + 4, none⟩ = some x4 ∧ v'.cell? ⟨b0, o + 5, none⟩ = some x5 ∧ Lay W v' := by
  obtain ⟨h0, h1, h2, h3, h4, h5, h6⟩ := h
  have hb := lt_of_cell h0
  exact ⟨(hl.cell hb).trans h0, (hl.cell hb).trans h1, (hl.cell hb).trans h2, (hl.cell hb).trans h3, (hl.cell hb).trans h4, (hl.cell hb).trans h5, h6.trans hl⟩

theorem keep12 {W v v' : World} {b0 o o' : Nat} {x0 x1 x2 x3 x4 x5 y0 y1 y2 y3 y4 y5 : Value} (hl : Lay v v')
    (h : v.cell? ⟨b0, o, none⟩ = some x0 ∧ v.cell? ⟨b0, o + 1, none⟩ = some x1 ∧ v.cell? ⟨b0, o + 2, none⟩ = some x2 ∧ v.cell? ⟨b0, o + 3, none⟩ = some x3 ∧ v.cell? ⟨b0, o + 4, none⟩ = some x4 ∧ v.cell? ⟨b0, o + 5, none⟩ = some x5
      ∧ v.cell? ⟨b0, o', none⟩ = some y0 ∧ v.cell? ⟨b0, o' + 1, none⟩ = some y1 ∧ v.cell? ⟨b0, o' + 2, none⟩ = some y2 ∧ v.cell? ⟨b0, o' + 3, none⟩ = some y3 ∧ v.cell? ⟨b0, o' + 4, none⟩ = some y4 ∧ v.cell? ⟨b0, o' + 5, none⟩ = some y5 ∧ Lay W v) :
    v'.cell? ⟨b0, o, none⟩ = some x0 ∧ v'.cell? ⟨b0, o + 1, none⟩ = some x1 ∧ v'.cell? ⟨b0, o + 2, none⟩ = some x2 ∧ v'.cell? ⟨b0, o + 3, none⟩ = some x3 ∧ v'.cell? ⟨b0, o + 4, none⟩ = some x4 ∧ v'.cell? ⟨b0, o + 5, none⟩ = some x5
      ∧ v'.cell? ⟨b0, o', none⟩ = some y0 ∧ v'.cell? ⟨b0, o' + 1, none⟩ = some y1 ∧ v'.cell? ⟨b0, o' + 2, none⟩ = some y2 ∧ v'.cell? ⟨b0, o' + 3, none⟩ = some y3 ∧ v'.cell? ⟨b0, o' + 4, none⟩ = some y4 ∧ v'.cell? ⟨b0, o' + 5, none⟩ = some y5 ∧ Lay W v' := by
  obtain ⟨h0, h1, h2, h3, h4, h5, k0, k1, k2, k3, k4, k5, h6⟩ := h
  have hb := lt_of_cell h0
  exact ⟨(hl.cell hb).trans h0, (hl.cell hb).trans h1, (hl.cell hb).trans h2, (hl.cell hb).trans h3, (hl.cell hb).trans h4, (hl.cell hb).trans h5, (hl.cell hb).trans k0, (hl.cell hb).trans k1, (hl.cell hb).trans k2, (hl.cell hb).trans k3, (hl.cell hb).trans k4, (hl.cell hb).trans k5, h6.trans hl⟩

theorem keep9 {W v v' : World} {b0 o B : Nat} {x0 x1 x2 x3 x4 x5 y0 y1 y2 : Value} (hl : Lay v v')
    (h : v.cell? ⟨b0, o, none⟩ = some x0 ∧ v.cell? ⟨b0, o + 1, none⟩ = some x1 ∧ v.cell? ⟨b0, o + 2, none⟩ = some x2 ∧ v.cell? ⟨b0, o + 3, none⟩ = some x3 ∧ v.cell? ⟨b0, o + 4, none⟩ = some x4 ∧ v.cell? ⟨b0, o + 5, none⟩ = some x5
      ∧ v.cell? ⟨B, 0, none⟩ = some y0 ∧ v.cell? ⟨B, 1, none⟩ = some y1 ∧ v.cell? ⟨B, 2, none⟩ = some y2 ∧ Lay W v) :
    v'.cell? ⟨b0, o, none⟩ = some x0 ∧ v'.cell? ⟨b0, o + 1, none⟩ = some x1 ∧ v'.cell? ⟨b0, o + 2, none⟩ = some x2 ∧ v'.cell? ⟨b0, o + 3, none⟩ = some x3 ∧ v'.cell? ⟨b0, o + 4, none⟩ = some x4 ∧ v'.cell? ⟨b0, o + 5, none⟩ = some x5
      ∧ v'.cell? ⟨B, 0, none⟩ = some y0 ∧ v'.cell? ⟨B, 1, none⟩ = some y1 ∧ v'.cell? ⟨B, 2, none⟩ = some y2 ∧ Lay W v' := by
  obtain ⟨h0, h1, h2, h3, h4, h5, k0, k1, k2, h6⟩ := h
  have hb := lt_of_cell h0
  have hB := lt_of_cell k0
  exact ⟨(hl.cell hb).trans h0, (hl.cell hb).trans h1, (hl.cell hb).trans h2, (hl.cell hb).trans h3, (hl.cell hb).trans h4, (hl.cell hb).trans h5, (hl.cell hB).trans k0, (hl.cell hB).trans k1, (hl.cell hB).trans k2, h6.trans hl⟩

theorem num_succ (a : Nat) : Value.int .i64 ((a : Int) + 1) = Value.int .i64 ((a + 1 : Nat) : Int) := by rw [Int.natCast_add]; rfl

theorem follow_new {w wr W : World} {R : Nat → Req} {b g1 g2 k q : Nat} {blk : Nat → Nat} {sv : Value} (hne : g1 ≠ g2) (h : St w wr R b g1 g2 k blk sv ((idx R k).map (sq R g1 g2 blk)))
    (hl : Lay wr W) (hq : IsReq W q (if (R k).sec then g2 else g1) (R k).fr (R k).to (R k).unb (R k).seq) (hk : k ≤ 1024) :
    Calls Tryd.prog 12 #[.pointer (some ⟨b, 0, none⟩), .pointer (some ⟨q, 0, none⟩)] W fun e w' => someEnd e ∧ Done W w' w.heap.size b sv ((idx R k).map (sq R g1 g2 blk)) (sq R g1 g2 (fun i => if i = k then q else blk i) k) := by
  have h0 := h.lay hl
  have hblk : (sq R g1 g2 (fun i => if i = k then q else blk i) k).blk = q := by simp [sq]
  have hg : IsGroup W (if (R k).sec then g2 else g1) := by
    split
    · exact h0.gr2
    · exact h0.gr1
  have hf := follow12 w.heap.size b sv ((idx R k).map (sq R g1 g2 blk)) (sq R g1 g2 (fun i => if i = k then q else blk i) k) W h0.swept ⟨by simpa [sq] using hq, by simpa [sq] using hg⟩ (by have := idx_len R k; simp; omega) h0.size
  rw [hblk] at hf
  exact hf


theorem none19 (w : World) : Calls Tryd.prog 19 #[] w fun e w' => e = .returned (.slice none 0 0) ∧ w' = w := by
  go_enter Tryd.func19, Tryd.ntmps19
  go_wp2
  go_ret
  exact ⟨rfl, rfl⟩

theorem info38 : (Tryd.prog.info? 38).map (fun i => (i.zero, i.size, i.bytes)) = some (some (.agg #[.string ⟨#[]⟩, .string ⟨#[]⟩, .bool false]), 3, 40) := by kernel_rfl
theorem info22 : (Tryd.prog.info? 22).map (fun i => (i.zero, i.size, i.bytes)) = some (some (.int .u64 0), 1, 8) := by kernel_rfl
theorem info4 : (Tryd.prog.info? 4).map (fun i => (i.zero, i.size, i.bytes)) = some (some (.bool false), 1, 1) := by kernel_rfl

/-- one of the law's three makes -/
theorem make_any (t e : TypeId) (z : Value) (size bytes : Nat) (ht : Tryd.prog.underlying t = some (.slice e)) (hinfo : (Tryd.prog.info? e).map (fun i => (i.zero, i.size, i.bytes)) = some (some z, size, bytes)) (n : Nat) (hn : n ≤ 1024) (hb : bytes ≤ 64) :
    ∃ cs : Array Value, cs.size = n * size ∧ ∀ w : World, (Instr.makeSlice t (.int .i64 (n : Int)) (.int .i64 (n : Int))).run Tryd.prog w = .ok (.slice (some ⟨w.heap.size, 0, none⟩) n n) (w.alloc (.cells cs e)) := by
  obtain ⟨i, hi, hzz⟩ := Option.map_eq_some_iff.1 hinfo
  simp only [Prod.mk.injEq] at hzz
  obtain ⟨hz, hs, hbb⟩ := hzz
  refine ⟨madeCells z.cells (n * size), size_madeCells _ _, fun w => ?_⟩
  have hb' : (i.bytes : Int) * (n : Int) ≤ 281474976710656 := by
    rw [hbb]
    have h : bytes * n ≤ 64 * 1024 := Nat.mul_le_mul hb hn
    have h' : ((bytes * n : Nat) : Int) ≤ 281474976710656 := by omega
    rwa [Int.natCast_mul] at h'
  have hr := run_make (P := Tryd.prog) w t e i z ht hi hz .i64 .i64 n n (by omega) (Int.le_refl _) hb' (by omega)
  simp only [Int.toNat_natCast, hs] at hr
  exact hr
theorem keep11 {W v v' : World} {b0 o sb qb cb s t : Nat} {x0 x1 x2 x3 x4 x5 y0 y1 y2 y3 y4 : Value} (hl : Lay v v')
    (h : v.cell? ⟨b0, o, none⟩ = some x0 ∧ v.cell? ⟨b0, o + 1, none⟩ = some x1 ∧ v.cell? ⟨b0, o + 2, none⟩ = some x2 ∧ v.cell? ⟨b0, o + 3, none⟩ = some x3 ∧ v.cell? ⟨b0, o + 4, none⟩ = some x4 ∧ v.cell? ⟨b0, o + 5, none⟩ = some x5 ∧ v.cell? ⟨sb, s, none⟩ = some y0 ∧ v.cell? ⟨sb, s + 1, none⟩ = some y1 ∧ v.cell? ⟨sb, s + 2, none⟩ = some y2 ∧ v.cell? ⟨qb, t, none⟩ = some y3 ∧ v.cell? ⟨cb, t, none⟩ = some y4 ∧ Lay W v) :
    v'.cell? ⟨b0, o, none⟩ = some x0 ∧ v'.cell? ⟨b0, o + 1, none⟩ = some x1 ∧ v'.cell? ⟨b0, o + 2, none⟩ = some x2 ∧ v'.cell? ⟨b0, o + 3, none⟩ = some x3 ∧ v'.cell? ⟨b0, o + 4, none⟩ = some x4 ∧ v'.cell? ⟨b0, o + 5, none⟩ = some x5 ∧ v'.cell? ⟨sb, s, none⟩ = some y0 ∧ v'.cell? ⟨sb, s + 1, none⟩ = some y1 ∧ v'.cell? ⟨sb, s + 2, none⟩ = some y2 ∧ v'.cell? ⟨qb, t, none⟩ = some y3 ∧ v'.cell? ⟨cb, t, none⟩ = some y4 ∧ Lay W v' := by
  obtain ⟨h0, h1, h2, h3, h4, h5, k0, k1, k2, k3, k4, h6⟩ := h
  have hb := lt_of_cell h0
  have hs := lt_of_cell k0
  have hq := lt_of_cell k3
  have hc := lt_of_cell k4
  exact ⟨(hl.cell hb).trans h0, (hl.cell hb).trans h1, (hl.cell hb).trans h2, (hl.cell hb).trans h3, (hl.cell hb).trans h4, (hl.cell hb).trans h5, (hl.cell hs).trans k0, (hl.cell hs).trans k1, (hl.cell hs).trans k2, (hl.cell hq).trans k3, (hl.cell hc).trans k4, h6.trans hl⟩

theorem keep11z {W v v' : World} {b0 o sb qb cb : Nat} {x0 x1 x2 x3 x4 x5 y0 y1 y2 y3 y4 : Value} (hl : Lay v v')
    (h : v.cell? ⟨b0, o, none⟩ = some x0 ∧ v.cell? ⟨b0, o + 1, none⟩ = some x1 ∧ v.cell? ⟨b0, o + 2, none⟩ = some x2 ∧ v.cell? ⟨b0, o + 3, none⟩ = some x3 ∧ v.cell? ⟨b0, o + 4, none⟩ = some x4 ∧ v.cell? ⟨b0, o + 5, none⟩ = some x5 ∧ v.cell? ⟨sb, 0, none⟩ = some y0 ∧ v.cell? ⟨sb, 1, none⟩ = some y1 ∧ v.cell? ⟨sb, 2, none⟩ = some y2 ∧ v.cell? ⟨qb, 0, none⟩ = some y3 ∧ v.cell? ⟨cb, 0, none⟩ = some y4 ∧ Lay W v) :
    v'.cell? ⟨b0, o, none⟩ = some x0 ∧ v'.cell? ⟨b0, o + 1, none⟩ = some x1 ∧ v'.cell? ⟨b0, o + 2, none⟩ = some x2 ∧ v'.cell? ⟨b0, o + 3, none⟩ = some x3 ∧ v'.cell? ⟨b0, o + 4, none⟩ = some x4 ∧ v'.cell? ⟨b0, o + 5, none⟩ = some x5 ∧ v'.cell? ⟨sb, 0, none⟩ = some y0 ∧ v'.cell? ⟨sb, 1, none⟩ = some y1 ∧ v'.cell? ⟨sb, 2, none⟩ = some y2 ∧ v'.cell? ⟨qb, 0, none⟩ = some y3 ∧ v'.cell? ⟨cb, 0, none⟩ = some y4 ∧ Lay W v' := by
  obtain ⟨h0, h1, h2, h3, h4, h5, k0, k1, k2, k3, k4, h6⟩ := h
  have hb := lt_of_cell h0
  have hs := lt_of_cell k0
  have hq := lt_of_cell k3
  have hc := lt_of_cell k4
  exact ⟨(hl.cell hb).trans h0, (hl.cell hb).trans h1, (hl.cell hb).trans h2, (hl.cell hb).trans h3, (hl.cell hb).trans h4, (hl.cell hb).trans h5, (hl.cell hs).trans k0, (hl.cell hs).trans k1, (hl.cell hs).trans k2, (hl.cell hq).trans k3, (hl.cell hc).trans k4, h6.trans hl⟩

theorem at_zero {w : World} {b off : Nat} {r : Req} (h : At w b off 0 r) :
    w.cell? ⟨b, off, none⟩ = some (.int .u64 r.owner) ∧ w.cell? ⟨b, off + 1, none⟩ = some (.string r.fr) ∧ w.cell? ⟨b, off + 2, none⟩ = some (.string r.to) ∧ w.cell? ⟨b, off + 3, none⟩ = some (.bool r.unb) ∧ w.cell? ⟨b, off + 4, none⟩ = some (.int .u64 r.seq) ∧ w.cell? ⟨b, off + 5, none⟩ = some (.bool r.sec) := by
  obtain ⟨h0, h1, h2, h3, h4, h5⟩ := h
  simp only [Nat.zero_mul, Nat.add_zero] at h0 h1 h2 h3 h4 h5
  exact ⟨h0, h1, h2, h3, h4, h5⟩
theorem tab_zero {v : World} {sb qb cb m t : Nat} {f : Nat → Req} (h : Tab4.Tab v sb qb cb m t f) (ht : 0 < t) :
    v.cell? ⟨sb, 0, none⟩ = some (.string (f 0).fr) ∧ v.cell? ⟨sb, 1, none⟩ = some (.string (f 0).to) ∧ v.cell? ⟨sb, 2, none⟩ = some (.bool (f 0).unb) ∧ v.cell? ⟨qb, 0, none⟩ = some (.int .u64 (f 0).seq) ∧ v.cell? ⟨cb, 0, none⟩ = some (.bool (f 0).sec) := by
  have := h.cells ht
  simpa using this
/-- where the search among what is swept stands: none of the first j covers r, or one has been found -/
def NoCov (F : Nat → Req) (r : Req) (j : Nat) (b : Bool) : Prop := b = false → ∀ j', j' < j → covR (F j') r = false
theorem NoCov.start (F : Nat → Req) (r : Req) : NoCov F r 0 false := fun _ j' h => absurd h (Nat.not_lt_zero _)
theorem NoCov.no {F : Nat → Req} {r : Req} {j : Nat} (h : NoCov F r j false) (hc : covR (F j) r = false) : NoCov F r (j + 1) false := fun _ j' hj => by
  by_cases e : j' = j
  · subst e; exact hc
  · exact h rfl j' (by omega)
theorem NoCov.yes (F : Nat → Req) (r : Req) (j : Nat) : NoCov F r j true := fun h => by cases h
theorem NoCov.out {F : Nat → Req} {r : Req} {j : Nat} (h : NoCov F r j false) {M : Nat} (hM : M ≤ j) (hc : ∃ t, t < M ∧ covR (F t) r = true) : False := by
  obtain ⟨t, ht, hc⟩ := hc
  rw [h rfl t (by omega)] at hc
  cases hc
end Go.Proofs.Qxb6614041aDoor.Keep4
