import Derived.Test.Qxb6614041aDoorSized
import Derived.Test.Qxb6614041aDoorSwept4
namespace Go.Proofs.Qxb6614041aDoor.Plain
open Go.Proofs.Qxb6614041aDoor.Base (withinB)
open Go.Proofs.Qxb6614041aDoor.Sized (Req)
open Go.Proofs.Qxb6614041aDoor.Follow (SQ covB stepL)
set_option linter.unusedVariables false

/-! ### Go's order on byte strings -/
theorem tri : ∀ (x y : List UInt8), Op.bytesLess y x = !(Op.bytesLess x y || x == y)
  | [], [] => rfl
  | [], _ :: _ => rfl
  | _ :: _, [] => rfl
  | a :: x, b :: y => by
    have h := tri x y
    simp only [Op.bytesLess]
    rw [h]
    rcases Nat.lt_trichotomy a.toNat b.toNat with h1 | h1 | h1
    · have e1 : a < b := UInt8.lt_iff_toNat_lt.2 h1
      have e2 : ¬ b < a := fun h => by have := UInt8.lt_iff_toNat_lt.1 h; omega
      have e3 : ¬ b = a := fun h => by subst h; omega
      simp [e1, e2, e3]
    · have e0 : a = b := UInt8.toNat_inj.1 h1
      subst e0
      have e2 : ¬ a < a := fun h => by have := UInt8.lt_iff_toNat_lt.1 h; omega
      simp [e2]
    · have e1 : b < a := UInt8.lt_iff_toNat_lt.2 h1
      have e2 : ¬ a < b := fun h => by have := UInt8.lt_iff_toNat_lt.1 h; omega
      have e3 : ¬ a = b := fun h => by subst h; omega
      simp [e1, e2, e3]
theorem irr (x : List UInt8) : Op.bytesLess x x = false := by
  have h := tri x x
  cases e : Op.bytesLess x x
  · rfl
  · rw [e] at h; simp at h
theorem lt_trans' : ∀ (x y z : List UInt8), Op.bytesLess x y = true → Op.bytesLess y z = true → Op.bytesLess x z = true
  | _, [], _, h, _ => by cases ‹List UInt8› <;> simp [Op.bytesLess] at h
  | _, _ :: _, [], _, h => by simp [Op.bytesLess] at h
  | [], _ :: _, _ :: _, _, _ => rfl
  | a :: x, b :: y, c :: z, h1, h2 => by
    simp only [Op.bytesLess, Bool.or_eq_true, Bool.and_eq_true, decide_eq_true_eq, beq_iff_eq] at h1 h2 ⊢
    rcases h1 with h1 | ⟨h1, h1'⟩ <;> rcases h2 with h2 | ⟨h2, h2'⟩
    · left; exact UInt8.lt_iff_toNat_lt.2 (Nat.lt_trans (UInt8.lt_iff_toNat_lt.1 h1) (UInt8.lt_iff_toNat_lt.1 h2))
    · left; rw [← h2]; exact h1
    · left; rw [h1]; exact h2
    · right; exact ⟨h1.trans h2, lt_trans' x y z h1' h2'⟩

/-- x is no later than y -/
def le (x y : List UInt8) : Bool := Op.bytesLess x y || x == y
theorem not_lt_eq (x y : List UInt8) : (!Op.bytesLess y x) = le x y := by rw [tri x y]; simp [le]
theorem le_refl (x : List UInt8) : le x x = true := by simp [le]
theorem le_trans (x y z : List UInt8) (h1 : le x y = true) (h2 : le y z = true) : le x z = true := by
  simp only [le, Bool.or_eq_true, beq_iff_eq] at h1 h2 ⊢
  rcases h1 with h1 | rfl
  · rcases h2 with h2 | rfl
    · exact .inl (lt_trans' _ _ _ h1 h2)
    · exact .inl h1
  · exact h2

theorem within_eq (f t f' t' : ByteArray) (u u' : Bool) : withinB f t u f' t' u' = (le f'.toList f.toList && (u' || (!u && le t.toList t'.toList))) := by
  unfold withinB
  rw [not_lt_eq]
  rfl
theorem within_refl (f t : ByteArray) (u : Bool) : withinB f t u f t u = true := by rw [within_eq]; cases u <;> simp [le_refl]
theorem within_trans {f t f' t' f'' t'' : ByteArray} {u u' u'' : Bool} (h1 : withinB f t u f' t' u' = true) (h2 : withinB f' t' u' f'' t'' u'' = true) : withinB f t u f'' t'' u'' = true := by
  rw [within_eq] at *
  simp only [Bool.and_eq_true, Bool.or_eq_true, Bool.not_eq_true'] at *
  refine ⟨le_trans _ _ _ h2.1 h1.1, ?_⟩
  rcases h2.2 with h | ⟨h, h'⟩
  · exact .inl h
  · rcases h1.2 with k | ⟨k, k'⟩
    · rw [h] at k; cases k
    · exact .inr ⟨k, le_trans _ _ _ k' h'⟩

/-! ### Which requests are swept -/
/-- r covers s -/
def covR (r s : Req) : Bool := (r.sec == s.sec) && (decide (s.seq ≤ r.seq) && withinB s.fr s.to s.unb r.fr r.to r.unb)
theorem covR_refl (r : Req) : covR r r = true := by simp [covR, within_refl]
theorem covR_trans {a b c : Req} (h1 : covR a b = true) (h2 : covR b c = true) : covR a c = true := by
  simp only [covR, Bool.and_eq_true, beq_iff_eq, decide_eq_true_eq] at *
  exact ⟨h1.1.trans h2.1, Int.le_trans h2.2.1 h1.2.1, within_trans h2.2.2 h1.2.2⟩

/-- the places of the requests that are swept among the first k -/
def idx (R : Nat → Req) : Nat → List Nat
  | 0 => []
  | k + 1 => if (idx R k).any (fun j => covR (R j) (R k)) then idx R k else idx R k ++ [k]

theorem idx_lt (R : Nat → Req) : ∀ k, ∀ j ∈ idx R k, j < k
  | 0, j, h => by cases h
  | k + 1, j, h => by
    simp only [idx] at h
    split at h
    · have := idx_lt R k j h; omega
    · rcases List.mem_append.1 h with h | h
      · have := idx_lt R k j h; omega
      · simp at h; omega
theorem idx_len (R : Nat → Req) : ∀ k, (idx R k).length ≤ k
  | 0 => Nat.le_refl _
  | k + 1 => by
    have := idx_len R k
    simp only [idx]
    split
    · omega
    · simp; omega
theorem idx_step (R : Nat → Req) (k : Nat) : idx R k <+: idx R (k + 1) := by
  simp only [idx]
  split
  · exact List.prefix_refl _
  · exact List.prefix_append _ _
theorem idx_prefix (R : Nat → Req) (k : Nat) : ∀ n, k ≤ n → idx R k <+: idx R n := by
  intro n h
  induction n with
  | zero => obtain rfl : k = 0 := by omega
            exact List.prefix_refl _
  | succ n ih =>
    by_cases e : k = n + 1
    · subst e; exact List.prefix_refl _
    · exact (ih (by omega)).trans (idx_step R n)
theorem any_of (R : Nat → Req) (x : Req) : ∀ i, (∃ j, j < i ∧ covR (R j) x = true) → (idx R i).any (fun j => covR (R j) x) = true
  | 0, ⟨j, h, _⟩ => by omega
  | i + 1, ⟨j, h, hc⟩ => by
    rw [List.any_eq_true]
    by_cases e : j = i
    · subst e
      simp only [idx]
      split
      · rename_i hany
        obtain ⟨j', hj', hc'⟩ := List.any_eq_true.1 hany
        exact ⟨j', hj', covR_trans hc' hc⟩
      · exact ⟨j, by simp, hc⟩
    · obtain ⟨j', hj', hc'⟩ := List.any_eq_true.1 (any_of R x i ⟨j, by omega, hc⟩)
      exact ⟨j', (idx_step R i).subset hj', hc'⟩
theorem any_to (R : Nat → Req) (x : Req) (i : Nat) (h : (idx R i).any (fun j => covR (R j) x) = true) : ∃ j, j < i ∧ covR (R j) x = true := by
  obtain ⟨j, hj, hc⟩ := List.any_eq_true.1 h
  exact ⟨j, idx_lt R i j hj, hc⟩

/-- an uncovered request stands, among all that are swept, behind those before it -/
theorem idx_at (R : Nat → Req) {i n : Nat} (hi : i < n) (h : ∀ j, j < i → covR (R j) (R i) = false) : (idx R n)[(idx R i).length]? = some i ∧ (idx R (i + 1)).length = (idx R i).length + 1 := by
  have hno : (idx R i).any (fun j => covR (R j) (R i)) = false := by
    cases e : (idx R i).any (fun j => covR (R j) (R i)) with
    | false => rfl
    | true =>
      obtain ⟨j, hj, hc⟩ := any_to R _ i e
      rw [h j hj] at hc
      cases hc
  have hs : idx R (i + 1) = idx R i ++ [i] := by simp [idx, hno]
  refine ⟨?_, by rw [hs]; simp⟩
  obtain ⟨r, hr⟩ := idx_prefix R (i + 1) n (by omega)
  rw [← hr, hs]
  simp
theorem idx_same (R : Nat → Req) {i : Nat} (h : ∃ j, j < i ∧ covR (R j) (R i) = true) : idx R (i + 1) = idx R i := by
  simp [idx, any_of R (R i) i h]

/-! ### From places to requests in memory -/
def sq (R : Nat → Req) (g1 g2 : Nat) (blk : Nat → Nat) (i : Nat) : SQ := { blk := blk i, grp := if (R i).sec then g2 else g1, fr := (R i).fr, to := (R i).to, unb := (R i).unb, seq := (R i).seq }
theorem cov_sq (R : Nat → Req) {g1 g2 : Nat} (hne : g1 ≠ g2) (blk : Nat → Nat) (i j : Nat) : covB (sq R g1 g2 blk i) (sq R g1 g2 blk j) = covR (R i) (R j) := by
  have e : decide ((if (R i).sec then g2 else g1) = (if (R j).sec then g2 else g1)) = ((R i).sec == (R j).sec) := by
    cases (R i).sec <;> cases (R j).sec <;> simp [hne, Ne.symm hne]
  exact congrArg (fun b => b && (decide ((R j).seq ≤ (R i).seq) && withinB (R j).fr (R j).to (R j).unb (R i).fr (R i).to (R i).unb)) e
theorem step_sq (R : Nat → Req) {g1 g2 : Nat} (hne : g1 ≠ g2) (blk : Nat → Nat) (k : Nat) : stepL ((idx R k).map (sq R g1 g2 blk)) (sq R g1 g2 blk k) = (idx R (k + 1)).map (sq R g1 g2 blk) := by
  have e : ((idx R k).map (sq R g1 g2 blk)).any (covB · (sq R g1 g2 blk k)) = (idx R k).any (fun j => covR (R j) (R k)) := by
    rw [List.any_map]
    congr 1
    funext j
    exact cov_sq R hne blk j k
  unfold stepL
  rw [e]
  simp only [idx]
  split
  · rfl
  · simp
theorem map_upd (R : Nat → Req) (g1 g2 : Nat) (blk : Nat → Nat) (k q : Nat) : (idx R k).map (sq R g1 g2 (fun i => if i = k then q else blk i)) = (idx R k).map (sq R g1 g2 blk) := by
  refine List.map_congr_left (fun j hj => ?_)
  have := idx_lt R k j hj
  simp [sq, show j ≠ k by omega]
end Go.Proofs.Qxb6614041aDoor.Plain
