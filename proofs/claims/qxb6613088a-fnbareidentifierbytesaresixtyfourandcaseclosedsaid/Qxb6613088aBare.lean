import Derived.Test.Qxb6613088aRows
import Derived.WalkKit
import Derived.ProofKit
namespace Go.Proofs.Qxb6613088a.Bare
open Go.ChangeShapes Go.WideShapes Go.ChangeAt Go.RowKit
set_option linter.unusedVariables false

/-! ### The plain law -/
def bare (c : Int) : Bool := decide (97 ≤ c ∧ c ≤ 122) || decide (65 ≤ c ∧ c ≤ 90) || decide (48 ≤ c ∧ c ≤ 57) || decide (c = 95) || decide (c = 36)
def swap (c : Int) : Int := if 97 ≤ c ∧ c ≤ 122 then c - 32 else if 65 ≤ c ∧ c ≤ 90 then c + 32 else c
def cnt : Nat → Nat
  | 0 => 0
  | k + 1 => cnt k + if bare k then 1 else 0

theorem bare_swap (c : Int) : bare (swap c) = bare c := by
  rw [Bool.eq_iff_iff]
  unfold swap
  split
  · simp [bare]; omega
  · split
    · simp [bare]; omega
    · rfl
theorem bare_iff (c : Int) : bare c = true ↔ (97 ≤ c ∧ c ≤ 122) ∨ (65 ≤ c ∧ c ≤ 90) ∨ (48 ≤ c ∧ c ≤ 57) ∨ c = 95 ∨ c = 36 := by
  simp [bare, or_assoc]
theorem bare_yes {c : Int} (h : (97 ≤ c ∧ c ≤ 122) ∨ (65 ≤ c ∧ c ≤ 90) ∨ (48 ≤ c ∧ c ≤ 57) ∨ c = 95 ∨ c = 36) : bare c = true := (bare_iff c).2 h
theorem bare_no {c : Int} (h : ¬ ((97 ≤ c ∧ c ≤ 122) ∨ (65 ≤ c ∧ c ≤ 90) ∨ (48 ≤ c ∧ c ≤ 57) ∨ c = 95 ∨ c = 36)) : bare c = false := by
  rw [← Bool.not_eq_true, bare_iff]; exact h
theorem bare_lt {c : Int} (h : bare c = true) : c < 128 := by rw [bare_iff] at h; omega
theorem cnt_le : ∀ k, cnt k ≤ k
  | 0 => Nat.le_refl _
  | k + 1 => by have := cnt_le k; simp only [cnt]; split <;> omega
theorem cnt_all : cnt 256 = 64 := by decide +kernel
theorem cnt_yes {k : Nat} (h : bare k = true) : cnt (k + 1) = cnt k + 1 := by simp [cnt, h]
theorem cnt_no {k : Nat} (h : bare k = false) : cnt (k + 1) = cnt k := by simp [cnt, h]
theorem swap_bd {c : Int} (h0 : 0 ≤ c) (h1 : c ≤ 255) : 0 ≤ swap c ∧ swap c ≤ 255 := by unfold swap; split <;> (try split) <;> omega
theorem ret_bool {a b : Bool} (h : a = b) : Ending.returned (.bool a) = .returned (.bool b) := by rw [h]

/-! ### The walks -/
theorem bare21 (c : Int) (h0 : 0 ≤ c) (h1 : c ≤ 255) (w : World) :
    Calls Try.prog 21 #[.int .u8 c] w fun e w' => e = .returned (.bool (bare c)) ∧ w' = w := by
  go_enter Try.func21, Try.ntmps21
  go_wp2
  all_goals
    go_ret
    exact ⟨ret_bool (by rw [Bool.eq_iff_iff, bare_iff]; simp <;> omega), rfl⟩

theorem swap22 (c : Int) (h0 : 0 ≤ c) (h1 : c ≤ 255) (w : World) :
    Calls Try.prog 22 #[.int .u8 c] w fun e w' => e = .returned (.int .u8 (swap c)) ∧ w' = w := by
  by_cases c1 : 97 ≤ c ∧ c ≤ 122
  · have e : swap c = c - 32 := by simp [swap, c1]
    rw [e]
    obtain ⟨c1, c2⟩ := c1
    clear e
    go_enter Try.func22, Try.ntmps22
    go_wp2
    go_ret
    exact ⟨rfl, rfl⟩
  by_cases c2 : 65 ≤ c ∧ c ≤ 90
  · have e : swap c = c + 32 := by simp [swap, c1, c2]
    rw [e]
    obtain ⟨c3, c4⟩ := c2
    clear e c1
    go_enter Try.func22, Try.ntmps22
    go_wp2
    go_ret
    exact ⟨rfl, rfl⟩
  have e : swap c = c := by simp [swap, c1, c2]
  rw [e]
  clear e
  rcases (show c < 65 ∨ (90 < c ∧ c < 97) ∨ 122 < c by omega) with c3 | ⟨c3, c4⟩ | c3
  all_goals
    clear c1 c2
    go_enter Try.func22, Try.ntmps22
    go_wp2
    go_ret
    exact ⟨rfl, rfl⟩

set_option maxRecDepth 100000 in
/-- what the loop comes to, and the last line -/
theorem law6 (c : Int) (h0 : 0 ≤ c) (h1 : c ≤ 255) (w : World) :
    Calls Try.prog 6 #[.int .u8 c] w fun e w' => e = .returned (.bool true) ∧ w' = w := by
  have hs := swap_bd h0 h1
  go_enter Try.func6, Try.ntmps6
  go_wp2
  go_loop [3, 4] (fun n i => ∃ k : Nat, k ≤ 256 ∧ i = .int .i64 k ∧ n = .int .i64 (cnt k : Nat)) (fun _ i => 256 - (intOf i).toNat)
  case atStart => exact ⟨0, by omega, rfl, rfl⟩
  case round =>
    obtain ⟨k, hk, rfl, rfl⟩ := hrel
    have hc := cnt_le k
    by_cases hlt : k < 256
    · cases hb : bare (k : Int)
      · have H : Hid (bare (k : Int) = false) := hb
        have Hn : Hid (cnt (k + 1) = cnt k) := cnt_no hb
        clear hb
        go_wp2_with fail
        refine (bare21 k (by omega) (by omega) w).mono ?_
        rintro e w' ⟨rfl, rfl⟩
        rw [H.out]
        go_wp2
        go_round
        case rel => exact ⟨k + 1, by omega, by go_num, by rw [Hn.out]⟩
        case measure => simp [intOf]; omega
      · have H : Hid (bare (k : Int) = true) := hb
        have Hn : Hid (cnt (k + 1) = cnt k + 1) := cnt_yes hb
        have hl := bare_lt hb
        clear hb
        go_wp2_with fail
        refine (bare21 k (by omega) (by omega) w).mono ?_
        rintro e w' ⟨rfl, rfl⟩
        rw [H.out]
        go_wp2
        go_round
        case rel => exact ⟨k + 1, by omega, by go_num, by rw [Hn.out]; go_num⟩
        case measure => simp [intOf]; omega
    · obtain rfl : k = 256 := by omega
      have e64 : ((cnt 256 : Nat) : Int) = 64 := by rw [cnt_all]; rfl
      rw [e64]
      clear e64
      have Hs : Hid (bare (swap c) = bare c) := bare_swap c
      go_wp2_with fail
      refine (bare21 c h0 h1 w).mono ?_
      rintro e w' ⟨rfl, rfl⟩
      go_wp2_with fail
      refine (swap22 c h0 h1 _).mono ?_
      rintro e w' ⟨rfl, rfl⟩
      go_wp2_with fail
      refine (bare21 (swap c) hs.1 hs.2 _).mono ?_
      rintro e w' ⟨rfl, rfl⟩
      rw [Hs.out]
      go_wp2
      go_ret
      exact ⟨by simp, rfl⟩
end Go.Proofs.Qxb6613088a.Bare
