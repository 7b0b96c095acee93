import Derived.Test.Qxb6613088aKeys
import Derived.Deep.QuietTactic
import Derived.BigQuiet
namespace Go.Proofs.Qxb6613088a.Texts
open Go.ChangeShapes Go.WideShapes Go.ChangeAt Go.RowKit
open Go.Proofs.Qxb6613088a.Keys (Laid)
set_option linter.unusedVariables false

theorem laid_drewN {a b : World} (h : Laid a b) : ∀ n, Laid a (b.drewN n)
  | 0 => h
  | n + 1 => (laid_drewN h n).drew

set_option maxHeartbeats 400000 in
theorem prefix20 (s p : ByteArray) (w : World) (hs : (s.size : Int) ≤ 9000000) (hp : p.size ≤ s.size)
    (h : ∀ (i : Nat) (h1 : i < s.size) (h2 : i < p.size), s[i] = p[i]) :
    Calls Try.prog 20 #[.string s, .string p] w fun e w' => e = .returned (.bool true) ∧ Laid w w' := by
  have H : Hid (∀ (i : Nat) (h1 : i < s.size) (h2 : i < p.size), s[i] = p[i]) := h
  clear h
  have hp' : (p.size : Int) ≤ s.size := by omega
  go_enter Try.func20, Try.ntmps20
  go_wp2
  go_loopw [5] (fun i wr => ∃ k : Nat, k ≤ p.size ∧ i = .int .i64 k ∧ Laid w wr) (fun i _ => p.size - (intOf i).toNat)
  case atStart => exact ⟨0, by omega, rfl, Laid.refl _⟩
  case round =>
    obtain ⟨k, hk, rfl, hl⟩ := hrel
    by_cases hlt : k < p.size
    · have hks : k < s.size := by omega
      have he : ((s[k].toNat : Int) == (p[k].toNat : Int)) = true := by rw [H.out k hks hlt]; simp
      have i1 : (0 : Int) ≤ (k : Int) := by omega
      have i2 : (k : Int) < (p.size : Int) := by omega
      have i3 : (k : Int) < (s.size : Int) := by omega
      go_wp2_with fail
      go_quiet (fail)
      go_wp2
      exact ⟨⟨k + 1, by omega, by go_num, laid_drewN hl nq⟩, by simp [intOf]; omega⟩
    · go_wp2
      go_ret
      exact ⟨rfl, hl⟩

set_option maxHeartbeats 400000 in
theorem suffix19 (s p : ByteArray) (w : World) (hs : (s.size : Int) ≤ 9000000) (hp : p.size ≤ s.size)
    (h : ∀ (i : Nat) (h1 : s.size - p.size + i < s.size) (h2 : i < p.size), s[s.size - p.size + i] = p[i]) :
    Calls Try.prog 19 #[.string s, .string p] w fun e w' => e = .returned (.bool true) ∧ Laid w w' := by
  have H : Hid (∀ (i : Nat) (h1 : s.size - p.size + i < s.size) (h2 : i < p.size), s[s.size - p.size + i] = p[i]) := h
  clear h
  have hp' : (p.size : Int) ≤ s.size := by omega
  go_enter Try.func19, Try.ntmps19
  go_wp2
  go_loopw [6] (fun i wr => ∃ k : Nat, k ≤ p.size ∧ i = .int .i64 k ∧ Laid w wr) (fun i _ => p.size - (intOf i).toNat)
  case atStart => exact ⟨0, by omega, rfl, Laid.refl _⟩
  case round =>
    obtain ⟨k, hk, rfl, hl⟩ := hrel
    by_cases hlt : k < p.size
    · have hks : s.size - p.size + k < s.size := by omega
      have he : ((s[s.size - p.size + k].toNat : Int) == (p[k].toNat : Int)) = true := by rw [H.out k hks hlt]; simp
      have i1 : (0 : Int) ≤ (k : Int) := by omega
      have i2 : (k : Int) < (p.size : Int) := by omega
      have i3 : (s.size : Int) - p.size + (k : Int) < (s.size : Int) := by omega
      have i4 : 0 ≤ (s.size : Int) - p.size + (k : Int) := by omega
      go_wp2_with fail
      go_quiet (fail)
      go_wp2
      exact ⟨⟨k + 1, by omega, by go_num, laid_drewN hl nq⟩, by simp [intOf]; omega⟩
    · go_wp2
      go_ret
      exact ⟨rfl, hl⟩

theorem prefix_app (p t : ByteArray) (w : World) (hs : (p ++ t).size ≤ 9000000) :
    Calls Try.prog 20 #[.string (p ++ t), .string p] w fun e w' => e = .returned (.bool true) ∧ Laid w w' :=
  prefix20 _ _ _ (by omega) (by rw [ByteArray.size_append]; omega) (fun i h1 h2 => by rw [ByteArray.getElem_append_left h2])

theorem suffix_app (t p : ByteArray) (w : World) (hs : (t ++ p).size ≤ 9000000) :
    Calls Try.prog 19 #[.string (t ++ p), .string p] w fun e w' => e = .returned (.bool true) ∧ Laid w w' :=
  suffix19 _ _ _ (by omega) (by rw [ByteArray.size_append]; omega) (fun i h1 h2 => by
    rw [ByteArray.getElem_append_right (by rw [ByteArray.size_append]; omega)]
    congr 1
    rw [ByteArray.size_append]; omega)
end Go.Proofs.Qxb6613088a.Texts
