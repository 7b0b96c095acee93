import Derived.Test.Qxb6614041aDoorBase
namespace Go.Proofs.Qxb6614041aDoor.Sized
open Go.ChangeShapes Go.WideShapes Go.ChangeAt Go.RowKit
open Go.Proofs.Qxb6614041aDoor.Base (Lay)
set_option linter.unusedVariables false

/-- one LockSweep, as data -/
structure Req where
  owner : Int
  fr : ByteArray
  to : ByteArray
  unb : Bool
  seq : Int
  sec : Bool

/-- the six cells of the k-th element -/
def At (w : World) (b off k : Nat) (r : Req) : Prop :=
  w.cell? ⟨b, off + k * 6, none⟩ = some (.int .u64 r.owner) ∧ w.cell? ⟨b, off + k * 6 + 1, none⟩ = some (.string r.fr) ∧ w.cell? ⟨b, off + k * 6 + 2, none⟩ = some (.string r.to) ∧ w.cell? ⟨b, off + k * 6 + 3, none⟩ = some (.bool r.unb)
    ∧ w.cell? ⟨b, off + k * 6 + 4, none⟩ = some (.int .u64 r.seq) ∧ w.cell? ⟨b, off + k * 6 + 5, none⟩ = some (.bool r.sec)

theorem At.lay {w w' : World} {b off k : Nat} {r : Req} (h : At w b off k r) (hl : Lay w w') : At w' b off k r := by
  have hb : b < w.heap.size := Base.lt_of_cell h.1
  obtain ⟨h0, h1, h2, h3, h4, h5⟩ := h
  exact ⟨(hl.cell hb).trans h0, (hl.cell hb).trans h1, (hl.cell hb).trans h2, (hl.cell hb).trans h3, (hl.cell hb).trans h4, (hl.cell hb).trans h5⟩

/-- some bool comes back -/
def someBool (e : Ending) : Prop := ∃ x, e = .returned (.bool x)

set_option maxHeartbeats 400000 in
theorem sized6 (b off n c : Nat) (R : Nat → Req) (w : World) (p : Option Addr) (hp : ∀ k, k < n → p = some ⟨b, off, none⟩) (hR : Hid (∀ k, k < n → At w b off k (R k))) (hn : n ≤ 1024) :
    Calls Tryd.prog 6 #[.slice p n c] w fun e w' => someBool e ∧ w' = w := by
  have HP : Hid (∀ k, k < n → p = some ⟨b, off, none⟩) := hp
  clear hp
  go_enter Tryd.func6, Tryd.ntmps6
  go_wp2
  go_loop [3, 10] (fun t i => ∃ (k : Nat) (x : Int), k ≤ n ∧ i = .int .i64 k ∧ t = .int .i64 x) (fun _ i => n - (intOf i).toNat)
  case atStart => exact ⟨0, _, by omega, rfl, rfl⟩
  case round =>
    obtain ⟨k, x, hk, rfl, rfl⟩ := hrel
    by_cases hlt : k < n
    · obtain rfl := HP.out k hlt
      obtain ⟨h0, h1, h2, h3, h4, h5⟩ := hR.out k hlt
      have i1 : (0 : Int) ≤ (k : Int) := by omega
      have i2 : (k : Int) < (n : Int) := by omega
      go_wp2
      · go_ret
        exact ⟨⟨_, rfl⟩, rfl⟩
      · go_ret
        exact ⟨⟨_, rfl⟩, rfl⟩
      · exact ⟨⟨k + 1, _, by omega, by go_num, rfl⟩, by simp [intOf]; omega⟩
    · go_wp2
      go_ret
      exact ⟨⟨_, rfl⟩, rfl⟩

set_option maxHeartbeats 400000 in
theorem bytes5 (t : Int) (b off n c : Nat) (R : Nat → Req) (w : World) (p : Option Addr) (hp : ∀ k, k < n → p = some ⟨b, off, none⟩) (hR : Hid (∀ k, k < n → At w b off k (R k))) (hn : (n : Int) ≤ 140737488355328) :
    Calls Tryd.prog 5 #[.int .u64 t, .slice p n c] w fun e w' => someBool e ∧ w' = w := by
  have HP : Hid (∀ k, k < n → p = some ⟨b, off, none⟩) := hp
  clear hp
  by_cases hbig : (1048576 : Int) < n
  · go_enter Tryd.func5, Tryd.ntmps5
    go_wp2
    go_ret
    exact ⟨⟨_, rfl⟩, rfl⟩
  have hbig' : (n : Int) ≤ 1048576 := by omega
  clear hbig
  go_enter Tryd.func5, Tryd.ntmps5
  go_wp2
  go_loop [5, 6] (fun t i => ∃ (k : Nat) (x : Int), k ≤ n ∧ i = .int .i64 k ∧ t = .int .i64 x) (fun _ i => n - (intOf i).toNat)
  case atStart => exact ⟨0, _, by omega, rfl, rfl⟩
  case round =>
    obtain ⟨k, x, hk, rfl, rfl⟩ := hrel
    by_cases hlt : k < n
    · obtain rfl := HP.out k hlt
      obtain ⟨h0, h1, h2, h3, h4, h5⟩ := hR.out k hlt
      have i1 : (0 : Int) ≤ (k : Int) := by omega
      have i2 : (k : Int) < (n : Int) := by omega
      go_wp2
      · go_ret
        exact ⟨⟨_, rfl⟩, rfl⟩
      · go_ret
        exact ⟨⟨_, rfl⟩, rfl⟩
      · go_ret
        exact ⟨⟨_, rfl⟩, rfl⟩
      · go_ret
        exact ⟨⟨_, rfl⟩, rfl⟩
      · exact ⟨⟨k + 1, _, by omega, by go_num, rfl⟩, by simp [intOf]; omega⟩
    · go_wp2
      go_ret
      exact ⟨⟨_, rfl⟩, rfl⟩

set_option maxHeartbeats 400000 in
theorem bytes18 (t : Int) (b off n c : Nat) (R : Nat → Req) (w : World) (p : Option Addr) (hp : ∀ k, k < n → p = some ⟨b, off, none⟩) (hR : Hid (∀ k, k < n → At w b off k (R k))) (hn : (n : Int) ≤ 140737488355328) :
    Calls Tryd.prog 18 #[.int .u64 t, .slice p n c] w fun e w' => someBool e ∧ w' = w := by
  have HP : Hid (∀ k, k < n → p = some ⟨b, off, none⟩) := hp
  clear hp
  by_cases hbig : (1048576 : Int) < n
  · go_enter Tryd.func18, Tryd.ntmps18
    go_wp2
    go_ret
    exact ⟨⟨_, rfl⟩, rfl⟩
  have hbig' : (n : Int) ≤ 1048576 := by omega
  clear hbig
  go_enter Tryd.func18, Tryd.ntmps18
  go_wp2
  go_loop [5, 6] (fun t i => ∃ (k : Nat) (x : Int), k ≤ n ∧ i = .int .i64 k ∧ t = .int .i64 x) (fun _ i => n - (intOf i).toNat)
  case atStart => exact ⟨0, _, by omega, rfl, rfl⟩
  case round =>
    obtain ⟨k, x, hk, rfl, rfl⟩ := hrel
    by_cases hlt : k < n
    · obtain rfl := HP.out k hlt
      obtain ⟨h0, h1, h2, h3, h4, h5⟩ := hR.out k hlt
      have i1 : (0 : Int) ≤ (k : Int) := by omega
      have i2 : (k : Int) < (n : Int) := by omega
      go_wp2
      · go_ret
        exact ⟨⟨_, rfl⟩, rfl⟩
      · go_ret
        exact ⟨⟨_, rfl⟩, rfl⟩
      · go_ret
        exact ⟨⟨_, rfl⟩, rfl⟩
      · go_ret
        exact ⟨⟨_, rfl⟩, rfl⟩
      · exact ⟨⟨k + 1, _, by omega, by go_num, rfl⟩, by simp [intOf]; omega⟩
    · go_wp2
      go_ret
      exact ⟨⟨_, rfl⟩, rfl⟩

end Go.Proofs.Qxb6614041aDoor.Sized
