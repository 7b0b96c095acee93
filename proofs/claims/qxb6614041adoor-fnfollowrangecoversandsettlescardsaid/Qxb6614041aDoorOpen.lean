import Derived.Test.Qxb6614041aDoorSized
import Derived.Deep.Slices
import Derived.ProofKit
namespace Go.Proofs.Qxb6614041aDoor.Open
open Go.ChangeShapes Go.WideShapes Go.ChangeAt Go.RowKit Go.Deep
open Go.Proofs.Qxb6614041aDoor.Sized (Req At)
set_option linter.unusedVariables false

theorem cells34 : Tryd.prog.cellsOf 34 = 6 := by kernel_rfl
theorem cells22 : Tryd.prog.cellsOf 22 = 1 := by kernel_rfl
theorem cells9 : Tryd.prog.cellsOf 9 = 1 := by kernel_rfl
theorem cells4 : Tryd.prog.cellsOf 4 = 1 := by kernel_rfl

theorem add_plain (b o m : Nat) : (⟨b, o, none⟩ : Addr).add m = ⟨b, o + m, none⟩ := by
  unfold Addr.add
  split
  · simp
  · rfl

set_option maxRecDepth 100000 in
/-- one element, read: its six cells -/
theorem open_req {H : Type} {enc : TypeId × Value → H} {W : World} {base : Nat} {spare : Nat → Bool} {held : Bool} {fuel : Nat} {cs : List Value} {x : DataW H × List MemPlace} (h : DataW.trod enc Tryd.prog W base spare held fuel 34 cs = some x) :
    ∃ r : Req, cs = [.int .u64 r.owner, .string r.fr, .string r.to, .bool r.unb, .int .u64 r.seq, .bool r.sec] := by
  obtain ⟨xs, n, _, _, hl, hlen, hf⟩ := DataW.trod_struct Tryd.underlying34 h
  rw [cells34] at hl
  match cs, hl with
  | [c0, c1, c2, c3, c4, c5], _ =>
    have f0 : DataW.trod enc Tryd.prog W base spare held n 22 (List.take (Tryd.prog.cellsOf 22) (List.drop 0 [c0, c1, c2, c3, c4, c5])) = xs[0]? := hf 0 _ rfl
    have f1 : DataW.trod enc Tryd.prog W base spare held n 9 (List.take (Tryd.prog.cellsOf 9) (List.drop 1 [c0, c1, c2, c3, c4, c5])) = xs[1]? := hf 1 _ rfl
    have f2 : DataW.trod enc Tryd.prog W base spare held n 9 (List.take (Tryd.prog.cellsOf 9) (List.drop 2 [c0, c1, c2, c3, c4, c5])) = xs[2]? := hf 2 _ rfl
    have f3 : DataW.trod enc Tryd.prog W base spare held n 4 (List.take (Tryd.prog.cellsOf 4) (List.drop 3 [c0, c1, c2, c3, c4, c5])) = xs[3]? := hf 3 _ rfl
    have f4 : DataW.trod enc Tryd.prog W base spare held n 22 (List.take (Tryd.prog.cellsOf 22) (List.drop 4 [c0, c1, c2, c3, c4, c5])) = xs[4]? := hf 4 _ rfl
    have f5 : DataW.trod enc Tryd.prog W base spare held n 4 (List.take (Tryd.prog.cellsOf 4) (List.drop 5 [c0, c1, c2, c3, c4, c5])) = xs[5]? := hf 5 _ rfl
    rw [cells22] at f0
    rw [cells9] at f1
    rw [cells9] at f2
    rw [cells4] at f3
    rw [cells22] at f4
    rw [cells4] at f5
    have hx : ∀ i, i < 6 → ∃ y, xs[i]? = some y := fun i hi => ⟨_, List.getElem?_eq_getElem (by rw [hlen]; exact hi)⟩
    obtain ⟨y0, e0⟩ := hx 0 (by omega)
    obtain ⟨y1, e1⟩ := hx 1 (by omega)
    obtain ⟨y2, e2⟩ := hx 2 (by omega)
    obtain ⟨y3, e3⟩ := hx 3 (by omega)
    obtain ⟨y4, e4⟩ := hx 4 (by omega)
    obtain ⟨y5, e5⟩ := hx 5 (by omega)
    obtain ⟨n0, a0, _⟩ := DataW.trod_int Tryd.underlying22 (f0.trans e0)
    obtain ⟨n1, a1, _⟩ := DataW.trod_string Tryd.underlying9 (f1.trans e1)
    obtain ⟨n2, a2, _⟩ := DataW.trod_string Tryd.underlying9 (f2.trans e2)
    obtain ⟨n3, a3, _⟩ := DataW.trod_bool Tryd.underlying4 (f3.trans e3)
    obtain ⟨n4, a4, _⟩ := DataW.trod_int Tryd.underlying22 (f4.trans e4)
    obtain ⟨n5, a5, _⟩ := DataW.trod_bool Tryd.underlying4 (f5.trans e5)
    simp at a0 a1 a2 a3 a4 a5
    subst a0 a1 a2 a3 a4 a5
    exact ⟨⟨n0, n1, n2, n3, n4, n5⟩, rfl⟩

/-- the slice of requests, opened -/
theorem open_reqs {H : Type} {enc : TypeId × Value → H} {W : World} {fuel : Nat} {p : Option Addr} {n c : Nat} {x : DataW H × List MemPlace} (h : DataW.trod enc Tryd.prog W 0 (fun _ => true) true fuel 23 [.slice p n c] = some x) :
    ∃ (b off : Nat) (R : Nat → Req), n ≤ c ∧ c ≤ maxLen ∧ (∀ k, k < n → p = some ⟨b, off, none⟩) ∧ (∀ k, k < n → At W b off k (R k)) ∧ ((n : Int) = 0 ∨ ∃ es sp, x.1 = .slice es sp ∧ es.length = n) := by
  rcases open_slice Tryd.underlying23 h with ⟨hcs, _⟩ | ⟨a, len, cap, m, fu, D, Pl, hcs, hb, hl, hm, hmm, hx, hel⟩
  · simp at hcs
    obtain ⟨rfl, rfl, rfl⟩ := hcs
    exact ⟨0, 0, fun _ => ⟨0, ByteArray.empty, ByteArray.empty, false, 0, false⟩, Nat.le_refl _, by unfold maxLen; omega, fun k hk => by omega, fun k hk => by omega, Or.inl rfl⟩
  · simp at hcs
    obtain ⟨rfl, rfl, rfl⟩ := hcs
    simp at hmm
    subst hmm
    rw [cells34] at hel
    have hs : 0 < n → a.spot = none := fun h0n => by
      obtain ⟨cs', hc, ht⟩ := hel 0 (by omega)
      obtain ⟨r, rfl⟩ := open_req ht
      obtain ⟨_, _, hcell⟩ := World.cells?_some hc
      have h0 := hcell 0 (by omega)
      cases hsp : a.spot with
      | none => rfl
      | some s =>
        simp only [Addr.add, Nat.zero_mul, if_true] at h0
        simp [World.cell?, hsp] at h0
        split at h0 <;> simp at h0
    have hex : ∀ k, k < n → ∃ r : Req, a.spot = none ∧ At W a.block a.off k r := fun k hk => by
      obtain ⟨cs', hc, ht⟩ := hel k (by omega)
      obtain ⟨r, rfl⟩ := open_req ht
      obtain ⟨_, _, hcell⟩ := World.cells?_some hc
      have hs' := hs (by omega)
      refine ⟨r, hs', ?_⟩
      obtain ⟨ab, ao, asp⟩ := a
      simp at hs'
      subst hs'
      have h0 := hcell 0 (by omega); have h1 := hcell 1 (by omega); have h2 := hcell 2 (by omega); have h3 := hcell 3 (by omega); have h4 := hcell 4 (by omega); have h5 := hcell 5 (by omega)
      rw [add_plain, add_plain] at h0 h1 h2 h3 h4 h5
      exact ⟨h0, h1, h2, h3, h4, h5⟩
    haveI : Inhabited Req := ⟨⟨0, ByteArray.empty, ByteArray.empty, false, 0, false⟩⟩
    obtain ⟨R, hR⟩ := choose_lt (α := Req) (p := fun i r => a.spot = none ∧ At W a.block a.off i r) hex
    exact ⟨a.block, a.off, R, hl, hm, fun k hk => by rw [show a = ⟨a.block, a.off, none⟩ from by cases a; simp at *; exact (hR k hk).1], fun k hk => (hR k hk).2, Or.inr ⟨_, _, by rw [hx], by simp⟩⟩
end Go.Proofs.Qxb6614041aDoor.Open
