import Derived.LaidEqlPtr
import Derived.WideMake
import Derived.MapKept
import Derived.WalkKit
/-! Runs of a map that the call makes, keyed by pointers. -/
namespace Go.Proofs.Qxb6613088a.PtrMap
open Go
set_option linter.unusedVariables false

theorem equal_same {P : Program} {w : World} {tp te : TypeId} {j : TypeInfo} (a : Addr) (hp : P.underlying tp = some (.pointer te)) (hte : P.info? te = some j) :
    (Op.equal tp (.pointer (some a)) (.pointer (some a))).run P w = .ok true w := by
  have h : ∀ d : Nat, (Op.equalIn (d + 1) tp (.pointer (some a)) (.pointer (some a))).run P w = .ok true w := fun d => by
    simp [Op.equalIn, run_underlying hp, sizeOf, typeInfo, hte, run_sameAddr_same]
  simp [Op.equal, Op.maxDepth, h 9999]

theorem equal_other {P : Program} {w : World} {tp te : TypeId} {j : TypeInfo} {a b : Addr} {ca cb : Array Value} {ta tb : TypeId} (hp : P.underlying tp = some (.pointer te)) (hte : P.info? te = some j) (hsz : j.size ≠ 0)
    (hne : a ≠ b) (ha : w.heap[a.block]? = some (.cells ca ta (0, 0))) (hb : w.heap[b.block]? = some (.cells cb tb (0, 0))) :
    (Op.equal tp (.pointer (some a)) (.pointer (some b))).run P w = .ok false w := by
  have h : ∀ d : Nat, (Op.equalIn (d + 1) tp (.pointer (some a)) (.pointer (some b))).run P w = .ok false w := fun d => by
    simp [Op.equalIn, run_underlying hp, sizeOf, typeInfo, hte, hsz, run_sameAddr_other w hne ha hb]
  simp [Op.equal, Op.maxDepth, h 9999]

theorem check_ptr {P : Program} {w : World} {tp te : TypeId} (a : Option Addr) (hp : P.underlying tp = some (.pointer te)) (e : Bool) :
    (Instr.checkKey e 10000 tp (.pointer a)).run P w = .ok () w := by
  unfold Instr.checkKey
  simp [run_underlying hp, Result.andThen]

/-- the last block laid anew -/
theorem set_last (w : World) (o o' : Obj) : ({ w.alloc o with heap := (w.alloc o).heap.setIfInBounds w.heap.size o' } : World) = w.alloc o' := by
  have e : (w.heap.push o).setIfInBounds w.heap.size o' = w.heap.push o' := by
    apply Array.ext_getElem?
    intro i
    simp only [Array.getElem?_setIfInBounds, Array.getElem?_push, Array.size_push]
    by_cases h : w.heap.size = i
    · subst h; simp
    · rw [if_neg h, if_neg (fun e => h e.symm), if_neg (fun e => h e.symm)]
  show ({ w with heap := (w.heap.push o).setIfInBounds w.heap.size o' } : World) = { w with heap := w.heap.push o' }
  rw [e]

/-- the first entry of a new map -/
theorem update_first {P : Program} {w : World} {tm tp te tv : TypeId} {r clock : Nat} {a : Addr} {v : Value} (hm : P.underlying tm = some (.map tp tv)) (hp : P.underlying tp = some (.pointer te))
    (hb : w.heap[r]? = some (.map #[] clock)) :
    (Instr.mapUpdate tm (.map (some r)) (.pointer (some a)) v).run P w = .ok () { w with heap := w.heap.setIfInBounds r (.map #[{ key := .pointer (some a), val := v, born := clock }] (clock + 1)) } := by
  have hf : Instr.findNow (.pointer te) (.pointer (some a)) ([] : List MapEntry) 0 = some none := rfl
  simp [Instr.mapUpdate, run_underlying hm, MapKept.run_getObj_map hb, check_ptr _ hp, MapKept.run_findKey hp hf, MapKept.run_setObj_map _ hb, Result.andThen]

/-- a second entry, under another key -/
theorem update_second {P : Program} {w : World} {tm tp te tv : TypeId} {r clock n0 : Nat} {j : TypeInfo} {a b : Addr} {u v : Value} {ca cb : Array Value} {ta tb : TypeId} (hm : P.underlying tm = some (.map tp tv)) (hp : P.underlying tp = some (.pointer te))
    (hte : P.info? te = some j) (hsz : j.size ≠ 0) (hne : b ≠ a) (ha : w.heap[a.block]? = some (.cells ca ta (0, 0))) (hbb : w.heap[b.block]? = some (.cells cb tb (0, 0)))
    (hb : w.heap[r]? = some (.map #[{ key := .pointer (some a), val := u, born := n0 }] clock)) :
    (Instr.mapUpdate tm (.map (some r)) (.pointer (some b)) v).run P w = .ok () { w with heap := w.heap.setIfInBounds r (.map #[{ key := .pointer (some a), val := u, born := n0 }, { key := .pointer (some b), val := v, born := clock }] (clock + 1)) } := by
  have hf : (Instr.findKey tp (.pointer (some b)) [({ key := .pointer (some a), val := u, born := n0 } : MapEntry)]).run P w = .ok none w := by
    simp [Instr.findKey, run_underlying hp, Result.andThen, Instr.findNow, Instr.sameNow, Instr.findAsking, equal_other hp hte hsz hne hbb ha]
  simp [Instr.mapUpdate, run_underlying hm, MapKept.run_getObj_map hb, check_ptr _ hp, hf, MapKept.run_setObj_map _ hb, Result.andThen]

/-- the look-up of the first key -/
theorem lookup_first {P : Program} {w : World} {tm tp te tv : TypeId} {r clock n0 : Nat} {j : TypeInfo} {a : Addr} {u : Value} {l : List MapEntry} (hm : P.underlying tm = some (.map tp tv)) (hp : P.underlying tp = some (.pointer te))
    (hte : P.info? te = some j) (hb : w.heap[r]? = some (.map (({ key := .pointer (some a), val := u, born := n0 } : MapEntry) :: l).toArray clock)) :
    (Instr.lookup tm (.map (some r)) (.pointer (some a)) false).run P w = .ok u w := by
  have hf : (Instr.findKey tp (.pointer (some a)) (({ key := .pointer (some a), val := u, born := n0 } : MapEntry) :: l)).run P w = .ok (some (0, u)) w := by
    simp [Instr.findKey, run_underlying hp, Result.andThen, Instr.findNow, Instr.sameNow, Instr.findAsking, equal_same a hp hte]
  simp [Instr.lookup, run_underlying hm, MapKept.run_getObj_map hb, check_ptr _ hp, hf, Result.andThen]

/-- the look-up of the second key -/
theorem lookup_second {P : Program} {w : World} {tm tp te tv : TypeId} {r clock n0 n1 : Nat} {j : TypeInfo} {a b : Addr} {u v : Value} {ca cb : Array Value} {ta tb : TypeId} (hm : P.underlying tm = some (.map tp tv)) (hp : P.underlying tp = some (.pointer te))
    (hte : P.info? te = some j) (hsz : j.size ≠ 0) (hne : b ≠ a) (ha : w.heap[a.block]? = some (.cells ca ta (0, 0))) (hbb : w.heap[b.block]? = some (.cells cb tb (0, 0)))
    (hb : w.heap[r]? = some (.map #[{ key := .pointer (some a), val := u, born := n0 }, { key := .pointer (some b), val := v, born := n1 }] clock)) :
    (Instr.lookup tm (.map (some r)) (.pointer (some b)) false).run P w = .ok v w := by
  have hf : (Instr.findKey tp (.pointer (some b)) [({ key := .pointer (some a), val := u, born := n0 } : MapEntry), { key := .pointer (some b), val := v, born := n1 }]).run P w = .ok (some (1, v)) w := by
    simp [Instr.findKey, run_underlying hp, Result.andThen, Instr.findNow, Instr.sameNow, Instr.findAsking, equal_other hp hte hsz hne hbb ha, equal_same b hp hte]
  simp [Instr.lookup, run_underlying hm, MapKept.run_getObj_map hb, check_ptr _ hp, hf, Result.andThen]

end Go.Proofs.Qxb6613088a.PtrMap
