import Derived.Test.Qxb6613471aProg
import Derived.WalkKit
import Derived.WalkSpells
import Derived.WalkLawsBesides
import Derived.Laws.CopyOwn
import Derived.Lib.BufferWrite
namespace Go.Proofs.Qxb6613471a
open Go.RowKit

theorem hide {p : Prop} (h : p) : Hid p := h

/-- All blocks that were there, but for those of the list, are as they were. -/
structure Kept (S : List Nat) (w w' : World) : Prop where
  os : w'.os = w.os
  tape : w'.tape = w.tape
  output : w'.output = w.output
  size : w.heap.size ≤ w'.heap.size
  block : ∀ k, k < w.heap.size → k ∉ S → w'.heap[k]? = w.heap[k]?

theorem Kept.refl (S : List Nat) (w : World) : Kept S w w := ⟨rfl, rfl, rfl, Nat.le_refl _, fun _ _ _ => rfl⟩
theorem Kept.trans {S : List Nat} {a b c : World} (h : Kept S a b) (k : Kept S b c) : Kept S a c :=
  ⟨k.os.trans h.os, k.tape.trans h.tape, k.output.trans h.output, Nat.le_trans h.size k.size, fun i hi hS => (k.block i (Nat.lt_of_lt_of_le hi h.size) hS).trans (h.block i hi hS)⟩
theorem Kept.mono {S S' : List Nat} {w w' : World} (h : Kept S w w') (hS : ∀ k, k ∈ S → k ∈ S') : Kept S' w w' :=
  ⟨h.os, h.tape, h.output, h.size, fun k hk hn => h.block k hk (fun e => hn (hS k e))⟩
theorem Kept.drew {S : List Nat} {a w : World} (h : Kept S a w) : Kept S a w.drew := ⟨h.os, h.tape, h.output, h.size, h.block⟩
theorem Kept.drewN {S : List Nat} {a w : World} (h : Kept S a w) (n : Nat) : Kept S a (w.drewN n) := ⟨h.os, h.tape, h.output, h.size, h.block⟩
theorem Kept.setCell {S : List Nat} {a w : World} (h : Kept S a w) {p : Addr} (hp : p.block ∈ S) (u : Value) : Kept S a (w.setCell p u) :=
  h.trans ⟨rfl, rfl, rfl, by simp [World.setCell], fun k _ hk => Below.heap_setCell _ _ _ _ (fun e => hk (e ▸ hp))⟩
theorem Kept.setRow {S : List Nat} {a w : World} (h : Kept S a w) {g : Nat} (hp : g ∈ S) (cs : Array Value) : Kept S a (w.setRow g cs) :=
  h.trans ⟨rfl, rfl, rfl, by simp [World.setRow], fun k _ hk => setRow_other w g k cs (fun e => hk (e ▸ hp))⟩
theorem Kept.alloc {S : List Nat} {a w : World} (h : Kept S a w) (o : Obj) : Kept S a (w.alloc o) :=
  h.trans ⟨rfl, rfl, rfl, by simp, fun k hk _ => Below.heap_alloc _ _ _ hk⟩
theorem Kept.at {S : List Nat} {w w' : World} (h : Kept S w w') {k : Nat} {o : Obj} (hk : w.heap[k]? = some o) (hS : k ∉ S) : w'.heap[k]? = some o := by
  rw [h.block k (Array.getElem?_eq_some_iff.1 hk).1 hS]; exact hk
theorem lt_of_heap {w : World} {k : Nat} {o : Obj} (hk : w.heap[k]? = some o) : k < w.heap.size := (Array.getElem?_eq_some_iff.1 hk).1
theorem Kept.below {S : List Nat} {w w' : World} (h : Kept S w w') {B : Nat} (hB : B ≤ w.heap.size) (hS : ∀ k, k ∈ S → B ≤ k) : Below B w w' :=
  ⟨h.os, h.tape, h.output, h.size, fun k hk => h.block k (Nat.lt_of_lt_of_le hk hB) (fun e => by have := hS k e; omega)⟩
theorem Kept.cell {S : List Nat} {w w' : World} (h : Kept S w w') {p : Addr} {v : Value} (hc : w.cell? p = some v) (hS : p.block ∉ S) : w'.cell? p = some v := by
  rw [← hc]
  refine World.cell?_of_block (w := w) (h.block p.block ?_ hS)
  unfold World.cell? at hc
  cases hh : w.heap[p.block]? with
  | none => simp [hh] at hc
  | some o => exact lt_of_heap hh

theorem cell_setRow_blk (w : World) (g b o : Nat) (cs : Array Value) (h : b ≠ g) : (w.setRow g cs).cell? ⟨b, o, none⟩ = w.cell? ⟨b, o, none⟩ := cell_setRow_other w g cs ⟨b, o, none⟩ h

theorem heap_sc {w : World} {k : Nat} {o : Obj} {b i : Nat} (v : Value) (hne : k ≠ b) (h : w.heap[k]? = some o) : (w.setCell ⟨b, i, none⟩ v).heap[k]? = some o := (Below.heap_setCell w ⟨b, i, none⟩ v k hne).trans h
theorem kd {w : World} {a : Addr} {x : Value} (h : w.cell? a = some x) : w.drew.cell? a = some x := h
theorem cell_sc_off (w : World) (b o o' : Nat) (v x : Value) (hne : o ≠ o') (h : w.cell? ⟨b, o', none⟩ = some x) : (w.setCell ⟨b, o, none⟩ v).cell? ⟨b, o', none⟩ = some x := by
  rw [World.cell?_setCell_other _ _ _ _ (fun e => hne (congrArg Addr.off e))]; exact h
theorem cell_sc_blk (w : World) (b b' o o' : Nat) (v x : Value) (hne : b ≠ b') (h : w.cell? ⟨b', o', none⟩ = some x) : (w.setCell ⟨b, o, none⟩ v).cell? ⟨b', o', none⟩ = some x := by
  rw [World.cell?_setCell_other _ _ _ _ (fun e => hne (congrArg Addr.block e))]; exact h

/-- 'copy(dst, t)', t a string, dst in row g from place o on: as many bytes go over as the shorter of the two has. -/
theorem run_copy_row_str {P : Program} (w : World) (dT sT ty elem : TypeId) (g o dLen dCap : Nat) (t : ByteArray) (cur : List Value) (T : TypeId) (cs : List Value)
    (hu : P.underlying dT = some (.slice elem)) (hs : (P.info? elem).map (·.size) = some 1) (hg : w.heap[g]? = some (.cells cur.toArray T (0, 0)))
    (hcs : cs = Lib.byteCells (t.data.toList.take (Nat.min t.size dLen))) (hfit : o + cs.length ≤ cur.length) :
    (Builtin.copy_ #[dT, sT] ty #[.slice (some ⟨g, o, none⟩) dLen dCap, .string t]).run P w =
      .ok (goInt cs.length) (w.setRow g (splice cur o cs).toArray) := by
  have hlen : cs.length = Nat.min t.size dLen := by
    rw [hcs, Lib.byteCells_length, List.length_take, ← Lib.size_eq]; exact Nat.min_eq_left (Nat.min_le_left _ _)
  have hst := run_storeCells_at P g o T cs 0 cur.toArray w hg (by simpa using hfit) (by rw [hcs]; exact Lib.byteCells_one _)
  have htk : List.take (Nat.min t.size dLen) (List.map (fun b : UInt8 => Value.int IntKind.u8 (b.toNat : Int)) t.data.toList) = cs := by
    rw [hcs, ← List.map_take]; rfl
  simp only [Nat.add_zero] at hst
  cases hq : P.info? elem with
  | none => simp [hq] at hs
  | some i =>
    simp [Builtin.copy_, run_underlying hu, Builtin.lenOf, Builtin.firstCells, sizeOf, typeInfo, hq]
    rw [htk, hst, ← hlen]
    simp [Result.andThen, splice]

end Go.Proofs.Qxb6613471a
