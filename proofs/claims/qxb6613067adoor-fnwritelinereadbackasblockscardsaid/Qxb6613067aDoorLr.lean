import Derived.Test.Qxb6613067aDoorZz
namespace Go.Proofs.Qxb6613067aDoor
open Go.RowKit

/-- All blocks that were there, but for those from B up to E, are as they were. -/
structure Out (B E : Nat) (w w' : World) : Prop where
  os : w'.os = w.os
  tape : w'.tape = w.tape
  output : w'.output = w.output
  size : w.heap.size ≤ w'.heap.size
  block : ∀ k, k < w.heap.size → (k < B ∨ E ≤ k) → w'.heap[k]? = w.heap[k]?

theorem Out.refl (B E : Nat) (w : World) : Out B E w w := ⟨rfl, rfl, rfl, Nat.le_refl _, fun _ _ _ => rfl⟩
theorem Out.of_kept {S : List Nat} {B E : Nat} {w w' : World} (h : Kept S w w') (hS : ∀ k, k ∈ S → B ≤ k ∧ k < E) : Out B E w w' :=
  ⟨h.os, h.tape, h.output, h.size, fun k hk hb => h.block k hk (fun e => by have := hS k e; omega)⟩
theorem Out.at {B E : Nat} {w w' : World} (h : Out B E w w') {k : Nat} {o : Obj} (hk : w.heap[k]? = some o) (hb : k < B ∨ E ≤ k) : w'.heap[k]? = some o := by
  rw [h.block k (lt_of_heap hk) hb]; exact hk
theorem Out.below {B E : Nat} {w w' : World} (h : Out B E w w') {C : Nat} (hC : C ≤ w.heap.size) (hCB : C ≤ B) : Below C w w' :=
  ⟨h.os, h.tape, h.output, h.size, fun k hk => h.block k (by omega) (Or.inl (by omega))⟩
theorem below_cell {C : Nat} {w w' : World} (h : Below C w w') {p : Addr} {v : Value} (hc : w.cell? p = some v) (hp : p.block < C) : w'.cell? p = some v := by rw [h.cell hp]; exact hc

/-- A LineReader at kl over the stream s, all its blocks lying from B up to E; pos bytes have been handed out. -/
def Lr (B E kl : Nat) (s : ByteArray) (pos : Nat) (w : World) : Prop :=
  ∃ (kr ks kb N : Nat) (m : Int), w.heap[kl]? = some (.cells #[.pointer (some ⟨kr, 0, none⟩), .int .i64 m, .bool false] 61 (0, 0)) ∧ Rd kr ks kb N s pos w ∧ 1 ≤ N ∧ N ≤ 2097152 ∧
    kr ≠ kb ∧ kr ≠ ks ∧ kb ≠ ks ∧ kl ≠ kr ∧ kl ≠ ks ∧ kl ≠ kb ∧ B ≤ kr ∧ B ≤ ks ∧ B ≤ kb ∧ B ≤ kl ∧ kr < E ∧ ks < E ∧ kb < E ∧ kl < E ∧ s.size ≤ 2097152 ∧ pos ≤ s.size

theorem Lr.out {B E kl : Nat} {s : ByteArray} {pos : Nat} {w w' : World} (h : Lr B E kl s pos w) {B' E' : Nat} (ho : Out B' E' w w') (hd : E ≤ B' ∨ E' ≤ B) : Lr B E kl s pos w' := by
  obtain ⟨kr, ks, kb, N, m, h1, ⟨R, W, i, pr, lb, lr, cur, a1, a2, a3, rest⟩, h3, h4, h5, h6, h7, h8, h9, h10, h11, h12, h13, h14, h15, h16, h17, h18, h19⟩ := h
  exact ⟨kr, ks, kb, N, m, ho.at h1 (by omega), ⟨R, W, i, pr, lb, lr, cur, ho.at a1 (by omega), ho.at a2 (by omega), ho.at a3 (by omega), rest⟩, h3, h4, h5, h6, h7, h8, h9, h10, h11, h12, h13, h14, h15, h16, h17, h18, h19⟩

theorem lr_ok {B E kl : Nat} {s : ByteArray} {pos : Nat} {w : World} (h : Lr B E kl s pos w) (L : Nat) (hL : pos + L ≤ s.size) :
    Calls Tryd.prog 21 #[.pointer (some ⟨kl, 0, none⟩), .int .i64 L] w fun e w' =>
      e = .returned (.tuple #[.slice (some ⟨w.heap.size, 0, none⟩) L L, .nilIface]) ∧ Lr B E kl s (pos + L) w' ∧
        w'.heap[w.heap.size]? = some (.cells (cut s pos L).toArray 5 (0, 0)) ∧ Out B E w w' := by
  obtain ⟨kr, ks, kb, N, m, h1, h2, h3, h4, h5, h6, h7, h8, h9, h10, h11, h12, h13, h14, h15, h16, h17, h18, h19, h20⟩ := h
  refine (rb_ok kl kr ks kb N pos L m s w h1 h2 h3 h4 h19 h5 h6 h7 hL).mono ?_
  rintro e w' ⟨rfl, a1, a2, a3⟩
  exact ⟨rfl, ⟨kr, ks, kb, N, m, a3.at h1 (by simp [h8, h9, h10]), a1, h3, h4, h5, h6, h7, h8, h9, h10, h11, h12, h13, h14, h15, h16, h17, h18, h19, hL⟩, a2, Out.of_kept a3 (fun k hk => by simp at hk; omega)⟩

theorem lr_err {B E kl : Nat} {s : ByteArray} {pos : Nat} {w : World} (h : Lr B E kl s pos w) (L : Nat) (hL : s.size < pos + L) (hL2 : L ≤ 2097152) (hB : 3 ≤ B) (ea ua : Addr)
    (heof : w.cell? ⟨1, 0, none⟩ = some (.iface 104 (.pointer (some ea)))) (hueof : w.cell? ⟨2, 0, none⟩ = some (.iface 104 (.pointer (some ua)))) :
    Calls Tryd.prog 21 #[.pointer (some ⟨kl, 0, none⟩), .int .i64 L] w fun e w' =>
      ∃ xa : Addr, e = .returned (.tuple #[.slice none 0 0, .iface 104 (.pointer (some xa))]) ∧ Lr B E kl s s.size w' ∧ Out B E w w' := by
  obtain ⟨kr, ks, kb, N, m, h1, h2, h3, h4, h5, h6, h7, h8, h9, h10, h11, h12, h13, h14, h15, h16, h17, h18, h19, h20⟩ := h
  refine (rb_err kl kr ks kb N pos L m s ea ua w h1 h2 h3 h4 h19 hL2 h5 h6 h7 h20 hL heof hueof (by omega) (by omega) (by omega)).mono ?_
  rintro e w' ⟨xa, rfl, a1, a3⟩
  exact ⟨xa, rfl, ⟨kr, ks, kb, N, m, a3.at h1 (by simp [h8, h9, h10]), a1, h3, h4, h5, h6, h7, h8, h9, h10, h11, h12, h13, h14, h15, h16, h17, h18, h19, Nat.le_refl _⟩, Out.of_kept a3 (fun k hk => by simp at hk; omega)⟩

/-- What the constructor leaves is a LineReader at the stream's head. -/
theorem lr_fresh {H kl N : Nat} {s : ByteArray} {m : Int} {w' : World} {Z : List Value} (hs : s.size ≤ 2097152) (hN : 16 ≤ N ∧ N ≤ 65538) (hkl : H + 3 ≤ kl) (hZ : Z.length = N)
    (a0 : w'.heap[kl]? = some (.cells #[.pointer (some ⟨H + 1, 0, none⟩), .int .i64 m, .bool false] 61 (0, 0)))
    (a1 : w'.heap[H + 1]? = some (.cells #[.slice (some ⟨H + 2, 0, none⟩) N N, .iface 36 (.pointer (some ⟨H, 0, none⟩)), .int .i64 0, .int .i64 0, .nilIface, .int .i64 (-1), .int .i64 (-1)] 75 (0, 0)))
    (a2 : w'.heap[H]? = some (.cells #[.string s, .int .i64 0, .int .i64 (-1)] 70 (0, 0)))
    (a3 : w'.heap[H + 2]? = some (.cells Z.toArray 5 (0, 0))) : Lr H w'.heap.size kl s 0 w' := by
  have l0 := lt_of_heap a0
  exact ⟨H + 1, H, H + 2, N, m, a0, rd_fresh a1 a2 a3 hZ, by omega, by omega, by omega, by omega, by omega, by omega, by omega, by omega, by omega, by omega, by omega, by omega, by omega, by omega, by omega, by omega, hs, by omega⟩

theorem zz_lr (s : ByteArray) (m : Int) (w : World) (hs : s.size ≤ 2097152) (hm0 : -9223372036854775808 ≤ m) (hm1 : m ≤ 65536) :
    Calls Tryd.prog 16 #[.string s, .int .i64 m] w fun e w' =>
      ∃ kl : Nat, e = .returned (.tuple #[.pointer (some ⟨kl, 0, none⟩), .pointer (some ⟨w.heap.size, 0, none⟩)]) ∧ Lr w.heap.size w'.heap.size kl s 0 w' ∧ Kept [] w w' := by
  refine (zz_any s m w hm0 hm1).mono ?_
  rintro e w' ⟨Z, kl, hZ, rfl, hkl, a0, a1, a2, a3, a4⟩
  exact ⟨kl, rfl, lr_fresh hs (bufN_bd m hm1) hkl hZ a0 a1 a2 a3, a4⟩

theorem bc_at (s : ByteArray) (k : Nat) (h : k < s.size) : (Lib.byteCells s.data.toList)[k]? = some (.int .u8 (s[k].toNat : Int)) := by
  have hl : k < s.data.toList.length := by rw [← Lib.size_eq]; exact h
  rw [bc_get, List.getElem?_eq_getElem hl]; rfl

/-- A cell of a block that was read. -/
theorem cut_cell {w : World} {g : Nat} {s : ByteArray} {pos L : Nat} (hg : w.heap[g]? = some (.cells (cut s pos L).toArray 5 (0, 0))) (k : Nat) (hk : k < L) (h : pos + k < s.size) :
    w.cell? ⟨g, k, none⟩ = some (.int .u8 (s[pos + k].toNat : Int)) := by
  rw [Lib.cell_of_heap hg]
  have := cut_get s pos L k hk
  rw [bc_at s (pos + k) h] at this
  simpa using this

end Go.Proofs.Qxb6613067aDoor
