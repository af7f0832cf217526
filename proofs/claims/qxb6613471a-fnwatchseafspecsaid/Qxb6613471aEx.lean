import Derived.Test.Qxb6613471aWt
namespace Go.Proofs.Qxb6613471a
open Go.RowKit

/-- What stands: all blocks below B; all rows of cells whose tag is not in T; all maps that are not in M. -/
structure Fr (B : Nat) (T M : List Nat) (w w' : World) : Prop where
  os : w'.os = w.os
  tape : w'.tape = w.tape
  output : w'.output = w.output
  size : w.heap.size ≤ w'.heap.size
  low : ∀ k, k < B → w'.heap[k]? = w.heap[k]?
  tag : ∀ (k : Nat) (cs : Array Value) (t : Nat) (fz : Nat × Nat), w.heap[k]? = some (Obj.cells cs t fz) → t ∉ T → w'.heap[k]? = some (Obj.cells cs t fz)
  maps : ∀ (k : Nat) (es : Array MapEntry) (c : Nat), w.heap[k]? = some (Obj.map es c) → k ∉ M → w'.heap[k]? = some (Obj.map es c)

theorem Fr.refl (B : Nat) (T M : List Nat) (w : World) : Fr B T M w w := ⟨rfl, rfl, rfl, Nat.le_refl _, fun _ _ => rfl, fun _ _ _ _ h _ => h, fun _ _ _ h _ => h⟩
theorem Fr.trans {B : Nat} {T M : List Nat} {a b c : World} (h : Fr B T M a b) (k : Fr B T M b c) : Fr B T M a c :=
  ⟨k.os.trans h.os, k.tape.trans h.tape, k.output.trans h.output, Nat.le_trans h.size k.size, fun i hi => (k.low i hi).trans (h.low i hi),
   fun i cs t fz hi ht => k.tag i cs t fz (h.tag i cs t fz hi ht) ht, fun i es d hi hM => k.maps i es d (h.maps i es d hi hM) hM⟩
theorem Fr.mono {B : Nat} {T M T' M' : List Nat} {a b : World} (h : Fr B T M a b) (hT : ∀ t, t ∈ T → t ∈ T') (hM : ∀ t, t ∈ M → t ∈ M') : Fr B T' M' a b :=
  ⟨h.os, h.tape, h.output, h.size, h.low, fun i cs t fz hi ht => h.tag i cs t fz hi (fun e => ht (hT t e)), fun i es d hi hn => h.maps i es d hi (fun e => hn (hM i e))⟩
theorem Fr.of_kept {B : Nat} {T M S : List Nat} {w w' : World} (h : Kept S w w') (hB : B ≤ w.heap.size)
    (hS : ∀ k, k ∈ S → B ≤ k ∧ (∀ (cs : Array Value) (t : Nat) (fz : Nat × Nat), w.heap[k]? = some (Obj.cells cs t fz) → t ∈ T) ∧ ∀ (es : Array MapEntry) (c : Nat), w.heap[k]? = some (Obj.map es c) → k ∈ M) : Fr B T M w w' :=
  ⟨h.os, h.tape, h.output, h.size, fun k hk => h.block k (by omega) (fun e => by have := (hS k e).1; omega),
   fun k cs t fz hk ht => h.at hk (fun e => ht ((hS k e).2.1 cs t fz hk)), fun k es c hk hM => h.at hk (fun e => hM ((hS k e).2.2 es c hk))⟩
theorem Fr.nil {B : Nat} {T M : List Nat} {w w' : World} (h : Kept [] w w') (hB : B ≤ w.heap.size) : Fr B T M w w' := Fr.of_kept h hB (by simp)
theorem Fr.below {B : Nat} {T M : List Nat} {w w' : World} (h : Fr B T M w w') : Below B w w' := ⟨h.os, h.tape, h.output, h.size, h.low⟩
theorem Fr.row {B : Nat} {T M : List Nat} {w w' : World} (h : Fr B T M w w') {b e size n : Nat} {v : Value} {xs : List Value} (ho : w.ownsRow b e size v n xs) (he : e ∉ T) : w'.ownsRow b e size v n xs := by
  obtain ⟨h1, h2⟩ := ho
  refine ⟨h1, ?_⟩
  rcases h2 with h2 | ⟨g, cap, cur, hv, hb, hg, r⟩
  · exact Or.inl h2
  · exact Or.inr ⟨g, cap, cur, hv, hb, h.tag g cur e (0, 0) hg he, r⟩

def flatW (Ws : List Wt) : List Value := Ws.flatMap fun a => a.arr.toList
def subCells (p : Nat × Nat) : List Value := [.int .u32 (p.1 : Int), .int .u32 0, .int .u32 (p.2 : Int), .pointer none, .int .u32 0, .int .u32 0, .int .i64 0, .int .i64 0]
def flatS (subs : List (Nat × Nat)) : List Value := subs.flatMap subCells
def runCells (wid : Nat) : List Value := [.int .u32 0, .int .u32 0, .int .u32 0, .int .u32 0, .int .u32 0, .int .u32 0, .int .u32 0, .int .u32 0, .int .u32 0, .int .u32 0, .bool true, .int .u8 0, .int .u8 0, .bool false, .bool false, .int .u32 (wid : Int)]
def flatR (runs : List Nat) : List Value := runs.flatMap runCells

/-- The explorer at eB: its subscribers, its runs (each told by its watch's number), its runs' map rm (at mr), its watches (the map at mw). -/
def Ex (B eB mr mw : Nat) (subs : List (Nat × Nat)) (runs : List Nat) (rs : Array MapEntry) (rc : Nat) (Ws : List Wt) (w : World) : Prop :=
  ∃ (cs : Array Value) (sv rv wv : Value), w.heap[eB]? = some (.cells cs 94 (0, 0)) ∧ cs[14]? = some sv ∧ cs[20]? = some rv ∧ cs[21]? = some (.map (some mr)) ∧ cs[22]? = some wv ∧ cs[23]? = some (.map (some mw)) ∧
    w.ownsRow B 107 8 sv subs.length (flatS subs) ∧ w.ownsRow B 102 16 rv runs.length (flatR runs) ∧ w.ownsRow B 97 7 wv Ws.length (flatW Ws) ∧
    w.heap[mr]? = some (.map rs rc) ∧ w.heap[mw]? = some (.map (entsFrom 0 Ws).toArray Ws.length) ∧ mr ≠ mw ∧ B ≤ eB ∧ B ≤ mr ∧ B ≤ mw

theorem Ex.fr {B eB mr mw : Nat} {subs : List (Nat × Nat)} {runs : List Nat} {rs : Array MapEntry} {rc : Nat} {Ws : List Wt} {w w' : World} (h : Ex B eB mr mw subs runs rs rc Ws w) {b : Nat} {T M : List Nat} (f : Fr b T M w w')
    (h1 : 94 ∉ T) (h2 : 107 ∉ T) (h3 : 102 ∉ T) (h4 : 97 ∉ T) (h5 : mr ∉ M) (h6 : mw ∉ M) : Ex B eB mr mw subs runs rs rc Ws w' := by
  obtain ⟨cs, sv, rv, wv, a1, a2, a3, a4, a5, a6, a7, a8, a9, a10, a11, a12⟩ := h
  exact ⟨cs, sv, rv, wv, f.tag _ _ _ _ a1 h1, a2, a3, a4, a5, a6, f.row a7 h2, f.row a8 h3, f.row a9 h4, f.maps _ _ _ a10 h5, f.maps _ _ _ a11 h6, a12⟩

theorem cell_get {w : World} {b : Nat} {cs : Array Value} {t : TypeId} {fz : Nat × Nat} (h : w.heap[b]? = some (.cells cs t fz)) {o : Nat} {v : Value} (hv : cs[o]? = some v) : w.cell? ⟨b, o, none⟩ = some v := by
  rw [Lib.cell_of_heap h]; exact hv

set_option maxHeartbeats 400000 in
theorem id_hit (eB mw : Nat) (Ws : List Wt) (v : Wt) (i : Nat) (w : World) (c23 : w.cell? ⟨eB, 23, none⟩ = some (.map (some mw))) (hm : w.heap[mw]? = some (.map (entsFrom 0 Ws).toArray Ws.length)) (hlt : eB < w.heap.size)
    (hi : idxFrom v 0 Ws = some i) :
    Calls Try.prog 19 #[.pointer (some ⟨eB, 22, none⟩), .agg #[.string v.iss, .string v.comp, .string v.ue, .string v.sn, .string v.fl, .int .u8 v.ans, .int .u16 v.brk]] w fun e w' =>
      e = .returned (.int .u32 i) ∧ Kept [] w w' := by
  have hk0 : ∀ o, Kept [] w (w.alloc o) := fun o => (Kept.refl _ _).alloc o
  have hlk : ∀ (o : Obj) (k : Nat), (Instr.lookup 48 (.map (some mw)) (.agg #[.string v.iss, .string v.comp, .string v.ue, .string v.sn, .string v.fl, .int .u8 v.ans, .int .u16 v.brk]) true).run Try.prog ((w.alloc o).drewN k) = .ok (.tuple #[.int .u32 (i : Int), .bool true]) ((w.alloc o).drewN k) := fun o k => by
    have := look97 v ((w.alloc o).drewN k) mw Ws ((hk0 o).at hm (by simp))
    rw [hi] at this
    exact this
  clear hm hi
  go_enter Try.func19, Try.ntmps19
  go_wp2
  go_quiet (fail)
  go_wp2
  go_ret
  exact ⟨rfl, ((Kept.refl _ _).alloc _).drewN _⟩

end Go.Proofs.Qxb6613471a
