import Derived.Test.Qxb6613471aSf
namespace Go.Proofs.Qxb6613471a
open Go.RowKit

theorem zseaf_any (B eB mr mw : Nat) (sv rv : Value) (subs : List (Nat × Nat)) (no : Nat) (rs : Array MapEntry) (rc : Nat) (Ws : List Wt) (oW rW : Wt) (nr rb sB i k supi : Nat) (p : Nat × Nat) (w : World)
    (h : ExV B eB mr mw sv rv subs [no] rs rc Ws w) (hno : Ws[no]? = some oW) (hnr : Ws[nr]? = some rW)
    (hr : w.heap[rb]? = some (.cells (runCells nr).toArray 102 (0, 0))) (hrb : B ≤ rb) (hap : rv.ownBlock ≠ some rb)
    (hs : w.heap[sB]? = some (.cells (Array.replicate (4 * subs.length) (.int .u8 0)) 5 (0, 0)))
    (hi : subs[i]? = some p) (hN : subs.length ≤ 4096) (hW : Ws.length ≤ 900)
    (h1 : oW.comp.size ≤ 1048576) (h2 : oW.sn.size ≤ 1048576) (h3 : rW.comp.size ≤ 1048576) (h4 : rW.sn.size ≤ 1048576)
    (hk : k < 4294967296) (h32 : ∀ q ∈ subs, q.1 < 4294967296 ∧ q.2 < 4294967296) :
    Calls Try.prog 12 #[.pointer (some ⟨eB, 0, none⟩), .slice (some ⟨sB, 0, none⟩) (4 * subs.length) (4 * subs.length), .int .i64 (i : Int), .pointer (some ⟨rb, 0, none⟩), .int .u8 1, .int .u32 (k : Int), .int .u32 (supi : Int)] w fun e w' =>
      e = .returned (.tuple #[]) ∧ Hid (∃ v, v = outW rW k (agB subs i rW oW k supi p.2 subs.length && !spB i rW oW k subs.length) ∧ ExV B eB mr mw sv rv subs [no] rs rc (addW Ws v).1 w' ∧ w'.heap[rb]? = some (.cells (runCells (addW Ws v).2).toArray 102 (0, 0)) ∧ Fr B [94, 97, 102] [mw] w w') := by
  have hh := seaf_any B eB mr mw sv rv subs no rs rc Ws oW rW nr rb sB i k supi p w h hno hnr hr hrb hap hs hi hN hW h1 h2 h3 h4 hk h32
  have HH := hide hh
  clear hh h hno hnr hr hrb hap hs hi hN hW h1 h2 h3 h4 hk h32
  go_enter Try.func12, Try.ntmps12
  go_wp2_with fail
  refine HH.out.mono ?_
  rintro e w2 ⟨rfl, H2⟩
  clear HH
  go_wp2
  refine bodyPost_end (results_none rfl _ _ _) rfl ?_
  exact ⟨rfl, H2⟩

theorem cell_lt {w : World} {p : Addr} {v : Value} (h : w.cell? p = some v) : p.block < w.heap.size := by
  unfold World.cell? at h
  cases hh : w.heap[p.block]? with
  | none => simp [hh] at h
  | some o => exact lt_of_heap hh

end Go.Proofs.Qxb6613471a
