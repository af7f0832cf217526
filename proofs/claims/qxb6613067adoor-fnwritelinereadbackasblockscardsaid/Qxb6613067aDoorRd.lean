import Derived.Test.Qxb6613067aDoorBr
import Derived.Test.Qxb6613067aDoorBd
import Derived.Test.Qxb6613067aDoorBf
import Derived.Test.Qxb6613067aDoorBg
namespace Go.Proofs.Qxb6613067aDoor
open Go.RowKit

theorem bc_get (l : List UInt8) (j : Nat) : (Lib.byteCells l)[j]? = l[j]?.map fun b => .int .u8 (b.toNat : Int) := by simp [Lib.byteCells]
theorem splice_get {α : Type} (L : List α) (off : Nat) (cs : List α) (h : off + cs.length ≤ L.length) (j : Nat) :
    (splice L off cs)[j]? = if j < off then L[j]? else if j < off + cs.length then cs[j - off]? else L[j]? := by
  unfold splice
  rw [List.getElem?_append, List.length_take, Nat.min_eq_left (by omega)]
  split
  · rw [List.getElem?_take]; simp [*]
  · rw [List.getElem?_append]
    split
    · rw [if_pos (by omega)]
    · rw [if_neg (by omega), List.getElem?_drop]
      congr 1; omega

/-- 'copy(dst, src)' between two rows of bytes. -/
theorem run_copy_rows {P : Program} (w : World) (dT sT ty elem : TypeId) (g o dLen dCap kb R sLen sCap : Nat) (cur src : List Value) (T T' : TypeId) (cs : List Value)
    (hu : P.underlying dT = some (.slice elem)) (hs : (P.info? elem).map (·.size) = some 1) (hg : w.heap[g]? = some (.cells cur.toArray T (0, 0))) (hb : w.heap[kb]? = some (.cells src.toArray T' (0, 0)))
    (hn : cs.length = min sLen dLen) (hsrc : ∀ j, j < cs.length → src[R + j]? = cs[j]?) (hfit : o + cs.length ≤ cur.length) (h1 : ∀ v ∈ cs, v.oneCell' = true) :
    (Builtin.copy_ #[dT, sT] ty #[.slice (some ⟨g, o, none⟩) dLen dCap, .slice (some ⟨kb, R, none⟩) sLen sCap]).run P w = .ok (goInt cs.length) (w.setRow g (splice cur o cs).toArray) := by
  have hrun := run_copy_row (P := P) w dT sT ty elem g o dLen dCap ⟨kb, R, none⟩ sLen sCap cur.toArray T cs hu hs hg hn (fun j v hj => by
    have hlt : j < cs.length := (List.getElem?_eq_some_iff.1 hj).1
    have hadd : (⟨kb, R, none⟩ : Addr).add j = ⟨kb, R + j, none⟩ := by unfold Addr.add; split <;> simp_all
    rw [hadd, Lib.cell_of_heap hb]
    have := hsrc j hlt
    rw [hj] at this
    simpa using this) (by simpa using hfit) h1
  rw [hrun]
  simp [splice]

/-- The reader at kr over the stream s (a strings.Reader at ks, a buffer of N bytes at kb): pos bytes have been handed out. -/
def Rd (kr ks kb N : Nat) (s : ByteArray) (pos : Nat) (w : World) : Prop :=
  ∃ (R W i : Nat) (pr lb lr : Int) (cur : List Value),
    w.heap[kr]? = some (.cells #[.slice (some ⟨kb, 0, none⟩) N N, .iface 36 (.pointer (some ⟨ks, 0, none⟩)), .int .i64 R, .int .i64 W, .nilIface, .int .i64 lb, .int .i64 lr] 75 (0, 0)) ∧
    w.heap[ks]? = some (.cells #[.string s, .int .i64 i, .int .i64 pr] 70 (0, 0)) ∧
    w.heap[kb]? = some (.cells cur.toArray 5 (0, 0)) ∧ cur.length = N ∧ R ≤ W ∧ W ≤ N ∧ i = pos + (W - R) ∧ i ≤ s.size ∧
    ∀ j, j < W - R → cur[R + j]? = (Lib.byteCells s.data.toList)[pos + j]?

theorem Rd.kept {kr ks kb N : Nat} {s : ByteArray} {pos : Nat} {w w' : World} (h : Rd kr ks kb N s pos w) {S : List Nat} (hk : Kept S w w') (h1 : kr ∉ S) (h2 : ks ∉ S) (h3 : kb ∉ S) : Rd kr ks kb N s pos w' := by
  obtain ⟨R, W, i, pr, lb, lr, cur, a1, a2, a3, rest⟩ := h
  exact ⟨R, W, i, pr, lb, lr, cur, hk.at a1 h1, hk.at a2 h2, hk.at a3 h3, rest⟩

/-- The n bytes of the stream from pos on, as cells. -/
def cut (s : ByteArray) (pos n : Nat) : List Value := Lib.byteCells ((s.data.toList.drop pos).take n)
theorem cut_length (s : ByteArray) (pos n : Nat) (h : pos + n ≤ s.size) : (cut s pos n).length = n := by
  unfold cut; rw [Lib.byteCells_length, List.length_take, List.length_drop, ← Lib.size_eq]; omega
theorem cut_get (s : ByteArray) (pos n j : Nat) (hj : j < n) : (cut s pos n)[j]? = (Lib.byteCells s.data.toList)[pos + j]? := by
  unfold cut; rw [bc_get, bc_get, List.getElem?_take, if_pos hj, List.getElem?_drop]
theorem cut_byte (s : ByteArray) (k : Nat) (h : k < s.size) : ∃ x : Int, (Lib.byteCells s.data.toList)[k]? = some (.int .u8 x) ∧ 0 ≤ x ∧ x < 256 := by
  have hl : k < s.data.toList.length := by rw [← Lib.size_eq]; exact h
  refine ⟨((s.data.toList[k]).toNat : Int), ?_, by omega, ?_⟩
  · rw [bc_get, List.getElem?_eq_getElem hl]; rfl
  · have := (s.data.toList[k]).toNat_lt; omega
theorem cut_one (s : ByteArray) (pos n : Nat) : ∀ v ∈ cut s pos n, v.oneCell' = true := Lib.byteCells_one _

theorem rd_read (kr ks kb N pos pb po pl pc : Nat) (s : ByteArray) (pcur : List Value) (w : World) (hRd : Rd kr ks kb N s pos w) (hN0 : 1 ≤ N) (hN : N ≤ 2097152) (hs : s.size ≤ 2097152)
    (hpb : w.heap[pb]? = some (.cells pcur.toArray 5 (0, 0))) (hfit : po + pl ≤ pcur.length) (hpl : 0 < pl) (hpl2 : pl ≤ 2097152)
    (hne1 : pb ≠ kr) (hne2 : pb ≠ kb) (hne3 : kr ≠ kb) (hne4 : pb ≠ ks) (hne5 : kr ≠ ks) (hne6 : kb ≠ ks) (hpos : pos < s.size) :
    Calls Tryd.prog 80 #[.pointer (some ⟨kr, 0, none⟩), .slice (some ⟨pb, po, none⟩) pl pc] w fun e w' =>
      ∃ n : Nat, 1 ≤ n ∧ n ≤ pl ∧ pos + n ≤ s.size ∧ e = .returned (.tuple #[.int .i64 n, .nilIface]) ∧ Rd kr ks kb N s (pos + n) w' ∧
        w'.heap[pb]? = some (.cells (splice pcur po (cut s pos n)).toArray 5 (0, 0)) ∧ Kept [kr, ks, kb, pb] w w' := by
  obtain ⟨R, W, i, pr, lb, lr, cur, hkr, hks, hkb, hcl, hRW, hWN, hi, his, hcur⟩ := hRd
  by_cases hlt : R < W
  · obtain ⟨x, hx, hx0, hx1⟩ := cut_byte s (pos + (min (W - R) pl - 1)) (by omega)
    refine (br_buf kr ks kb pb po pl pc N R W (min (W - R) pl) lb lr x cur pcur (splice pcur po (cut s pos (min (W - R) pl))) w hkr hkb hN hWN hlt hpl hpl2 hpb (by omega) hne1 hne2 hne3 (R + (min (W - R) pl - 1)) (by omega) (by rw [hcur _ (by omega)]; exact hx) hx0 hx1 ?_).mono ?_
    · intro W' h1 h2
      have hl := cut_length s pos (min (W - R) pl) (by omega)
      have := run_copy_rows (P := Tryd.prog) W' 42 42 3 5 pb po pl pc kb R (W - R) (N - R) pcur cur 5 5 (cut s pos (min (W - R) pl)) Tryd.underlying42 info5 h1 h2 hl (fun j hj => by rw [hl] at hj; rw [cut_get _ _ _ _ hj, hcur j (by omega)]) (by rw [hl]; omega) (cut_one _ _ _)
      rw [hl] at this; exact this
    · rintro e w' ⟨rfl, ⟨lb', lr', a1⟩, a2, a3⟩
      refine ⟨min (W - R) pl, by omega, by omega, by omega, rfl, ⟨R + min (W - R) pl, W, i, pr, lb', lr', cur, ?_, ?_, ?_, hcl, by omega, hWN, by omega, his, ?_⟩, a2, a3.mono (fun k hk => by simp at hk ⊢; omega)⟩
      · rw [a1]; simp
      · exact a3.at hks (by simp [Ne.symm hne5, Ne.symm hne4])
      · exact a3.at hkb (by simp [Ne.symm hne3, Ne.symm hne2])
      · intro j hj
        have := hcur (min (W - R) pl + j) (by omega)
        rw [show R + min (W - R) pl + j = R + (min (W - R) pl + j) from by omega, this]
        congr 1; omega
  · obtain rfl : W = R := by omega
    have hip : i = pos := by omega
    subst hip
    clear hi
    by_cases hNp : N ≤ pl
    · obtain ⟨q, hq⟩ : ∃ q, min (s.size - i) pl = q + 1 := ⟨min (s.size - i) pl - 1, by omega⟩
      obtain ⟨x, hx, hx0, hx1⟩ := cut_byte s (i + q) (by omega)
      have hl := cut_length s i (q + 1) (by omega)
      refine (bd_read kr ks kb pb po pl pc N W i q lb lr pr x s pcur (splice pcur po (cut s i (q + 1))) w hkr hks hpl hpl2 hNp hpb hne1 hne5 (by omega) ?_ hx0 hx1 ?_).mono ?_
      · rw [splice_get _ _ _ (by rw [hl]; omega), if_neg (by omega), if_pos (by rw [hl]; omega), cut_get _ _ _ _ (by omega), ← hx]
        congr 1; omega
      · intro V h1 h2
        have := sr_read s i ks pb po pl pc (q + 1) pr pcur V h1 hpos hs h2 hfit hne4 hq.symm
        simpa [cut] using this
      · rintro e w' ⟨rfl, ⟨lb', lr', a1⟩, a2, a3, a4⟩
        refine ⟨q + 1, by omega, by omega, by omega, by simp, ⟨W, W, i + (q + 1), -1, lb', lr', cur, a1, ?_, ?_, hcl, by omega, hWN, by omega, by omega, fun j hj => by omega⟩, a3, a4.mono (fun k hk => by simp at hk ⊢; omega)⟩
        · rw [a2]; simp
        · exact a4.at hkb (by simp [Ne.symm hne3, hne6, Ne.symm hne2])
    · obtain ⟨q, hq⟩ : ∃ q, min (min (s.size - i) N) pl = q + 1 := ⟨min (min (s.size - i) N) pl - 1, by omega⟩
      obtain ⟨x, hx, hx0, hx1⟩ := cut_byte s (i + q) (by omega)
      have hlm := cut_length s i (min (s.size - i) N) (by omega)
      have hl := cut_length s i (q + 1) (by omega)
      have hY : ∀ j, j < min (s.size - i) N → (splice cur 0 (cut s i (min (s.size - i) N)))[j]? = (Lib.byteCells s.data.toList)[i + j]? := fun j hj => by
        rw [splice_get _ _ _ (by rw [hlm]; omega), if_neg (by omega), if_pos (by rw [hlm]; omega), Nat.sub_zero, cut_get _ _ _ _ hj]
      refine (bf_read kr ks kb pb po pl pc N W i (min (s.size - i) N) q lb lr pr x s cur (splice cur 0 (cut s i (min (s.size - i) N))) pcur (splice pcur po (cut s i (q + 1))) w hkr hks hkb hpb hpl hpl2 (by omega) hN (by omega) (by omega) (by omega) hne1 hne2 hne3 hne4 hne5 ?_ hx0 hx1 ?_ ?_).mono ?_
      · rw [hY q (by omega)]; exact hx
      · intro V h1 h2
        exact sr_read s i ks kb 0 N N (min (s.size - i) N) pr cur V h1 hpos hs h2 (by omega) hne6 rfl
      · intro W' h1 h2
        have := run_copy_rows (P := Tryd.prog) W' 42 42 3 5 pb po pl pc kb 0 (min (s.size - i) N) N pcur _ 5 5 (cut s i (q + 1)) Tryd.underlying42 info5 h1 h2 (by rw [hl]; omega) (fun j hj => by rw [hl] at hj; rw [cut_get _ _ _ _ hj, Nat.zero_add, hY j (by omega)]) (by rw [hl]; omega) (cut_one _ _ _)
        rw [hl] at this; simpa using this
      · rintro e w' ⟨rfl, ⟨lb', lr', a1⟩, a2, a3, a4, a5⟩
        refine ⟨q + 1, by omega, by omega, by omega, by simp, ⟨q + 1, min (s.size - i) N, i + min (s.size - i) N, -1, lb', lr', _, ?_, ?_, a3, ?_, by omega, by omega, by omega, by omega, ?_⟩, a4, a5⟩
        · rw [a1]; simp
        · rw [a2]; simp
        · rw [length_splice _ _ _ (by rw [hlm]; omega)]; exact hcl
        · intro j hj
          rw [hY _ (by omega)]
          congr 1; omega

theorem rd_eof (kr ks kb N pos pb po pl pc : Nat) (s : ByteArray) (et : TypeId) (ep : Value) (w : World) (hRd : Rd kr ks kb N s pos w) (hN : N ≤ 2097152) (hs : s.size ≤ 2097152)
    (hpl : 0 < pl) (hpl2 : pl ≤ 2097152) (hne3 : kr ≠ kb) (hne5 : kr ≠ ks) (hk1 : kr ≠ 1) (hpos : pos = s.size) (heof : w.cell? ⟨1, 0, none⟩ = some (.iface et ep)) :
    Calls Tryd.prog 80 #[.pointer (some ⟨kr, 0, none⟩), .slice (some ⟨pb, po, none⟩) pl pc] w fun e w' =>
      e = .returned (.tuple #[.int .i64 0, .iface et ep]) ∧ Rd kr ks kb N s pos w' ∧ Kept [kr] w w' := by
  obtain ⟨R, W, i, pr, lb, lr, cur, hkr, hks, hkb, hcl, hRW, hWN, hi, his, hcur⟩ := hRd
  obtain rfl : W = R := by omega
  have hip : i = pos := by omega
  subst hip
  by_cases hNp : N ≤ pl
  · refine (bd_eof kr ks kb pb po pl pc N W lb lr et ep w hkr hpl hpl2 hNp ?_).mono ?_
    · intro V hV
      exact sr_eof s i ks pb po pl pc pr et ep V (by rw [hV]; exact hks) (by omega) hs (by omega) (by unfold World.cell? at heof ⊢; rw [hV]; exact heof)
    · rintro e w' ⟨rfl, a1, a2⟩
      exact ⟨rfl, ⟨W, W, i, pr, lb, lr, cur, a1, a2.at hks (by simp [Ne.symm hne5]), a2.at hkb (by simp [Ne.symm hne3]), hcl, hRW, hWN, hi, his, hcur⟩, a2⟩
  · refine (bf_eof kr ks kb pb po pl pc N W lb lr et ep w hkr hpl hpl2 (by omega) hN ?_).mono ?_
    · intro V hV
      exact sr_eof s i ks kb 0 N N pr et ep V (hV.at hks (by simp [Ne.symm hne5])) (by omega) hs (by omega) (hV.cell heof (by simpa using Ne.symm hk1))
    · rintro e w' ⟨rfl, a1, a2⟩
      exact ⟨rfl, ⟨0, 0, i, pr, lb, lr, cur, by simpa using a1, a2.at hks (by simp [Ne.symm hne5]), a2.at hkb (by simp [Ne.symm hne3]), hcl, by omega, by omega, by omega, his, fun j hj => by omega⟩, a2⟩

end Go.Proofs.Qxb6613067aDoor
