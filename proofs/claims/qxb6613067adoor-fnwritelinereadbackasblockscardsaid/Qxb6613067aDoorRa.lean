import Derived.Test.Qxb6613067aDoorRd
namespace Go.Proofs.Qxb6613067aDoor
open Go.RowKit

theorem cut_zero (s : ByteArray) (pos : Nat) : cut s pos 0 = [] := by simp [cut, Lib.byteCells]
theorem splice_nil {α : Type} (L : List α) (o : Nat) : splice L o [] = L := by simp [splice]
theorem cut_splice (s : ByteArray) (L : List Value) (pos k n : Nat) (h : pos + k + n ≤ s.size) (hl : k + n ≤ L.length) :
    splice (splice L 0 (cut s pos k)) k (cut s (pos + k) n) = splice L 0 (cut s pos (k + n)) := by
  have l1 := cut_length s pos k (by omega)
  have l2 := cut_length s (pos + k) n (by omega)
  have l3 := cut_length s pos (k + n) (by omega)
  have l4 := length_splice L 0 (cut s pos k) (by omega)
  apply List.ext_getElem?
  intro j
  rw [splice_get _ _ _ (by omega), splice_get _ _ _ (by omega), splice_get _ _ _ (by omega), l1, l2, l3]
  by_cases h1 : j < k
  · rw [if_pos h1, if_neg (by omega), if_pos (by omega), if_neg (by omega), if_pos (by omega), cut_get _ _ _ _ (by omega), cut_get _ _ _ _ (by omega)]
  · by_cases h2 : j < k + n
    · rw [if_neg h1, if_pos h2, if_neg (by omega), if_pos (by omega), cut_get _ _ _ _ (by omega), cut_get _ _ _ _ (by omega)]
      congr 1; omega
    · rw [if_neg h1, if_neg h2, if_neg (by omega), if_neg (by omega), if_neg (by omega), if_neg (by omega)]

set_option maxHeartbeats 1000000 in
theorem ra_ok (kr ks kb N pos pb pc L : Nat) (s : ByteArray) (pcur : List Value) (w : World) (hRd : Rd kr ks kb N s pos w) (hN0 : 1 ≤ N) (hN : N ≤ 2097152) (hs : s.size ≤ 2097152)
    (hpb : w.heap[pb]? = some (.cells pcur.toArray 5 (0, 0))) (hfit : pcur.length = L) (hpc : L ≤ pc) (hpc2 : pc ≤ 2097152)
    (hne1 : pb ≠ kr) (hne2 : pb ≠ kb) (hne3 : kr ≠ kb) (hne4 : pb ≠ ks) (hne5 : kr ≠ ks) (hne6 : kb ≠ ks) (hpos : pos + L ≤ s.size) :
    Calls Tryd.prog 38 #[.iface 59 (.pointer (some ⟨kr, 0, none⟩)), .slice (some ⟨pb, 0, none⟩) L pc, .int .i64 L] w fun e w' =>
      e = .returned (.tuple #[.int .i64 L, .nilIface]) ∧ Rd kr ks kb N s (pos + L) w' ∧
        w'.heap[pb]? = some (.cells (splice pcur 0 (cut s pos L)).toArray 5 (0, 0)) ∧ Kept [kr, ks, kb, pb] w w' := by
  have HR := hide hRd
  have HP := hide hpb
  clear hRd hpb
  have hmf : ∀ (fn : Fn) (first cap : Array Value) (w : World), (Instr.makeFunc fn first cap).run Tryd.prog w = .ok (.func fn first cap) w := fun _ _ _ _ => rfl
  have hm := method_br
  have hnl := nil_br
  go_enter Tryd.func38, Tryd.ntmps38
  go_wp2
  go_loopw [6, 7, 8] (fun n er _ w' => ∃ k : Nat, k ≤ L ∧ n = .int .i64 k ∧ er = .nilIface ∧ Hid (Rd kr ks kb N s (pos + k) w') ∧ Hid (w'.heap[pb]? = some (.cells (splice pcur 0 (cut s pos k)).toArray 5 (0, 0))) ∧ Kept [kr, ks, kb, pb] w w')
    (fun n _ _ _ => L - (intOf n).toNat)
  case atStart => exact ⟨0, by omega, rfl, rfl, HR, hide (by rw [cut_zero, splice_nil]; exact HP.out), Kept.refl _ _⟩
  case round =>
    obtain ⟨k, hk, rfl, rfl, HRk, HPk, hK⟩ := hrel
    have hk0 : (0 : Int) ≤ (k : Int) := by omega
    by_cases hlt : k < L
    · have hk1 : (k : Int) ≤ (L : Int) := by omega
      have hk2 : (k : Int) ≤ (pc : Int) := by omega
      have hkc : ¬ pc = k := by omega
      have hLs := length_splice pcur 0 (cut s pos k) (by rw [cut_length s pos k (by omega)]; omega)
      have HL := hide hLs
      clear hLs
      go_wp2
      go_region_held3 (fun _ => True) (trivial)
        (first | (go_at_call 80; refine (rd_read kr ks kb N (pos + k) pb k (L - k) (pc - k) s (splice pcur 0 (cut s pos k)) _ (by exact HRk.out) hN0 hN hs (by exact HPk.out) (by rw [HL.out]; omega) (by omega) (by omega) hne1 hne2 hne3 hne4 hne5 hne6 (by omega)).mono ?_; rintro e w2 ⟨n, a1, a2, a3, rfl, a4, a5, a6⟩; have A4 := hide a4; have A5 := hide a5; clear a4 a5))
      go_wp2
      go_roundw
      case rel =>
        refine ⟨k + n, by omega, by go_num, rfl, ?_, ?_, (hK.drew).trans a6⟩
        · have := A4.out; rw [Nat.add_assoc] at this; exact this
        · have := A5.out; rw [cut_splice s pcur pos k n (by omega) (by omega)] at this; exact this
      case measure => simp [intOf]; omega
    · obtain rfl : k = L := by omega
      go_wp2
      go_ret2
      exact ⟨rfl, HRk.out, HPk.out, hK⟩

end Go.Proofs.Qxb6613067aDoor
