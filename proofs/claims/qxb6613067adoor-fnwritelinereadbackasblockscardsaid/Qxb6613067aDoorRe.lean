import Derived.Test.Qxb6613067aDoorRa
import Derived.LaidEql
namespace Go.Proofs.Qxb6613067aDoor
open Go.RowKit

theorem comp104 : (Tryd.prog.info? 104).map (·.comparable) = some true := by kernel_rfl
theorem info126 : (Tryd.prog.info? 126).isSome = true := by kernel_rfl
theorem eql_same (a : Addr) (w : World) : (binOp .eql 44 (.iface 104 (.pointer (some a))) (.iface 104 (.pointer (some a)))).run Tryd.prog w = .ok (.bool true) w := by
  have h1 := comp104
  cases hi : Tryd.prog.info? 104 with
  | none => simp [hi] at h1
  | some i =>
    obtain ⟨j, hj⟩ := Option.isSome_iff_exists.1 info126
    exact run_eql_iface_ptr_same w a Tryd.underlying44 Tryd.underlying104 hi (by simpa [hi] using h1) hj

def errOf : Value → Nat | .nilIface => 1 | _ => 0

set_option maxHeartbeats 1000000 in
theorem ra_err (kr ks kb N pos pb pc L : Nat) (s : ByteArray) (pcur : List Value) (ea ua : Addr) (w : World) (hRd : Rd kr ks kb N s pos w) (hN0 : 1 ≤ N) (hN : N ≤ 2097152) (hs : s.size ≤ 2097152)
    (hpb : w.heap[pb]? = some (.cells pcur.toArray 5 (0, 0))) (hfit : pcur.length = L) (hpc : L ≤ pc) (hpc2 : pc ≤ 2097152)
    (hne1 : pb ≠ kr) (hne2 : pb ≠ kb) (hne3 : kr ≠ kb) (hne4 : pb ≠ ks) (hne5 : kr ≠ ks) (hne6 : kb ≠ ks) (hpos1 : pos ≤ s.size) (hpos : s.size < pos + L)
    (heof : w.cell? ⟨1, 0, none⟩ = some (.iface 104 (.pointer (some ea)))) (hueof : w.cell? ⟨2, 0, none⟩ = some (.iface 104 (.pointer (some ua))))
    (hS1 : 1 ∉ [kr, ks, kb, pb]) (hS2 : 2 ∉ [kr, ks, kb, pb]) :
    Calls Tryd.prog 38 #[.iface 59 (.pointer (some ⟨kr, 0, none⟩)), .slice (some ⟨pb, 0, none⟩) L pc, .int .i64 L] w fun e w' =>
      ∃ (n : Nat) (xa : Addr), e = .returned (.tuple #[.int .i64 n, .iface 104 (.pointer (some xa))]) ∧ Rd kr ks kb N s s.size w' ∧ Kept [kr, ks, kb, pb] w w' := by
  have HR := hide hRd
  have HP := hide hpb
  have HE := hide heof
  have HU := hide hueof
  clear hRd hpb heof hueof
  have hmf : ∀ (fn : Fn) (first cap : Array Value) (w : World), (Instr.makeFunc fn first cap).run Tryd.prog w = .ok (.func fn first cap) w := fun _ _ _ _ => rfl
  have hm := method_br
  have hnl := nil_br
  have heq := eql_same
  have hk1 : kr ≠ 1 := fun e => hS1 (by simp [e])
  go_enter Tryd.func38, Tryd.ntmps38
  go_wp2
  go_loopw [6, 7, 8] (fun n er _ w' => ∃ k : Nat, k ≤ L ∧ pos + k ≤ s.size ∧ n = .int .i64 k ∧ (er = .nilIface ∨ er = .iface 104 (.pointer (some ea)) ∧ pos + k = s.size) ∧ Hid (Rd kr ks kb N s (pos + k) w') ∧ Hid (w'.heap[pb]? = some (.cells (splice pcur 0 (cut s pos k)).toArray 5 (0, 0))) ∧ Kept [kr, ks, kb, pb] w w')
    (fun n er _ _ => L - (intOf n).toNat + errOf er)
  case atStart => exact ⟨0, by omega, by omega, rfl, Or.inl rfl, HR, hide (by rw [cut_zero, splice_nil]; exact HP.out), Kept.refl _ _⟩
  case round =>
    obtain ⟨k, hk, hks, rfl, her, HRk, HPk, hK⟩ := hrel
    have hk0 : (0 : Int) ≤ (k : Int) := by omega
    have hlt : k < L := by omega
    rcases her with rfl | ⟨rfl, hend⟩
    · have hk1' : (k : Int) ≤ (L : Int) := by omega
      have hk2 : (k : Int) ≤ (pc : Int) := by omega
      have hkc : ¬ pc = k := by omega
      have hLs := length_splice pcur 0 (cut s pos k) (by rw [cut_length s pos k (by omega)]; omega)
      have HL := hide hLs
      clear hLs
      by_cases hmore : pos + k < s.size
      · go_wp2
        go_region_held3 (fun _ => True) (trivial)
          (first | (go_at_call 80; refine (rd_read kr ks kb N (pos + k) pb k (L - k) (pc - k) s (splice pcur 0 (cut s pos k)) _ (by exact HRk.out) hN0 hN hs (by exact HPk.out) (by rw [HL.out]; omega) (by omega) (by omega) hne1 hne2 hne3 hne4 hne5 hne6 (by omega)).mono ?_; rintro e w2 ⟨n, a1, a2, a3, rfl, a4, a5, a6⟩; have A4 := hide a4; have A5 := hide a5; clear a4 a5))
        go_wp2
        go_roundw
        case rel =>
          refine ⟨k + n, by omega, by omega, by go_num, Or.inl rfl, ?_, ?_, (hK.drew).trans a6⟩
          · have := A4.out; rw [Nat.add_assoc] at this; exact this
          · have := A5.out; rw [cut_splice s pcur pos k n (by omega) (by omega)] at this; exact this
        case measure => simp [intOf, errOf]; omega
      · have hend : pos + k = s.size := by omega
        have HEn := hide hend
        clear hend
        go_wp2
        go_region_held3 (fun _ => True) (trivial)
          (first | (go_at_call 80; refine (rd_eof kr ks kb N (pos + k) pb k (L - k) (pc - k) s 104 (.pointer (some ea)) _ (by exact HRk.out) hN hs (by omega) (by omega) hne3 hne5 hk1 HEn.out (by exact hK.cell HE.out hS1)).mono ?_; rintro e w2 ⟨rfl, a4, a6⟩; have A4 := hide a4; clear a4))
        go_wp2
        go_roundw
        case rel =>
          exact ⟨k, by omega, by omega, by go_num, Or.inr ⟨rfl, HEn.out⟩, A4, hide (a6.at (by exact HPk.out) (by simpa using hne1)), (hK.drew).trans (a6.mono (by simp))⟩
        case measure => simp [intOf, errOf]
    · have HEn := hide hend
      clear hend
      have g1 := hK.cell HE.out hS1
      have g2 := hK.cell HU.out hS2
      have fin : Rd kr ks kb N s s.size wr := by have := HRk.out; rw [HEn.out] at this; exact this
      have FIN := hide fin
      clear fin
      go_wp2
      all_goals
        go_ret2
        exact ⟨k, _, rfl, FIN.out, hK⟩

end Go.Proofs.Qxb6613067aDoor
