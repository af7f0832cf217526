import Derived.Test.Qxb6613067aDoorLaidT
import Derived.Test.Qxb6613067aDoorTie
import Derived.Test.Qxb6613067aDoorCards
import Derived.Test.Qxb6613067aDoorBr3
import Derived.SevenTiedAt
namespace Go.Proofs.Qxb6613067aDoor
open Go.ChangeShapes Go.WideShapes Go.ChangeAt Go.RowKit
open Go.ChangeMaps (open_string shut_string)

theorem back_walk (br nm : ByteArray) (x : Int) (w : World) (h1 : br.size ≤ maxLen) (h2 : nm.size ≤ maxLen) (w1 : (Lit.int .i64 x).wf = true) (hT : Tab w.heap.size w) :
    Calls Tryd.prog 3 #[.string br, .string nm, .int .i64 x] w fun e w' => e = .returned (.bool true) ∧ Below w.heap.size w w' := by
  have k1 := bounds_i64 w1
  by_cases h : 1048576 < br.size + nm.size
  · refine (back_out br nm x w h1 h2 h).mono ?_
    rintro e w' ⟨rfl, rfl⟩
    exact ⟨rfl, Below.refl _ _⟩
  · exact back_ok br nm x w (by omega) k1.1 k1.2 hT

set_option maxRecDepth 100000 in
theorem back_lifted (os : Os) (started : os.Started) (H : Type) (enc : TypeId × Value → H) :
    ReturnsInHanded {} Tryd.checked os 3 .any (fun w args => (Rows.fnBalanceReplyReadsBackAtLastEqualsSpec.pre enc Tryd.prog Tryd.f3 [] false w args ∧ laidMetH Tryd.prog laidTab w) ∧ sizedMet enc Tryd.prog Tryd.f3 (OpenSpec.ofChange Rows.fnBalanceReplyReadsBackAtLastEqualsSpec) false w args)
      (Rows.fnBalanceReplyReadsBackAtLastEqualsSpec.post enc Tryd.prog Tryd.f3 false true false false) := by
  refine returnsInHanded_of_change_and (C := Tryd.checked) (X := fun w _ => laidMetH Tryd.prog laidTab w) (fun _ _ _ hh h => h.of_heap hh) ownT started (by kernel_rfl) Tryd.func3
    (ChangeSpec.witness_shaped (enc := enc) (C := Tryd.checked) (os := os) (X := fun w _ => laidMetH Tryd.prog laidTab w) false (World.doorLaid Tryd.prog 400 os) #[.string ByteArray.empty, .string ByteArray.empty, .int .i64 0] 8 rfl (World.shaped_of_RefB (by kernel_rfl) (by kernel_rfl)) (by kernel_rfl) (by kernel_rfl) (by kernel_rfl) (door_metT os _)) ?_
  intro W base args ds gs before hval0 hW _ _ hL _
  have hval : ∀ (j : Nat) t v, Tryd.f3.params[j]? = some t → args[j]? = some v → Value.okWide Tryd.prog W .any base t v := hval0
  have hW' := hW
  obtain ⟨p, q, hA0, hV, rfl, hfz, hnd⟩ := hW
  have hA : DataW.TrodAll enc Tryd.prog W 0 (fun _ => true) true Tryd.f3.params.toList args.toList ds p := hA0
  rw [Tryd.params3] at hA hval
  obtain ⟨v0, v1, v2, d0, d1, d2, p0, p1, p2, rfl, rfl, rfl, h0, h1, h2⟩ := trodAll_three hA
  obtain ⟨rfl, rfl⟩ := trodVars_none hV
  obtain ⟨s0, rfl, rfl, rfl, x0⟩ := open_string Tryd.underlying9 (hval 0 9 v0 rfl rfl) h0
  obtain ⟨s1, rfl, rfl, rfl, x1⟩ := open_string Tryd.underlying9 (hval 1 9 v1 rfl rfl) h1
  obtain ⟨a, rfl, rfl, rfl, x2⟩ := open_int Tryd.underlying2 (hval 2 2 v2 rfl rfl) h2
  have hTab := of_laidT hL
  clear hA0 hval0
  refine (back_walk s0 s1 a W x0 x1 x2 hTab).mono fun e W' ⟨he, bel⟩ => ?_
  subst he
  exact ⟨_, rfl, _, _, _, [], _, [], hW', trodAll_mk1 (shut_bool Tryd.underlying4 _), (trodAll_cons_mk (shut_string Tryd.underlying9 x0) (trodAll_cons_mk (shut_string Tryd.underlying9 x1) (trodAll_cons_mk (shut_int Tryd.underlying2 x2) trodAll_mk0))), rfl, bel.frame _, fun h => by cases h⟩

theorem back_holds : Rows.FnBalanceReplyReadsBackAtLastEqualsSaid :=
  OpenClaim.holds_of_wide 3 Tryd.f3 rfl rfl rfl rfl rfl rfl rfl ⟨rfl, rfl, rfl, rfl, rfl⟩ rfl rfl rfl rfl rfl (by kernel_rfl) Tryd.func3 (by kernel_rfl)
    (of_decide_eq_true (by kernel_rfl)) (by unfold Func.isWrapper; first | (rw [if_pos (by decide +kernel)]; kernel_rfl) | (rw [if_neg (by decide +kernel)]; exact ⟨rfl, rfl⟩))
    (fun os started H enc _ => back_lifted os started H enc)

theorem back_card : Rows.FnBalanceReplyReadsBackAtLastEqualsCardSaid :=
  Claim7.holds_tied_plain_at .later [] [.data, .data, .data] true (true, "d2ba1a9dbfef3cb686d4fa766c6d23f5a58f870fcca44962ad2545cf1229d379") true
    back_holds (fun _ h => by cases h) (by kernel_rfl) (fun _ h => by cases h) fnBalanceReplyReadsBackAtLastEquals_row_tie rfl ⟨rfl, rfl⟩ (by kernel_rfl) rfl
    (fun f fn hf hfn => by
      obtain rfl : f = 3 := Option.some.inj ((show Tryd.prog.funcNamed Rows.fnBalanceReplyReadsBackAtLastEqualsRow.func = some 3 by kernel_rfl).symm.trans hf) |>.symm
      obtain rfl : fn = Tryd.f3 := (Option.some.inj (Tryd.func3.symm.trans hfn)).symm
      exact ⟨by kernel_rfl, fun j t ht => by
        rw [Tryd.params3] at ht
        have hm : t ∈ [9, 9, 2] := by simpa using Array.mem_of_getElem? ht
        have hall : ([9, 9, 2].all fun u => !Tryd.prog.wantsStandIn u) = true := by kernel_rfl
        exact (show Tryd.prog.wantsStandIn t = false by simpa using List.all_eq_true.1 hall t hm)⟩)
    (by kernel_rfl)
end Go.Proofs.Qxb6613067aDoor
