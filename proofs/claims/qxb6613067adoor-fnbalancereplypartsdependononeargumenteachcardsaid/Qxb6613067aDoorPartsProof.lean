import Derived.Test.Qxb6613067aDoorLaidT
import Derived.Test.Qxb6613067aDoorTie
import Derived.Test.Qxb6613067aDoorCards
import Derived.Test.Qxb6613067aDoorBp
import Derived.SevenTiedAt
namespace Go.Proofs.Qxb6613067aDoor
open Go.ChangeShapes Go.WideShapes Go.ChangeAt Go.RowKit
open Go.ChangeMaps (open_string shut_string)

theorem parts_walk (b1 n1 b2 n2 : ByteArray) (x y : Int) (w : World) (h1 : b1.size ≤ maxLen) (h2 : n1.size ≤ maxLen) (h3 : b2.size ≤ maxLen) (h4 : n2.size ≤ maxLen)
    (w1 : (Lit.int .i64 x).wf = true) (w2 : (Lit.int .i64 y).wf = true) (hT : Tab w.heap.size w) :
    Calls Tryd.prog 4 #[.string b1, .string n1, .string b2, .string n2, .int .i64 x, .int .i64 y] w fun e w' => e = .returned (.bool true) ∧ Below w.heap.size w w' := by
  have k1 := bounds_i64 w1
  have k2 := bounds_i64 w2
  by_cases h : 1048576 < b1.size + n1.size + b2.size + n2.size
  · refine (parts_out b1 n1 b2 n2 x y w h1 h2 h3 h4 h).mono ?_
    rintro e w' ⟨rfl, rfl⟩
    exact ⟨rfl, Below.refl _ _⟩
  · exact parts_ok b1 n1 b2 n2 x y w (by omega) k1.1 k1.2 k2.1 k2.2 hT

set_option maxRecDepth 100000 in
theorem parts_lifted (os : Os) (started : os.Started) (H : Type) (enc : TypeId × Value → H) :
    ReturnsInHanded {} Tryd.checked os 4 .any (fun w args => (Rows.fnBalanceReplyPartsDependOnOneArgumentEachSpec.pre enc Tryd.prog Tryd.f4 [] false w args ∧ laidMetH Tryd.prog laidTab w) ∧ sizedMet enc Tryd.prog Tryd.f4 (OpenSpec.ofChange Rows.fnBalanceReplyPartsDependOnOneArgumentEachSpec) false w args)
      (Rows.fnBalanceReplyPartsDependOnOneArgumentEachSpec.post enc Tryd.prog Tryd.f4 false true false false) := by
  refine returnsInHanded_of_change_and (C := Tryd.checked) (X := fun w _ => laidMetH Tryd.prog laidTab w) (fun _ _ _ hh h => h.of_heap hh) ownT started (by kernel_rfl) Tryd.func4
    (ChangeSpec.witness_shaped (enc := enc) (C := Tryd.checked) (os := os) (X := fun w _ => laidMetH Tryd.prog laidTab w) false (World.doorLaid Tryd.prog 400 os) #[.string ByteArray.empty, .string ByteArray.empty, .string ByteArray.empty, .string ByteArray.empty, .int .i64 0, .int .i64 0] 8 rfl (World.shaped_of_RefB (by kernel_rfl) (by kernel_rfl)) (by kernel_rfl) (by kernel_rfl) (by kernel_rfl) (door_metT os _)) ?_
  intro W base args ds gs before hval0 hW _ _ hL _
  have hval : ∀ (j : Nat) t v, Tryd.f4.params[j]? = some t → args[j]? = some v → Value.okWide Tryd.prog W .any base t v := hval0
  have hW' := hW
  obtain ⟨p, q, hA0, hV, rfl, hfz, hnd⟩ := hW
  have hA : DataW.TrodAll enc Tryd.prog W 0 (fun _ => true) true Tryd.f4.params.toList args.toList ds p := hA0
  rw [Tryd.params4] at hA hval
  obtain ⟨v0, vs0, d0, ds0, p0, q0, hargs, rfl, rfl, h0, r0⟩ := trodAll_cons hA
  obtain ⟨v1, vs1, d1, ds1, p1, q1, rfl, rfl, rfl, h1, r1⟩ := trodAll_cons r0
  obtain ⟨v2, vs2, d2, ds2, p2, q2, rfl, rfl, rfl, h2, r2⟩ := trodAll_cons r1
  obtain ⟨v3, vs3, d3, ds3, p3, q3, rfl, rfl, rfl, h3, r3⟩ := trodAll_cons r2
  obtain ⟨v4, vs4, d4, ds4, p4, q4, rfl, rfl, rfl, h4, r4⟩ := trodAll_cons r3
  obtain ⟨v5, vs5, d5, ds5, p5, q5, rfl, rfl, rfl, h5, r5⟩ := trodAll_cons r4
  obtain ⟨rfl, rfl, rfl⟩ := trodAll_nil r5
  obtain rfl : args = #[v0, v1, v2, v3, v4, v5] := by cases args; simp_all
  obtain ⟨rfl, rfl⟩ := trodVars_none hV
  obtain ⟨s0, rfl, rfl, rfl, x0⟩ := open_string Tryd.underlying9 (hval 0 9 v0 rfl rfl) h0
  obtain ⟨s1, rfl, rfl, rfl, x1⟩ := open_string Tryd.underlying9 (hval 1 9 v1 rfl rfl) h1
  obtain ⟨s2, rfl, rfl, rfl, x2⟩ := open_string Tryd.underlying9 (hval 2 9 v2 rfl rfl) h2
  obtain ⟨s3, rfl, rfl, rfl, x3⟩ := open_string Tryd.underlying9 (hval 3 9 v3 rfl rfl) h3
  obtain ⟨a, rfl, rfl, rfl, x4⟩ := open_int Tryd.underlying2 (hval 4 2 v4 rfl rfl) h4
  obtain ⟨b, rfl, rfl, rfl, x5⟩ := open_int Tryd.underlying2 (hval 5 2 v5 rfl rfl) h5
  have hTab := of_laidT hL
  clear hA0 hval0
  refine (parts_walk s0 s1 s2 s3 a b W x0 x1 x2 x3 x4 x5 hTab).mono fun e W' ⟨he, bel⟩ => ?_
  subst he
  exact ⟨_, rfl, _, _, _, [], _, [], hW', trodAll_mk1 (shut_bool Tryd.underlying4 _), (trodAll_cons_mk (shut_string Tryd.underlying9 x0) (trodAll_cons_mk (shut_string Tryd.underlying9 x1) (trodAll_cons_mk (shut_string Tryd.underlying9 x2) (trodAll_cons_mk (shut_string Tryd.underlying9 x3) (trodAll_cons_mk (shut_int Tryd.underlying2 x4) (trodAll_cons_mk (shut_int Tryd.underlying2 x5) trodAll_mk0)))))), rfl, bel.frame _, fun h => by cases h⟩

theorem parts_holds : Rows.FnBalanceReplyPartsDependOnOneArgumentEachSaid :=
  OpenClaim.holds_of_wide 4 Tryd.f4 rfl rfl rfl rfl rfl rfl rfl ⟨rfl, rfl, rfl, rfl, rfl⟩ rfl rfl rfl rfl rfl (by kernel_rfl) Tryd.func4 (by kernel_rfl)
    (of_decide_eq_true (by kernel_rfl)) (by unfold Func.isWrapper; first | (rw [if_pos (by decide +kernel)]; kernel_rfl) | (rw [if_neg (by decide +kernel)]; exact ⟨rfl, rfl⟩))
    (fun os started H enc _ => parts_lifted os started H enc)

theorem parts_card : Rows.FnBalanceReplyPartsDependOnOneArgumentEachCardSaid :=
  Claim7.holds_tied_plain_at .later [] [.data, .data, .data] true (true, "d2ba1a9dbfef3cb686d4fa766c6d23f5a58f870fcca44962ad2545cf1229d379") true
    parts_holds (fun _ h => by cases h) (by kernel_rfl) (fun _ h => by cases h) fnBalanceReplyPartsDependOnOneArgumentEach_row_tie rfl ⟨rfl, rfl⟩ (by kernel_rfl) rfl
    (fun f fn hf hfn => by
      obtain rfl : f = 4 := Option.some.inj ((show Tryd.prog.funcNamed Rows.fnBalanceReplyPartsDependOnOneArgumentEachRow.func = some 4 by kernel_rfl).symm.trans hf) |>.symm
      obtain rfl : fn = Tryd.f4 := (Option.some.inj (Tryd.func4.symm.trans hfn)).symm
      exact ⟨by kernel_rfl, fun j t ht => by
        rw [Tryd.params4] at ht
        have hm : t ∈ [9, 9, 9, 9, 2, 2] := by simpa using Array.mem_of_getElem? ht
        have hall : ([9, 9, 9, 9, 2, 2].all fun u => !Tryd.prog.wantsStandIn u) = true := by kernel_rfl
        exact (show Tryd.prog.wantsStandIn t = false by simpa using List.all_eq_true.1 hall t hm)⟩)
    (by kernel_rfl)
end Go.Proofs.Qxb6613067aDoor
