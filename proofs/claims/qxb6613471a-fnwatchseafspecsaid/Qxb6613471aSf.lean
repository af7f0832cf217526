import Derived.Test.Qxb6613471aSv
import Derived.Deep.CutBlock
import Derived.Deep.DeepCutAuto
import Derived.Deep.LoopGhost
namespace Go.Proofs.Qxb6613471a
open Go.RowKit

theorem Kept.setNew {S : List Nat} {a w : World} (h : Kept S a w) {p : Addr} (hp : a.heap.size ≤ p.block) (u : Value) : Kept S a (w.setCell p u) :=
  ⟨h.os, h.tape, h.output, by simpa [World.setCell] using h.size, fun k hk hS => (Below.heap_setCell _ _ _ _ (by omega)).trans (h.block k hk hS)⟩
theorem Fr.setCell {B : Nat} {T M : List Nat} {a w : World} (h : Fr B T M a w) {b t : Nat} {cs : Array Value} {fz : Nat × Nat} (hb : w.heap[b]? = some (.cells cs t fz)) (hB : B ≤ b) (ht : t ∈ T) (o : Nat) (u : Value) : Fr B T M a (w.setCell ⟨b, o, none⟩ u) :=
  h.trans ⟨rfl, rfl, rfl, by simp [World.setCell], fun k hk => Below.heap_setCell _ _ _ _ (by simp; omega),
    fun k cs' t' fz' hk hn => by
      by_cases e : k = b
      · subst e; rw [hb] at hk; cases hk; exact absurd ht hn
      · exact heap_sc _ e hk,
    fun k es c hk _ => by
      by_cases e : k = b
      · subst e; rw [hb] at hk; cases hk
      · exact heap_sc _ e hk⟩
theorem two_new (X : World) (a b t : Nat) : ∀ (j : Nat) (hj : j < [a, b].length), (X.alloc (.cells #[.int .u32 (a : Int), .int .u32 (b : Int)] t)).cell? ⟨X.heap.size, j, none⟩ = some (.int .u32 (([a, b][j] : Nat) : Int))
  | 0, _ => cell_get (heap_alloc_new X _) rfl
  | 1, _ => cell_get (heap_alloc_new X _) rfl
  | n + 2, h => absurd h (by simp)
theorem one_new (X : World) (a t : Nat) : ∀ (j : Nat) (hj : j < [a].length), (X.alloc (.cells #[.int .u32 (a : Int)] t)).cell? ⟨X.heap.size, j, none⟩ = some (.int .u32 (([a][j] : Nat) : Int))
  | 0, _ => cell_get (heap_alloc_new X _) rfl
  | n + 1, h => absurd h (by simp)

set_option maxHeartbeats 16000000 in
set_option maxRecDepth 100000 in
theorem seaf_any (B eB mr mw : Nat) (sv rv : Value) (subs : List (Nat × Nat)) (no : Nat) (rs : Array MapEntry) (rc : Nat) (Ws : List Wt) (oW rW : Wt) (nr rb sB i k supi : Nat) (p : Nat × Nat) (w : World)
    (h : ExV B eB mr mw sv rv subs [no] rs rc Ws w) (hno : Ws[no]? = some oW) (hnr : Ws[nr]? = some rW)
    (hr : w.heap[rb]? = some (.cells (runCells nr).toArray 102 (0, 0))) (hrb : B ≤ rb) (hap : rv.ownBlock ≠ some rb)
    (hs : w.heap[sB]? = some (.cells (Array.replicate (4 * subs.length) (.int .u8 0)) 5 (0, 0)))
    (hi : subs[i]? = some p) (hN : subs.length ≤ 4096) (hW : Ws.length ≤ 900)
    (h1 : oW.comp.size ≤ 1048576) (h2 : oW.sn.size ≤ 1048576) (h3 : rW.comp.size ≤ 1048576) (h4 : rW.sn.size ≤ 1048576)
    (hk : k < 4294967296) (h32 : ∀ q ∈ subs, q.1 < 4294967296 ∧ q.2 < 4294967296) :
    Calls Try.prog 21 #[.pointer (some ⟨eB, 0, none⟩), .slice (some ⟨sB, 0, none⟩) (4 * subs.length) (4 * subs.length), .int .i64 (i : Int), .pointer (some ⟨rb, 0, none⟩), .agg #[.slice none 0 0, .int .u8 1, .int .u32 (k : Int), .int .u32 (supi : Int), .int .u32 0]] w fun e w' =>
      e = .returned (.tuple #[]) ∧ Hid (∃ v, v = outW rW k (agB subs i rW oW k supi p.2 subs.length && !spB i rW oW k subs.length) ∧ ExV B eB mr mw sv rv subs [no] rs rc (addW Ws v).1 w' ∧ w'.heap[rb]? = some (.cells (runCells (addW Ws v).2).toArray 102 (0, 0)) ∧ Fr B [94, 97, 102] [mw] w w') := by
  have hB := h.ex.lt
  have hil : i < subs.length := (List.getElem?_eq_some_iff.1 hi).1
  have kA : Kept [] w (w.alloc (.cells #[.slice none 0 0, .int .u8 1, .int .u32 (k : Int), .int .u32 (supi : Int), .int .u32 0] 112)) := (Kept.refl _ _).alloc _
  have hbox := heap_alloc_new w (.cells #[.slice none 0 0, .int .u8 1, .int .u32 (k : Int), .int .u32 (supi : Int), .int .u32 0] 112)
  obtain ⟨cs, wv, a1, a2, a3, a4, a5, a6, a7, a8, a9, a10, a11, a12⟩ := id h
  obtain ⟨gs, scap, rfl, hgs, hcS⟩ := row_get (f := subCells) (fun a => rfl) a7 hi
  obtain ⟨gw, wcap, rfl, hgw, hcW⟩ := row_get (f := fun a : Wt => a.arr.toList) (fun a => by simp [Wt.arr]) a9 hnr
  have hrowS : ∀ (j : Nat) (q : Nat × Nat), subs[j]? = some q → ∀ (t : Nat) (u : Value), (subCells q)[t]? = some u → w.cell? ⟨gs, j * 8 + t, none⟩ = some u := fun j q hq t u hu => by
    obtain ⟨g', c', e, -, hc⟩ := row_get (f := subCells) (fun a => rfl) a7 hq
    cases e
    exact hc t u hu
  have hrowW : ∀ (j : Nat) (v : Wt), Ws[j]? = some v → ∀ (t : Nat) (u : Value), v.arr.toList[t]? = some u → w.cell? ⟨gw, j * 7 + t, none⟩ = some u := fun j v hq t u hu => by
    obtain ⟨g', c', e, -, hc⟩ := row_get (f := fun a : Wt => a.arr.toList) (fun a => by simp [Wt.arr]) a9 hq
    cases e
    exact hc t u hu
  have hst : ∀ t, t < 4 * subs.length → w.cell? ⟨sB, t, none⟩ = some (.int .u8 0) := fun t ht => by
    rw [Lib.cell_of_heap hs]; simp [ht]
  have c14 := cell_get a1 a2
  have c22 := cell_get a1 a5
  have cr : w.cell? ⟨rb, 15, none⟩ = some (.int .u32 (nr : Int)) := cell_get hr rfl
  have HRS := hide hrowS
  have HRW := hide hrowW
  have HST := hide hst
  have HX := hide h
  have HR := hide (And.intro hr (And.intro hrb hap))
  have HS := hide hs
  have HBX := hide hbox
  have HKA := hide kA
  have HNO := hide hno
  have HNR := hide hnr
  have HI := hide hi
  have H14 := hide c14
  have H22 := hide c22
  have HCR := hide cr
  have H32 := hide h32
  clear a1 a2 a3 a4 a5 a6 a7 a8 a9 a10 a11 a12 hcS hcW hrowS hrowW hst h hr hrb hap hs hbox kA hno hnr hi cr h32
  have b1 := cell_get HBX.out (o := 1) rfl
  have b2 := cell_get HBX.out (o := 2) rfl
  have b3 := cell_get HBX.out (o := 3) rfl
  go_enter Try.func21, Try.ntmps21
  go_upto_block 0 with fail
  clear b1 b2 b3 c14 c22
  generalize hA : w.alloc (.cells #[.slice none 0 0, .int .u8 1, .int .u32 (k : Int), .int .u32 (supi : Int), .int .u32 0] 112) = A at *
  have HAE := hide hA
  clear hA
  go_cut [11] (fun ag W => ag = .bool (agB subs i rW oW k supi p.2 subs.length && !spB i rW oW k subs.length) ∧ Hid (Kept [] A W))
  case first =>
    have d14 := HKA.out.cell H14.out (by simp)
    go_wp2_with fail
    clear d14
    go_loopg [11, 12, 13, 14, 15, 29] subs.length (fun g ag _ _ _ _ c W => ∃ j, j ≤ subs.length ∧ g = subs.length - j ∧ c = .int .i64 (j : Int) ∧ ag = .bool (agB subs i rW oW k supi p.2 j) ∧ Hid (spB i rW oW k j = false ∧ Kept [] A W))
    case atStart => exact ⟨0, by omega, rfl, rfl, rfl, hide ⟨rfl, Kept.refl _ _⟩⟩
    case round =>
      obtain ⟨j, hj, rfl, rfl, rfl, HQ⟩ := hrel
      by_cases hlt : j < subs.length
      · have kR : Kept [] w wr := HKA.out.trans HQ.out.2
        obtain ⟨q, hq⟩ : ∃ q, subs[j]? = some q := ⟨subs[j], by simp [hlt]⟩
        have hq32 := H32.out q (List.mem_of_getElem? hq)
        have z0 : wr.cell? ⟨gs, j * 8, none⟩ = some _ := kR.cell (HRS.out j q hq 0 _ rfl) (by simp)
        have z1 := kR.cell (HRS.out j q hq 1 _ rfl) (by simp)
        have z2 := kR.cell (HRS.out j q hq 2 _ rfl) (by simp)
        have z3 := kR.cell (HRS.out j q hq 3 _ rfl) (by simp)
        have z4 := kR.cell (HRS.out j q hq 4 _ rfl) (by simp)
        have z5 := kR.cell (HRS.out j q hq 5 _ rfl) (by simp)
        have z6 := kR.cell (HRS.out j q hq 6 _ rfl) (by simp)
        have z7 := kR.cell (HRS.out j q hq 7 _ rfl) (by simp)
        have HQJ := hide hq
        clear hq
        have hk0 : (0 : Int) ≤ (j : Int) := by omega
        have hk1 : (j : Int) < (subs.length : Int) := by omega
        go_upto_if 37 with fail
        clear z0 z1 z2 z3 z4 z5 z6 z7
        have kV : Kept [] A (wr.alloc (.cells #[.int .u32 (q.1 : Int), .int .u32 0, .int .u32 (q.2 : Int), .pointer none, .int .u32 0, .int .u32 0, .int .i64 0, .int .i64 0] 107)) := HQ.out.2.alloc _
        have hV13 := heap_alloc_new wr (.cells #[.int .u32 (q.1 : Int), .int .u32 0, .int .u32 (q.2 : Int), .pointer none, .int .u32 0, .int .u32 0, .int .i64 0, .int .i64 0] 107)
        generalize wr.alloc (.cells #[.int .u32 (q.1 : Int), .int .u32 0, .int .u32 (q.2 : Int), .pointer none, .int .u32 0, .int .u32 0, .int .i64 0, .int .i64 0] 107) = V at *
        have HKV := hide kV
        have HV13 := hide hV13
        have HKR := hide kR
        clear kV hV13 kR
        go_cut [14] (fun o W => ∃ ob m : Nat, o = .pointer (some ⟨ob, 0, none⟩) ∧ Hid (Ws[m]? = some (wAt i rW oW j) ∧ W.cell? ⟨ob, 15, none⟩ = some (.int .u32 (m : Int)) ∧ Kept [] V W))
        case first =>
          by_cases hji : j = i
          · have hb : ((j : Int) != (i : Int)) = false := by simp [hji]
            go_wp2
            go_meet
            exact ⟨rb, nr, rfl, hide ⟨by rw [wAt, if_pos hji]; exact HNR.out, (HKA.out.trans HKV.out).cell HCR.out (by simp), Kept.refl _ _⟩⟩
          · have hb : ((j : Int) != (i : Int)) = true := by simp; omega
            go_wp2_with fail
            refine (runat_any B eB mr mw subs no rs rc Ws sB subs.length j V (HX.out.kept (HKA.out.trans HKV.out)).ex (fun t ht => (HKA.out.trans HKV.out).cell (HST.out t ht) (by simp)) hlt (by omega)).mono ?_
            rintro e w2 ⟨gr, kk, rfl, rfl, hc⟩
            have HC := hide hc
            clear hc
            go_wp2
            go_meet
            exact ⟨gr, no, rfl, hide ⟨by rw [wAt, if_neg hji]; exact HNO.out, HC.out, (Kept.refl _ _).drewN _⟩⟩
        case rest =>
          obtain ⟨ob, m, rfl, HO⟩ := hcut
          have hm : m < Ws.length := (List.getElem?_eq_some_iff.1 HO.out.1).1
          have hm0 : (0 : Int) ≤ (m : Int) := by omega
          have hm1 : (m : Int) < (Ws.length : Int) := by omega
          have c22 := (HKA.out.trans (HKV.out.trans HO.out.2.2)).cell H22.out (by simp)
          have c15 := HO.out.2.1
          go_wp2
          go_quiet (fail)
          clear c22 c15
          have kU : Kept [] V (wc.drewN nq) := HO.out.2.2.drewN _
          generalize wc.drewN nq = U at *
          have HKU := hide kU
          clear kU
          have hwa : (wAt i rW oW j).comp.size ≤ 1048576 ∧ (wAt i rW oW j).sn.size ≤ 1048576 := by
            unfold wAt; split
            · exact ⟨h3, h4⟩
            · exact ⟨h1, h2⟩
          have kAU : Kept [] A U := HKV.out.trans HKU.out
          have kwU : Kept [] w U := HKA.out.trans kAU
          have y1 := kwU.cell (HRW.out m _ HO.out.1 1 _ rfl) (by simp)
          have y3 := kwU.cell (HRW.out m _ HO.out.1 3 _ rfl) (by simp)
          have v0 : U.cell? ⟨wr.heap.size, 0, none⟩ = some (.int .u32 (q.1 : Int)) := HKU.out.cell (cell_get HV13.out (o := 0) rfl) (by simp)
          have b3 : U.cell? ⟨w.heap.size, 3, none⟩ = some (.int .u32 (supi : Int)) := kAU.cell (cell_get HBX.out (o := 3) rfl) (by simp)
          have c14 := kwU.cell H14.out (by simp)
          have s2 := kwU.cell (HRS.out i p HI.out 2 _ rfl) (by simp)
          have hi0 : (0 : Int) ≤ (i : Int) := by omega
          have hi1 : (i : Int) < (subs.length : Int) := by omega
          have HKAU := hide kAU
          have HKWU := hide kwU
          clear kAU kwU
          have hp32 := H32.out p (List.mem_of_getElem? HI.out)
          go_upto_region 11 with fail
          go_cut [74] (fun c W => c = .bool (decide (q.1 = supi) && holdsT (wAt i rW oW j).comp [k, p.2]) ∧ Hid (Kept [] U W))
          case first =>
            by_cases hqs : q.1 = supi
            · have hbq : ((q.1 : Int) == (supi : Int)) = true := by simp [hqs]
              have hdec : (decide (q.1 = supi) && holdsT (wAt i rW oW j).comp [k, p.2]) = holdsT (wAt i rW oW j).comp [k, p.2] := by simp [hqs]
              have HD := hide hdec
              clear hdec
              have hall : ∀ W, Kept [] U W → (W.cell? ⟨wr.heap.size, 0, none⟩ = some (.int .u32 (q.1 : Int)) ∧ W.cell? ⟨w.heap.size, 3, none⟩ = some (.int .u32 (supi : Int)) ∧ W.cell? ⟨gw, m * 7 + 1, none⟩ = some (.string (wAt i rW oW j).comp) ∧ W.cell? ⟨eB, 14, none⟩ = some (.slice (some ⟨gs, 0, none⟩) subs.length scap) ∧ W.cell? ⟨gs, i * 8 + 2, none⟩ = some (.int .u32 (p.2 : Int))) := fun W kW => ⟨kW.cell v0 (by simp), kW.cell b3 (by simp), kW.cell y1 (by simp), kW.cell c14 (by simp), kW.cell s2 (by simp)⟩
              have HALL := hide hall
              clear hall v0 b3 y1 c14 s2 y3
              go_region_held3 (fun W => W.cell? ⟨wr.heap.size, 0, none⟩ = some (.int .u32 (q.1 : Int)) ∧ W.cell? ⟨w.heap.size, 3, none⟩ = some (.int .u32 (supi : Int)) ∧ W.cell? ⟨gw, m * 7 + 1, none⟩ = some (.string (wAt i rW oW j).comp) ∧ W.cell? ⟨eB, 14, none⟩ = some (.slice (some ⟨gs, 0, none⟩) subs.length scap) ∧ W.cell? ⟨gs, i * 8 + 2, none⟩ = some (.int .u32 (p.2 : Int)))
                (first | exact HALL.out _ (Kept.refl _ _) | exact HALL.out _ (Kept.refl _ _).drew | exact HALL.out _ ((Kept.refl _ _).drew.alloc _) | exact HALL.out _ (((Kept.refl _ _).drew.alloc _).trans (kept_of_below BL2.out)))
                (first | (go_at_call 24; refine (holds_any (wAt i rW oW j).comp _ [k, p.2] _ hwa.1 (by exact two_new _ _ _ _) (by simp) (by intro t ht; simp at ht; rcases ht with rfl | rfl <;> omega) (by simp) (by simp)).mono ?_; rintro e w2 ⟨rfl, bl2⟩; have BL2 := hide bl2; clear bl2))
              all_goals (go_wp2_with fail; go_meet; exact ⟨by rw [HD.out], hide (((Kept.refl _ _).drew.alloc _).trans (kept_of_below BL2.out))⟩)
            · have hbq : ((q.1 : Int) == (supi : Int)) = false := by simp; omega
              have hdec : (decide (q.1 = supi) && holdsT (wAt i rW oW j).comp [k, p.2]) = false := by simp [hqs]
              have HD := hide hdec
              clear hdec
              go_quiet (fail)
              all_goals (go_wp2_with fail; go_meet; exact ⟨by rw [HD.out], hide ((Kept.refl _ _).drewN _)⟩)
          case rest =>
            obtain ⟨rfl, HC⟩ := hcut
            clear y1 v0 b3 c14 s2
            have y3' := HC.out.cell y3 (by simp)
            clear y3
            have hsucc := agB_succ subs i rW oW k supi p.2 j
            have hsucc2 := spB_succ i rW oW k j
            have hq0 : (subs.getD j (0, 0)).1 = q.1 := by rw [List.getD_eq_getElem?_getD, HQJ.out]; rfl
            rw [hq0] at hsucc
            cases hc : (decide (q.1 = supi) && holdsT (wAt i rW oW j).comp [k, p.2])
            all_goals
              rw [hc] at hsucc
              have HSU := hide (And.intro hsucc hsucc2)
              clear hsucc hsucc2 hc hq0
              go_wp2_with fail
              refine (holds_any (wAt i rW oW j).sn _ [k] _ hwa.2 (by exact one_new _ _ _) (by simp) (by intro t ht; simp at ht; omega) (by simp) (by simp)).mono ?_
              rintro e w3 ⟨rfl, bl3⟩
              have K3 := hide (HKAU.out.trans (HC.out.trans (((Kept.refl _ _).alloc _).trans (kept_of_below bl3))))
              clear bl3 y3'
              cases hsn : holdsT (wAt i rW oW j).sn [k]
              · have e1 := HSU.out.1
                have e2 := HSU.out.2
                rw [hsn] at e2
                have E12 := hide (And.intro e1 e2)
                clear e1 e2 hsn HSU
                go_wp2
                go_roundg (subs.length - (j + 1))
                case measure => omega
                case rel => exact ⟨j + 1, by omega, rfl, by go_num, by rw [E12.out.1]; simp, hide ⟨by rw [E12.out.2, HQ.out.1]; rfl, K3.out⟩⟩
              · have e2 := HSU.out.2
                rw [hsn] at e2
                have E2 := hide e2
                clear e2 hsn HSU
                go_wp2
                go_meet
                exact ⟨by rw [spB_le i rW oW k (j + 1) subs.length (by rw [E2.out]; simp) (by omega)]; simp, K3⟩
      · obtain rfl : j = subs.length := by omega
        have hiz : ¬ ((subs.length : Int) < (subs.length : Int)) := by omega
        go_wp2
        go_meet
        exact ⟨by rw [HQ.out.1]; simp, hide HQ.out.2⟩
  case rest =>
    obtain ⟨rfl, HK⟩ := hcut
    obtain ⟨v, hv⟩ : ∃ v, v = outW rW k (agB subs i rW oW k supi p.2 subs.length && !spB i rW oW k subs.length) := ⟨_, rfl⟩
    generalize hX0 : (agB subs i rW oW k supi p.2 subs.length && !spB i rW oW k subs.length) = X at *
    have HX0 := hide hX0
    clear hX0
    generalize wc = C at *
    have HVV := hide hv
    clear hv
    have kwc : Kept [] w C := HKA.out.trans HK.out
    have HXC := hide (HX.out.kept kwc)
    have HRC := hide (kwc.at HR.out.1 (by simp))
    have HKC := hide kwc
    have c22 := kwc.cell H22.out (by simp)
    have cr := kwc.cell HCR.out (by simp)
    have y0 : C.cell? ⟨gw, nr * 7, none⟩ = some (.string rW.iss) := kwc.cell (HRW.out nr _ HNR.out 0 _ rfl) (by simp)
    have y1 : C.cell? ⟨gw, nr * 7 + 1, none⟩ = some (.string rW.comp) := kwc.cell (HRW.out nr _ HNR.out 1 _ rfl) (by simp)
    have y2 : C.cell? ⟨gw, nr * 7 + 2, none⟩ = some (.string rW.ue) := kwc.cell (HRW.out nr _ HNR.out 2 _ rfl) (by simp)
    have y3 : C.cell? ⟨gw, nr * 7 + 3, none⟩ = some (.string rW.sn) := kwc.cell (HRW.out nr _ HNR.out 3 _ rfl) (by simp)
    have y4 : C.cell? ⟨gw, nr * 7 + 4, none⟩ = some (.string rW.fl) := kwc.cell (HRW.out nr _ HNR.out 4 _ rfl) (by simp)
    have y5 : C.cell? ⟨gw, nr * 7 + 5, none⟩ = some (.int .u8 rW.ans) := kwc.cell (HRW.out nr _ HNR.out 5 _ rfl) (by simp)
    have y6 : C.cell? ⟨gw, nr * 7 + 6, none⟩ = some (.int .u16 rW.brk) := kwc.cell (HRW.out nr _ HNR.out 6 _ rfl) (by simp)
    have hnl : nr < Ws.length := (List.getElem?_eq_some_iff.1 HNR.out).1
    have hn0 : (0 : Int) ≤ (nr : Int) := by omega
    have hn1 : (nr : Int) < (Ws.length : Int) := by omega
    clear kwc HK HKA HBX HAE HRS HRW HST HX HS H14 H22 HCR H32 HI HNO HNR
    have hgwc : gw < C.heap.size := Nat.lt_of_lt_of_le hgw HKC.out.size
    have hrbc : rb < C.heap.size := lt_of_heap HRC.out
    have hebc : eB < C.heap.size := HXC.out.ex.lt.2.1
    go_upto_region 16 with fail
    go_cut [16] (fun o W => o = .pointer (some ⟨C.heap.size, 0, none⟩) ∧ Hid (W.heap[C.heap.size]? = some (.cells #[.string rW.iss, .string rW.comp, .string rW.ue, .string rW.sn, .string rW.fl, .int .u8 rW.ans, .int .u16 rW.brk] 97 (0, 0)) ∧ Kept [] C W))
    case first =>
      go_region
      all_goals (go_wp2_with fail; go_meet; exact ⟨rfl, hide ⟨by exact heap_alloc_new C.drew _, (Kept.refl _ _).drew.alloc _⟩⟩)
    case rest =>
      obtain ⟨rfl, H1⟩ := hcut
      clear c22 cr y0 y1 y2 y3 y4 y5 y6
      generalize wc = W1 at *
      generalize hb : C.heap.size = b at *
      have x6 : W1.cell? ⟨b, 6, none⟩ = some (.int .u16 rW.brk) := cell_get H1.out.1 rfl
      have f6 : W1.frozen? ⟨b, 6, none⟩ = false := Lib.frozen_of_heap H1.out.1 6
      have hbl : b < W1.heap.size := lt_of_heap H1.out.1
      go_upto_if 95 with fail
      go_cut [16] (fun o W => o = .pointer (some ⟨b, 0, none⟩) ∧ Hid (W.heap[b]? = some (.cells #[.string rW.iss, .string rW.comp, .string rW.ue, .string rW.sn, .string rW.fl, .int .u8 rW.ans, .int .u16 v.brk] 97 (0, 0)) ∧ Kept [] C W))
      case first =>
        cases X with
        | true =>
          go_wp2
          go_meet
          exact ⟨rfl, hide ⟨by rw [HVV.out]; exact H1.out.1, H1.out.2⟩⟩
        | false =>
          go_wp2_with fail
          go_region_with (first | (go_at_call 25; refine (bit_any _).mono ?_; rintro e w2 ⟨rfl, rfl⟩))
          all_goals (go_wp2_with fail; go_meet; exact ⟨rfl, hide ⟨by rw [HVV.out]; exact Lib.heap_setCell_same (i := 6) (by exact H1.out.1) _, (H1.out.2.drew).setNew (by rw [hb]; exact Nat.le_refl b) _⟩⟩)
      case rest =>
        obtain ⟨rfl, H2⟩ := hcut
        clear x6 f6 hbl
        generalize wc = W2 at *
        have x3 : W2.cell? ⟨b, 3, none⟩ = some (.string rW.sn) := cell_get H2.out.1 rfl
        have f3 : W2.frozen? ⟨b, 3, none⟩ = false := Lib.frozen_of_heap H2.out.1 3
        have hbl : b < W2.heap.size := lt_of_heap H2.out.1
        have hps : (packS [k]).size = 4 := by rw [Lib.size_eq]; exact packL_length [k]
        have hsz : ¬ (9223372036854775807 < rW.sn.size + (packS [k]).size) := by omega
        have hsz2 : ¬ (9223372036854775807 < (rW.sn.size : Int) + ((packS [k]).size : Int)) := by omega
        clear hps
        go_upto_region 19 with fail
        go_cut [16] (fun o W => o = .pointer (some ⟨b, 0, none⟩) ∧ Hid (W.heap[b]? = some (.cells #[.string v.iss, .string v.comp, .string v.ue, .string v.sn, .string v.fl, .int .u8 v.ans, .int .u16 v.brk] 97 (0, 0)) ∧ Kept [] C W))
        case first =>
          go_region_with (first | (go_at_call 26; refine (pack_any _ [k] _ (by exact one_new _ _ _) (by simp) (by intro t ht; simp at ht; omega) (by simp) (by simp)).mono ?_; rintro e w2 ⟨rfl, bl2⟩; have hb2 := (bl2.block b (by simp; omega)).trans ((Below.heap_alloc W2 _ b hbl).trans H2.out.1); have x3b : w2.cell? ⟨b, 3, none⟩ = some (.string rW.sn) := cell_get hb2 rfl; have f3b : w2.frozen? ⟨b, 3, none⟩ = false := Lib.frozen_of_heap hb2 3; have HB2 := hide (And.intro hb2 bl2); clear hb2 bl2))
          all_goals (go_wp2_with fail; go_meet; exact ⟨rfl, hide ⟨by rw [HVV.out]; rw [HVV.out] at HB2; exact Lib.heap_setCell_same (i := 3) HB2.out.1 _, (H2.out.2.trans (((Kept.refl _ _).drew.alloc _).trans (kept_of_below HB2.out.2))).setNew (by rw [hb]; exact Nat.le_refl b) _⟩⟩)
        case rest =>
          obtain ⟨rfl, H3⟩ := hcut
          clear x3 f3 hbl
          generalize wc = W3 at *
          have x0 : W3.cell? ⟨b, 0, none⟩ = some (.string v.iss) := cell_get H3.out.1 rfl
          have x1 : W3.cell? ⟨b, 1, none⟩ = some (.string v.comp) := cell_get H3.out.1 rfl
          have x2 : W3.cell? ⟨b, 2, none⟩ = some (.string v.ue) := cell_get H3.out.1 rfl
          have x3 : W3.cell? ⟨b, 3, none⟩ = some (.string v.sn) := cell_get H3.out.1 rfl
          have x4 : W3.cell? ⟨b, 4, none⟩ = some (.string v.fl) := cell_get H3.out.1 rfl
          have x5 : W3.cell? ⟨b, 5, none⟩ = some (.int .u8 v.ans) := cell_get H3.out.1 rfl
          have x6 : W3.cell? ⟨b, 6, none⟩ = some (.int .u16 v.brk) := cell_get H3.out.1 rfl
          have HX3 := hide (HXC.out.kept H3.out.2)
          have HR3 := hide (H3.out.2.at HRC.out (by simp))
          have HF3 := hide (Fr.nil (B := B) (T := [94, 97, 102]) (M := [mw]) (HKC.out.trans H3.out.2) hB.2.2.2)
          go_upto_region 20 with fail
          go_region_with (first | (go_at_call 19; refine (id_exV B eB mr mw _ rv subs [no] rs rc Ws v _ (by exact HX3.out) (by omega)).mono ?_; rintro e w2 ⟨rfl, hx2, fr2⟩; have hr2 := fr2.tag _ _ _ _ (by exact HR3.out) (by decide); have cr2 := cell_get hr2 (o := 15) rfl; have fr15 : w2.frozen? ⟨rb, 15, none⟩ = false := Lib.frozen_of_heap hr2 15; have HE2 := hide (And.intro hx2 (And.intro hr2 fr2)); clear hx2 hr2 fr2))
          all_goals
            go_wp2
            refine bodyPost_end (results_none rfl _ _ _) rfl ?_
            refine ⟨rfl, hide ⟨v, by rw [HX0.out]; exact HVV.out, HE2.out.1.set HE2.out.2.1 HR.out.2.2 15 _, Lib.heap_setCell_same (i := 15) HE2.out.2.1 _, ?_⟩⟩
            have hf2 : Fr B [94, 97, 102] [mw] w _ := HF3.out.drew.trans (HE2.out.2.2.mono (by simp) (by simp))
            exact hf2.setCell (by exact HE2.out.2.1) HR.out.2.1 (by simp) 15 _

end Go.Proofs.Qxb6613471a
