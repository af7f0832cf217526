import Derived.Test.Qxb6613471aFd
import Derived.Laws.StructEq
namespace Go.Proofs.Qxb6613471a
open Go.RowKit

/-- A watch. -/
structure Wt where
  iss : ByteArray
  comp : ByteArray
  ue : ByteArray
  sn : ByteArray
  fl : ByteArray
  ans : Int
  brk : Int

/-- Its seven cells. -/
def Wt.arr (a : Wt) : Array Value := #[.string a.iss, .string a.comp, .string a.ue, .string a.sn, .string a.fl, .int .u8 a.ans, .int .u16 a.brk]
/-- Are two watches equal? -/
def Wt.eq (a b : Wt) : Bool := (a.iss.toList == b.iss.toList) && (a.comp.toList == b.comp.toList) && (a.ue.toList == b.ue.toList) && (a.sn.toList == b.sn.toList) && (a.fl.toList == b.fl.toList) && (a.ans == b.ans) && (a.brk == b.brk)

theorem bytes_inj {a b : ByteArray} (h : a.toList = b.toList) : a = b := by
  rw [Lib.toList_data, Lib.toList_data] at h
  apply ByteArray.ext
  exact Array.toList_inj.1 h
theorem Wt.eq_iff (a b : Wt) : a.eq b = true ↔ a = b := by
  constructor
  · intro h
    simp only [Wt.eq, Bool.and_eq_true, beq_iff_eq] at h
    obtain ⟨⟨⟨⟨⟨⟨h1, h2⟩, h3⟩, h4⟩, h5⟩, h6⟩, h7⟩ := h
    cases a; cases b
    simp only [Wt.mk.injEq]
    exact ⟨bytes_inj h1, bytes_inj h2, bytes_inj h3, bytes_inj h4, bytes_inj h5, h6, h7⟩
  · rintro rfl
    simp [Wt.eq]

theorem fields97 : Try.prog.underlying 97 = some (.struct (Try.prog.fieldsOf 97)) := by kernel_rfl
theorem held97 : Try.prog.stoodInHeld 97 = false := by kernel_rfl

theorem equal97 (a b : Wt) (w : World) : (Op.equal 97 (.agg a.arr) (.agg b.arr)).run Try.prog w = .ok (a.eq b) w := by
  simp only [Op.equal, Op.maxDepth]
  rw [run_equalIn_agg w 9999 97 _ _ fields97 held97]
  simp [Program.fieldsOf, Try.underlying97, Wt.arr, go_sem, Try.underlying9, Try.underlying5, Try.underlying23]
  (repeat' split) <;> simp_all [Wt.eq]

theorem check97 (e : Bool) (a : Wt) (w : World) : (Instr.checkKey e 10000 97 (.agg a.arr)).run Try.prog w = .ok () w := by kernel_rfl

/-- The map's entries: each watch under its number. -/
def ent (i : Nat) (a : Wt) : MapEntry := { key := .agg a.arr, val := .int .u32 (i : Int), born := i }
def entsFrom : Nat → List Wt → List MapEntry
  | _, [] => []
  | i, a :: r => ent i a :: entsFrom (i + 1) r
/-- The number of v among Ws, if any. -/
def idxFrom (v : Wt) : Nat → List Wt → Option Nat
  | _, [] => none
  | i, a :: r => if v.eq a then some i else idxFrom v (i + 1) r

theorem entsFrom_length (i : Nat) (Ws : List Wt) : (entsFrom i Ws).length = Ws.length := by
  induction Ws generalizing i with
  | nil => rfl
  | cons a r ih => simp [entsFrom, ih]
theorem entsFrom_snoc (i : Nat) (Ws : List Wt) (v : Wt) : entsFrom i (Ws ++ [v]) = entsFrom i Ws ++ [ent (i + Ws.length) v] := by
  induction Ws generalizing i with
  | nil => simp [entsFrom]
  | cons a r ih =>
    simp only [List.cons_append, entsFrom, ih, List.length_cons]
    rw [show i + 1 + r.length = i + (r.length + 1) from by omega]

theorem ask97 (v : Wt) (w : World) : ∀ (Ws : List Wt) (i j : Nat), (Instr.findAsking 97 (.agg v.arr) (entsFrom i Ws) j).run Try.prog w = .ok ((idxFrom v 0 Ws).map fun k => (j + k, .int .u32 ((i + k : Nat) : Int))) w
  | [], i, j => by simp [entsFrom, Instr.findAsking, idxFrom]
  | a :: r, i, j => by
    have ih := ask97 v w r (i + 1) (j + 1)
    have sh : ∀ (l : List Wt) (n : Nat), idxFrom v (n + 1) l = (idxFrom v n l).map (· + 1) := by
      intro l
      induction l with
      | nil => intro n; rfl
      | cons b l ihl => intro n; simp only [idxFrom]; split
                        · rfl
                        · exact ihl (n + 1)
    simp only [entsFrom, Instr.findAsking, Sem.run_bind, ent, equal97, Result.andThen_ok, idxFrom]
    cases hh : v.eq a with
    | true => simp
    | false =>
      simp only [Bool.false_eq_true, if_false]
      rw [ih, sh]
      cases idxFrom v 0 r with
      | none => rfl
      | some k => simp; omega

theorem findKey97 (v : Wt) (w : World) (Ws : List Wt) : (Instr.findKey 97 (.agg v.arr) (entsFrom 0 Ws)).run Try.prog w = .ok ((idxFrom v 0 Ws).map fun k => (k, .int .u32 ((k : Nat) : Int))) w := by
  cases Ws with
  | nil => simp [Instr.findKey, run_underlying Try.underlying97, entsFrom, Instr.findNow, idxFrom]
  | cons a r =>
    have h := ask97 v w (a :: r) 0 0
    simp only [Nat.zero_add] at h
    simp only [Instr.findKey, Sem.run_bind, run_underlying Try.underlying97, Result.andThen_ok, entsFrom, Instr.findNow, Instr.sameNow, ent]
    simpa [entsFrom, ent] using h

/-- The world with another object in one block. -/
def putO (w : World) (b : Nat) (o : Obj) : World := { w with heap := w.heap.setIfInBounds b o }
theorem putO_same {w : World} {b : Nat} {o p : Obj} (h : w.heap[b]? = some p) : (putO w b o).heap[b]? = some o := by
  simp [putO, lt_of_heap h]
theorem putO_other {w : World} {b k : Nat} {o : Obj} (h : k ≠ b) : (putO w b o).heap[k]? = w.heap[k]? := by
  simp only [putO]; rw [Array.getElem?_setIfInBounds_ne (Ne.symm h)]
theorem Kept.putO {S : List Nat} {a w : World} (h : Kept S a w) {b : Nat} (hb : b ∈ S) (o : Obj) : Kept S a (putO w b o) :=
  h.trans ⟨rfl, rfl, rfl, by simp [Go.Proofs.Qxb6613471a.putO], fun k _ hk => putO_other (fun e => hk (e ▸ hb))⟩

/-- A look-up in the map of watches. -/
theorem look97 (v : Wt) (w : World) (mw : Nat) (Ws : List Wt) (hm : w.heap[mw]? = some (.map (entsFrom 0 Ws).toArray Ws.length)) :
    (Instr.lookup 48 (.map (some mw)) (.agg v.arr) true).run Try.prog w = .ok (.tuple #[.int .u32 (((idxFrom v 0 Ws).getD 0 : Nat) : Int), .bool (idxFrom v 0 Ws).isSome]) w := by
  have h1 := findKey97 v w Ws
  have hg : (getObj mw).run Try.prog w = .ok (.map (entsFrom 0 Ws).toArray Ws.length) w := by simp [getObj, Sem.run, hm]
  simp only [Instr.lookup, Sem.run_bind, run_underlying Try.underlying48, Result.andThen_ok, hg, check97, Sem.run_pure, h1]
  cases idxFrom v 0 Ws with
  | none => simp
  | some k => simp

/-- A store of a new watch. -/
theorem upd97 (v : Wt) (w : World) (mw : Nat) (Ws : List Wt) (hm : w.heap[mw]? = some (.map (entsFrom 0 Ws).toArray Ws.length)) (hno : idxFrom v 0 Ws = none) :
    (Instr.mapUpdate 48 (.map (some mw)) (.agg v.arr) (.int .u32 (Ws.length : Int))).run Try.prog w = .ok () (putO w mw (.map (entsFrom 0 (Ws ++ [v])).toArray (Ws ++ [v]).length)) := by
  have h1 := findKey97 v w Ws
  have hg : (getObj mw).run Try.prog w = .ok (.map (entsFrom 0 Ws).toArray Ws.length) w := by simp [getObj, Sem.run, hm]
  have hs : (setObj mw (.map (entsFrom 0 (Ws ++ [v])).toArray (Ws ++ [v]).length)).run Try.prog w = .ok () (putO w mw (.map (entsFrom 0 (Ws ++ [v])).toArray (Ws ++ [v]).length)) := by simp [setObj, Sem.run, hm, putO]
  have e : (entsFrom 0 Ws).toArray.push { key := .agg v.arr, val := .int .u32 (Ws.length : Int), born := Ws.length } = (entsFrom 0 (Ws ++ [v])).toArray := by
    rw [entsFrom_snoc, Nat.zero_add]; simp [ent]
  rw [hno] at h1
  rw [← hs]
  simp only [Instr.mapUpdate, Sem.run_bind, run_underlying Try.underlying48, Result.andThen_ok, hg, check97, h1, Option.map_none]
  rw [e, List.length_append]
  rfl

end Go.Proofs.Qxb6613471a
