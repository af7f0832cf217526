/- The shelf's laying of bytes.Buffer's String and WriteString at this program, in plain words (written by the kit's lay-plain tool). -/
import Derived.Shelf.LaysM
import Derived.Shelf.Bytes.String
import Derived.Shelf.Bytes.BufferK
import Derived.Test.Qxb6613067aDoorProg
namespace Go.Proofs
open Go.Shelf
def Tryd.laysM182_ren : Go.Shelf.Ren := ⟨fun | 182 => 35 | n => n, fun | 130 => 49 | 9 => 9 | 4 => 4 | 0 => 0 | 93 => 67 | 37 => 42 | 3 => 3 | 91 => 65 | 5 => 5 | n => n, fun | n => n⟩
theorem Tryd.laysM182 : Go.Proofs.LaysM.n182 Tryd.prog Tryd.laysM182_ren := {
  mixed := by kernel_rfl
  f182 := Tryd.func35.trans (congrArg some (by kernel_rfl))
  t0 := Tryd.underlying0
  a0 := Tryd.isAgg0
  z0 := Tryd.sizeOf0
  v0 := Tryd.zeroValue0
  t3 := Tryd.underlying3
  a3 := Tryd.isAgg3
  z3 := Tryd.sizeOf3
  v3 := Tryd.zeroValue3
  t4 := Tryd.underlying4
  a4 := Tryd.isAgg4
  z4 := Tryd.sizeOf4
  v4 := Tryd.zeroValue4
  t9 := Tryd.underlying9
  a9 := Tryd.isAgg9
  z9 := Tryd.sizeOf9
  v9 := Tryd.zeroValue9
  t37 := Tryd.underlying42
  a37 := Tryd.isAgg42
  z37 := Tryd.sizeOf42
  v37 := Tryd.zeroValue42
  t93 := Tryd.underlying67
  a93 := Tryd.isAgg67
  z93 := Tryd.sizeOf67
  v93 := Tryd.zeroValue67
  t130 := Tryd.underlying49
  a130 := Tryd.isAgg49
  z130 := Tryd.sizeOf49
  v130 := Tryd.zeroValue49
  t5 := Tryd.underlying5
  a5 := Tryd.isAgg5
  z5 := Tryd.sizeOf5
  v5 := Tryd.zeroValue5
  t91 := Tryd.underlying65
  a91 := Tryd.isAgg65
  z91 := Tryd.sizeOf65
  v91 := Tryd.zeroValue65
  i0 := by kernel_rfl
  i3 := by kernel_rfl
  i4 := by kernel_rfl
  i5 := by kernel_rfl
  i9 := by kernel_rfl
  i37 := by kernel_rfl
  i91 := by kernel_rfl
  i93 := by kernel_rfl
  i130 := by kernel_rfl }
open Go.RowKit in
/-- (*bytes.Buffer).String: "String returns the contents of the unread portion of the buffer as a string.": THE BYTES THAT WERE WRITTEN. The world is as it was but for the count of draws (the statement has two reads: its order is drawn). (LAID: no walk: one application.) -/
theorem Tryd.Buffer_String (B b : Nat) (l : List UInt8) (w : World) (h : Lib.IsBuffer 67 5 B b (Lib.byteCells l) w) :
    Calls Tryd.prog 35 #[.pointer (some ⟨b, 0, none⟩)] w fun e w' => e = .returned (.string ⟨l.toArray⟩) ∧ ∃ n, w' = w.drewN n := Any.Buffer_String Tryd.laysM182 B b l w h
def Tryd.laysM178_ren : Go.Shelf.Ren := ⟨fun | 178 => 73 | 251 => 75 | 252 => 76 | 181 => 77 | 184 => 71 | 290 => 78 | 324 => 79 | n => n, fun | 130 => 49 | 9 => 9 | 3 => 3 | 75 => 44 | 0 => 0 | 93 => 67 | 91 => 65 | 131 => 121 | 4 => 4 | 37 => 42 | 20 => 20 | 80 => 29 | 5 => 5 | n => n, fun | 14 => 6 | n => n⟩
theorem Tryd.laysM178 : Go.Proofs.LaysM.n178 Tryd.prog Tryd.laysM178_ren := {
  mixed := by kernel_rfl
  f178 := Tryd.func73.trans (congrArg some (by kernel_rfl))
  f181 := Tryd.func77.trans (congrArg some (by kernel_rfl))
  f184 := Tryd.func71.trans (congrArg some (by kernel_rfl))
  f251 := Tryd.func75.trans (congrArg some (by kernel_rfl))
  f252 := Tryd.func76.trans (congrArg some (by kernel_rfl))
  f290 := Tryd.func78.trans (congrArg some (by kernel_rfl))
  f324 := Tryd.func79.trans (congrArg some (by kernel_rfl))
  t0 := Tryd.underlying0
  a0 := Tryd.isAgg0
  z0 := Tryd.sizeOf0
  v0 := Tryd.zeroValue0
  t3 := Tryd.underlying3
  a3 := Tryd.isAgg3
  z3 := Tryd.sizeOf3
  v3 := Tryd.zeroValue3
  t4 := Tryd.underlying4
  a4 := Tryd.isAgg4
  z4 := Tryd.sizeOf4
  v4 := Tryd.zeroValue4
  t9 := Tryd.underlying9
  a9 := Tryd.isAgg9
  z9 := Tryd.sizeOf9
  v9 := Tryd.zeroValue9
  t20 := Tryd.underlying20
  a20 := Tryd.isAgg20
  z20 := Tryd.sizeOf20
  v20 := Tryd.zeroValue20
  t37 := Tryd.underlying42
  a37 := Tryd.isAgg42
  z37 := Tryd.sizeOf42
  v37 := Tryd.zeroValue42
  t75 := Tryd.underlying44
  a75 := Tryd.isAgg44
  z75 := Tryd.sizeOf44
  v75 := Tryd.zeroValue44
  t91 := Tryd.underlying65
  a91 := Tryd.isAgg65
  z91 := Tryd.sizeOf65
  v91 := Tryd.zeroValue65
  t93 := Tryd.underlying67
  a93 := Tryd.isAgg67
  z93 := Tryd.sizeOf67
  v93 := Tryd.zeroValue67
  t130 := Tryd.underlying49
  a130 := Tryd.isAgg49
  z130 := Tryd.sizeOf49
  v130 := Tryd.zeroValue49
  t131 := Tryd.underlying121
  a131 := Tryd.isAgg121
  z131 := Tryd.sizeOf121
  v131 := Tryd.zeroValue121
  g14 := by kernel_rfl
  t5 := Tryd.underlying5
  a5 := Tryd.isAgg5
  z5 := Tryd.sizeOf5
  v5 := Tryd.zeroValue5
  t80 := Tryd.underlying29
  a80 := Tryd.isAgg29
  z80 := Tryd.sizeOf29
  v80 := Tryd.zeroValue29
  i0 := by kernel_rfl
  i3 := by kernel_rfl
  i4 := by kernel_rfl
  i5 := by kernel_rfl
  i9 := by kernel_rfl
  i20 := by kernel_rfl
  i37 := by kernel_rfl
  i75 := by kernel_rfl
  i80 := by kernel_rfl
  i91 := by kernel_rfl
  i93 := by kernel_rfl
  i130 := by kernel_rfl
  i131 := by kernel_rfl
  m14 := by kernel_rfl }
open Go.RowKit in
theorem Tryd.Buffer_WriteString_k (B b : Nat) (bs : List Value) (s : ByteArray) (w : World) (h : Lib.IsBuffer 67 5 B b bs w) (hBw : B ≤ w.heap.size) (h1 : ∀ v ∈ bs, v.oneCell' = true) (hlim : bs.length + s.size ≤ 140737488355328) :
    Calls Tryd.prog 73 #[.pointer (some ⟨b, 0, none⟩), .string s] w fun e w' => e = .returned (.tuple #[.int .i64 s.size, .nilIface]) ∧ Lib.IsBuffer 67 5 B b (bs ++ Lib.byteCells s.data.toList) w' ∧ Below B w w' ∧ Lib.OthersKept 5 (some b) w w' := Any.Buffer_WriteString_k Tryd.laysM178 B b bs s w h hBw h1 hlim
end Go.Proofs
