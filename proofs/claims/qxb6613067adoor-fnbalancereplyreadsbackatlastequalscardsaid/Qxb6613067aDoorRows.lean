/-
  NARROWER THAN 'FOR EVERY INPUT', by the rows' own cells (each row's printed sentence says how): FnBalanceReplyReadsBackAtLastEquals: laid · FnBalanceReplyPartsDependOnOneArgumentEach: laid · FnNewLineReaderFreshState: laid · FnBlocksIgnoreLineLimit: laid · FnWriteLineReadBackAsBlocks: laid.
  DERIVED. THE GIVEN ROWS OF THIS SEAT. 5 by the template 'for every input the law returns true; each argument reads behind the call as it read before'; 0 by the template 'total and deterministic' (their statements: Qxb6613067aDoorTotals.lean).
  GIVEN WITH THE SEED: the statements are not yours to turn. If you find one false, say at which input.
  Laid BY PROGRAM, IN A SANDBOX (cutbox-rows.mjs): the forced cells as the released guide's own fill.sh prints them over the translation 213552e5e5e90eff… (all of the seat's roots in one cut). By AI agents, Wed Nov 11 2026. No macro, syntax, notation, axiom, sorry.
-/
import Derived.Test.Qxb6613067aDoorChecked
import GoSem.Claim
import GoSem.ClaimJoined
import GoSem.ClaimMapViews
import Derived.JoinedTies
import Derived.KernelRfl
namespace Go.Proofs.Qxb6613067aDoor
/- THE CELL 'sum', in the pinned program and in every row, IS THE sha256 OF THE DUMP (.gsa) THAT Qxb6613067aDoorProg.lean LOADS. Nothing in Lean hashes anything: it is a label: what it is worth is what the hold of that sum in a sandbox is worth. -/
noncomputable def Tryd.pinned : Pinned := { name := "qxb6613067adoor", sum := "213552e5e5e90eff0773692034ca0c6a648e0389f870466c492b4091904a12a9", checked := Tryd.checked }
namespace Rows
def none {H : Type} : Left H := { results := [], args := [] }

/- WHAT THE LISTED PACKAGE-LEVEL VARIABLES READ AS WHEN THE CALL BEGINS. Each datum BY PROGRAM (the guide's laid-datum.mjs) off the statement by which the dump's own 'gosem.cut.vars' lays the variable. In a bare row this is a premise. The card (Qxb6613067aDoorCards.lean) ties it to the program's text. -/
def laid_math_bits_deBruijn32tab {H : Type} : DataW H := .agg [.lit (.int .u8 0), .lit (.int .u8 1), .lit (.int .u8 28), .lit (.int .u8 2), .lit (.int .u8 29), .lit (.int .u8 14), .lit (.int .u8 24), .lit (.int .u8 3), .lit (.int .u8 30), .lit (.int .u8 22), .lit (.int .u8 20), .lit (.int .u8 15), .lit (.int .u8 25), .lit (.int .u8 17), .lit (.int .u8 4), .lit (.int .u8 8), .lit (.int .u8 31), .lit (.int .u8 27), .lit (.int .u8 13), .lit (.int .u8 23), .lit (.int .u8 21), .lit (.int .u8 19), .lit (.int .u8 16), .lit (.int .u8 7), .lit (.int .u8 26), .lit (.int .u8 12), .lit (.int .u8 18), .lit (.int .u8 6), .lit (.int .u8 11), .lit (.int .u8 5), .lit (.int .u8 10), .lit (.int .u8 9)]
def laid_math_bits_deBruijn64tab {H : Type} : DataW H := .agg [.lit (.int .u8 0), .lit (.int .u8 1), .lit (.int .u8 56), .lit (.int .u8 2), .lit (.int .u8 57), .lit (.int .u8 49), .lit (.int .u8 28), .lit (.int .u8 3), .lit (.int .u8 61), .lit (.int .u8 58), .lit (.int .u8 42), .lit (.int .u8 50), .lit (.int .u8 38), .lit (.int .u8 29), .lit (.int .u8 17), .lit (.int .u8 4), .lit (.int .u8 62), .lit (.int .u8 47), .lit (.int .u8 59), .lit (.int .u8 36), .lit (.int .u8 45), .lit (.int .u8 43), .lit (.int .u8 51), .lit (.int .u8 22), .lit (.int .u8 53), .lit (.int .u8 39), .lit (.int .u8 33), .lit (.int .u8 30), .lit (.int .u8 24), .lit (.int .u8 18), .lit (.int .u8 12), .lit (.int .u8 5), .lit (.int .u8 63), .lit (.int .u8 55), .lit (.int .u8 48), .lit (.int .u8 27), .lit (.int .u8 60), .lit (.int .u8 41), .lit (.int .u8 37), .lit (.int .u8 16), .lit (.int .u8 46), .lit (.int .u8 35), .lit (.int .u8 44), .lit (.int .u8 21), .lit (.int .u8 52), .lit (.int .u8 32), .lit (.int .u8 23), .lit (.int .u8 11), .lit (.int .u8 54), .lit (.int .u8 26), .lit (.int .u8 40), .lit (.int .u8 15), .lit (.int .u8 34), .lit (.int .u8 20), .lit (.int .u8 31), .lit (.int .u8 10), .lit (.int .u8 25), .lit (.int .u8 14), .lit (.int .u8 19), .lit (.int .u8 9), .lit (.int .u8 13), .lit (.int .u8 8), .lit (.int .u8 7), .lit (.int .u8 6)]
def laid_internal_strconv_uint64pow10 {H : Type} : DataW H := .agg [.lit (.int .u64 1), .lit (.int .u64 10), .lit (.int .u64 100), .lit (.int .u64 1000), .lit (.int .u64 10000), .lit (.int .u64 100000), .lit (.int .u64 1000000), .lit (.int .u64 10000000), .lit (.int .u64 100000000), .lit (.int .u64 1000000000), .lit (.int .u64 10000000000), .lit (.int .u64 100000000000), .lit (.int .u64 1000000000000), .lit (.int .u64 10000000000000), .lit (.int .u64 100000000000000), .lit (.int .u64 1000000000000000), .lit (.int .u64 10000000000000000), .lit (.int .u64 100000000000000000), .lit (.int .u64 1000000000000000000), .lit (.int .u64 10000000000000000000)]
def laid_io_ErrShortBuffer {H : Type} : DataW H := .iface "*errors.errorString" (.ptr (.agg [.lit (.string [115, 104, 111, 114, 116, 32, 98, 117, 102, 102, 101, 114])]))
def laid_io_EOF {H : Type} : DataW H := .iface "*errors.errorString" (.ptr (.agg [.lit (.string [69, 79, 70])]))
def laid_io_ErrUnexpectedEOF {H : Type} : DataW H := .iface "*errors.errorString" (.ptr (.agg [.lit (.string [117, 110, 101, 120, 112, 101, 99, 116, 101, 100, 32, 69, 79, 70])]))

/-- 'zzlaws_internal_protocol_b1.FnBalanceReplyReadsBackAtLastEquals': WHATEVER THE INPUT: true; the input reads as it did. -/
def fnBalanceReplyReadsBackAtLastEqualsSpec : ChangeSpec := { name := "fnBalanceReplyReadsBackAtLastEquals", fn := fun _ => fun
  | [d1, d2, d3] => { results := [.lit (.bool true)], args := [d1, d2, d3] }
  | _ => none }
def fnBalanceReplyReadsBackAtLastEqualsRow : OpenClaim := { program := "qxb6613067adoor", sum := "213552e5e5e90eff0773692034ca0c6a648e0389f870466c492b4091904a12a9", func := "example.com/accordant/accordant/zzlaws_internal_protocol_b1.FnBalanceReplyReadsBackAtLastEquals", spec := "fnBalanceReplyReadsBackAtLastEquals", named := ["internal/strconv.uint64pow10", "math/bits.deBruijn32tab", "math/bits.deBruijn64tab"], apart := false, laid := [("math/bits.deBruijn32tab", laid_math_bits_deBruijn32tab), ("math/bits.deBruijn64tab", laid_math_bits_deBruijn64tab), ("internal/strconv.uint64pow10", laid_internal_strconv_uint64pow10)] }
def FnBalanceReplyReadsBackAtLastEqualsSaid : Prop := fnBalanceReplyReadsBackAtLastEqualsRow.holds Tryd.pinned (OpenSpec.ofChange fnBalanceReplyReadsBackAtLastEqualsSpec)

/-- ITS FALSE NEIGHBOUR: 'it returns false'. Refute it at one input. -/
def fnBalanceReplyReadsBackAtLastEqualsWrong : ChangeSpec := { name := "fnBalanceReplyReadsBackAtLastEquals", fn := fun _ => fun
  | [d1, d2, d3] => { results := [.lit (.bool false)], args := [d1, d2, d3] }
  | _ => none }
def FnBalanceReplyReadsBackAtLastEqualsWrongFalsely : Prop := fnBalanceReplyReadsBackAtLastEqualsRow.holds Tryd.pinned (OpenSpec.ofChange fnBalanceReplyReadsBackAtLastEqualsWrong)

/-- 'zzlaws_internal_protocol_b1.FnBalanceReplyPartsDependOnOneArgumentEach': WHATEVER THE INPUT: true; the input reads as it did. -/
def fnBalanceReplyPartsDependOnOneArgumentEachSpec : ChangeSpec := { name := "fnBalanceReplyPartsDependOnOneArgumentEach", fn := fun _ => fun
  | [d1, d2, d3, d4, d5, d6] => { results := [.lit (.bool true)], args := [d1, d2, d3, d4, d5, d6] }
  | _ => none }
def fnBalanceReplyPartsDependOnOneArgumentEachRow : OpenClaim := { program := "qxb6613067adoor", sum := "213552e5e5e90eff0773692034ca0c6a648e0389f870466c492b4091904a12a9", func := "example.com/accordant/accordant/zzlaws_internal_protocol_b1.FnBalanceReplyPartsDependOnOneArgumentEach", spec := "fnBalanceReplyPartsDependOnOneArgumentEach", named := ["internal/strconv.uint64pow10", "math/bits.deBruijn32tab", "math/bits.deBruijn64tab"], apart := false, laid := [("math/bits.deBruijn32tab", laid_math_bits_deBruijn32tab), ("math/bits.deBruijn64tab", laid_math_bits_deBruijn64tab), ("internal/strconv.uint64pow10", laid_internal_strconv_uint64pow10)] }
def FnBalanceReplyPartsDependOnOneArgumentEachSaid : Prop := fnBalanceReplyPartsDependOnOneArgumentEachRow.holds Tryd.pinned (OpenSpec.ofChange fnBalanceReplyPartsDependOnOneArgumentEachSpec)

/-- ITS FALSE NEIGHBOUR: 'it returns false'. Refute it at one input. -/
def fnBalanceReplyPartsDependOnOneArgumentEachWrong : ChangeSpec := { name := "fnBalanceReplyPartsDependOnOneArgumentEach", fn := fun _ => fun
  | [d1, d2, d3, d4, d5, d6] => { results := [.lit (.bool false)], args := [d1, d2, d3, d4, d5, d6] }
  | _ => none }
def FnBalanceReplyPartsDependOnOneArgumentEachWrongFalsely : Prop := fnBalanceReplyPartsDependOnOneArgumentEachRow.holds Tryd.pinned (OpenSpec.ofChange fnBalanceReplyPartsDependOnOneArgumentEachWrong)

/-- 'zzlaws_internal_protocol_b1.FnNewLineReaderFreshState': WHATEVER THE INPUT: true; the input reads as it did. -/
def fnNewLineReaderFreshStateSpec : ChangeSpec := { name := "fnNewLineReaderFreshState", fn := fun _ => fun
  | [d1, d2] => { results := [.lit (.bool true)], args := [d1, d2] }
  | _ => none }
def fnNewLineReaderFreshStateRow : OpenClaim := { program := "qxb6613067adoor", sum := "213552e5e5e90eff0773692034ca0c6a648e0389f870466c492b4091904a12a9", func := "example.com/accordant/accordant/zzlaws_internal_protocol_b1.FnNewLineReaderFreshState", spec := "fnNewLineReaderFreshState", unfollowed := true, recurses := true, named := ["io.ErrShortBuffer", "io.EOF", "io.ErrUnexpectedEOF"], apart := false, laid := [("io.ErrShortBuffer", laid_io_ErrShortBuffer), ("io.EOF", laid_io_EOF), ("io.ErrUnexpectedEOF", laid_io_ErrUnexpectedEOF)] }
def FnNewLineReaderFreshStateSaid : Prop := fnNewLineReaderFreshStateRow.holds Tryd.pinned (OpenSpec.ofChange fnNewLineReaderFreshStateSpec)

/-- ITS FALSE NEIGHBOUR: 'it returns false'. Refute it at one input. -/
def fnNewLineReaderFreshStateWrong : ChangeSpec := { name := "fnNewLineReaderFreshState", fn := fun _ => fun
  | [d1, d2] => { results := [.lit (.bool false)], args := [d1, d2] }
  | _ => none }
def FnNewLineReaderFreshStateWrongFalsely : Prop := fnNewLineReaderFreshStateRow.holds Tryd.pinned (OpenSpec.ofChange fnNewLineReaderFreshStateWrong)

/-- 'zzlaws_internal_protocol_b1.FnBlocksIgnoreLineLimit': WHATEVER THE INPUT: true; the input reads as it did. -/
def fnBlocksIgnoreLineLimitSpec : ChangeSpec := { name := "fnBlocksIgnoreLineLimit", fn := fun _ => fun
  | [d1, d2, d3, d4] => { results := [.lit (.bool true)], args := [d1, d2, d3, d4] }
  | _ => none }
def fnBlocksIgnoreLineLimitRow : OpenClaim := { program := "qxb6613067adoor", sum := "213552e5e5e90eff0773692034ca0c6a648e0389f870466c492b4091904a12a9", func := "example.com/accordant/accordant/zzlaws_internal_protocol_b1.FnBlocksIgnoreLineLimit", spec := "fnBlocksIgnoreLineLimit", unfollowed := true, recurses := true, named := ["io.ErrShortBuffer", "io.EOF", "io.ErrUnexpectedEOF"], apart := false, laid := [("io.ErrShortBuffer", laid_io_ErrShortBuffer), ("io.EOF", laid_io_EOF), ("io.ErrUnexpectedEOF", laid_io_ErrUnexpectedEOF)] }
def FnBlocksIgnoreLineLimitSaid : Prop := fnBlocksIgnoreLineLimitRow.holds Tryd.pinned (OpenSpec.ofChange fnBlocksIgnoreLineLimitSpec)

/-- ITS FALSE NEIGHBOUR: 'it returns false'. Refute it at one input. -/
def fnBlocksIgnoreLineLimitWrong : ChangeSpec := { name := "fnBlocksIgnoreLineLimit", fn := fun _ => fun
  | [d1, d2, d3, d4] => { results := [.lit (.bool false)], args := [d1, d2, d3, d4] }
  | _ => none }
def FnBlocksIgnoreLineLimitWrongFalsely : Prop := fnBlocksIgnoreLineLimitRow.holds Tryd.pinned (OpenSpec.ofChange fnBlocksIgnoreLineLimitWrong)

/-- 'zzlaws_internal_protocol_b1.FnWriteLineReadBackAsBlocks': WHATEVER THE INPUT: true; the input reads as it did. -/
def fnWriteLineReadBackAsBlocksSpec : ChangeSpec := { name := "fnWriteLineReadBackAsBlocks", fn := fun _ => fun
  | [d1, d2, d3] => { results := [.lit (.bool true)], args := [d1, d2, d3] }
  | _ => none }
def fnWriteLineReadBackAsBlocksRow : OpenClaim := { program := "qxb6613067adoor", sum := "213552e5e5e90eff0773692034ca0c6a648e0389f870466c492b4091904a12a9", func := "example.com/accordant/accordant/zzlaws_internal_protocol_b1.FnWriteLineReadBackAsBlocks", spec := "fnWriteLineReadBackAsBlocks", unfollowed := true, recurses := true, named := ["io.ErrShortBuffer", "io.EOF", "io.ErrUnexpectedEOF"], apart := false, laid := [("io.ErrShortBuffer", laid_io_ErrShortBuffer), ("io.EOF", laid_io_EOF), ("io.ErrUnexpectedEOF", laid_io_ErrUnexpectedEOF)] }
def FnWriteLineReadBackAsBlocksSaid : Prop := fnWriteLineReadBackAsBlocksRow.holds Tryd.pinned (OpenSpec.ofChange fnWriteLineReadBackAsBlocksSpec)

/-- ITS FALSE NEIGHBOUR: 'it returns false'. Refute it at one input. -/
def fnWriteLineReadBackAsBlocksWrong : ChangeSpec := { name := "fnWriteLineReadBackAsBlocks", fn := fun _ => fun
  | [d1, d2, d3] => { results := [.lit (.bool false)], args := [d1, d2, d3] }
  | _ => none }
def FnWriteLineReadBackAsBlocksWrongFalsely : Prop := fnWriteLineReadBackAsBlocksRow.holds Tryd.pinned (OpenSpec.ofChange fnWriteLineReadBackAsBlocksWrong)

end Rows
end Go.Proofs.Qxb6613067aDoor
