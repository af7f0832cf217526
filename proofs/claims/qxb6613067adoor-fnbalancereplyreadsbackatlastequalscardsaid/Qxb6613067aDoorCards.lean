/-
  DERIVED. GIVEN WITH THE SEED: THE CARDS: each row of Qxb6613067aDoorRows.lean that lists a variable, with what it lists TIED to the program's text (the seventh form; the later family's looks); each row that meets fmt, with fmt's text TOLD by the authors' own Lean function (tested against real Go, not proved from fmt's source: count such statements apart). THE CARD IS WHAT COUNTS. Prove the row's statement (the work); the ties are given (Qxb6613067aDoorTie.lean); close each card by the builder's one call (the guide's Derived/Test/ToyasCard.lean, 'card_holds'). Laid BY PROGRAM, IN A SANDBOX (cutbox-door.mjs). By AI agents, Wed Nov 11 2026. No macro, syntax, notation, axiom, sorry.
-/
import Derived.Test.Qxb6613067aDoorRows
import GoSem.ClaimSeven
namespace Go.Proofs.Qxb6613067aDoor
namespace Rows

/-- THE TIED CARD OF 'zzlaws_internal_protocol_b1.FnBalanceReplyReadsBackAtLastEquals'. -/
def fnBalanceReplyReadsBackAtLastEqualsCard : Claim7 := { stood := { row := fnBalanceReplyReadsBackAtLastEqualsRow, standIns := [], harness := (true, "d2ba1a9dbfef3cb686d4fa766c6d23f5a58f870fcca44962ad2545cf1229d379"), looks := true }, kinds := [], alts := [], laidByText := true, laidKinds := [.data, .data, .data], laidTests := true, laidLooks := .later }
def FnBalanceReplyReadsBackAtLastEqualsCardSaid : Prop := Claim7.holds Tryd.pinned (.plain (OpenSpec.ofChange fnBalanceReplyReadsBackAtLastEqualsSpec)) fnBalanceReplyReadsBackAtLastEqualsCard

/-- THE TIED CARD OF 'zzlaws_internal_protocol_b1.FnBalanceReplyPartsDependOnOneArgumentEach'. -/
def fnBalanceReplyPartsDependOnOneArgumentEachCard : Claim7 := { stood := { row := fnBalanceReplyPartsDependOnOneArgumentEachRow, standIns := [], harness := (true, "d2ba1a9dbfef3cb686d4fa766c6d23f5a58f870fcca44962ad2545cf1229d379"), looks := true }, kinds := [], alts := [], laidByText := true, laidKinds := [.data, .data, .data], laidTests := true, laidLooks := .later }
def FnBalanceReplyPartsDependOnOneArgumentEachCardSaid : Prop := Claim7.holds Tryd.pinned (.plain (OpenSpec.ofChange fnBalanceReplyPartsDependOnOneArgumentEachSpec)) fnBalanceReplyPartsDependOnOneArgumentEachCard

/-- THE TIED CARD OF 'zzlaws_internal_protocol_b1.FnNewLineReaderFreshState'. -/
def fnNewLineReaderFreshStateCard : Claim7 := { stood := { row := fnNewLineReaderFreshStateRow, standIns := [], harness := (true, "d2ba1a9dbfef3cb686d4fa766c6d23f5a58f870fcca44962ad2545cf1229d379"), looks := true }, kinds := [], alts := [], laidByText := true, laidKinds := [.sentinel, .sentinel, .sentinel], laidTests := true, laidLooks := .later }
def FnNewLineReaderFreshStateCardSaid : Prop := Claim7.holds Tryd.pinned (.plain (OpenSpec.ofChange fnNewLineReaderFreshStateSpec)) fnNewLineReaderFreshStateCard

/-- THE TIED CARD OF 'zzlaws_internal_protocol_b1.FnBlocksIgnoreLineLimit'. -/
def fnBlocksIgnoreLineLimitCard : Claim7 := { stood := { row := fnBlocksIgnoreLineLimitRow, standIns := [], harness := (true, "d2ba1a9dbfef3cb686d4fa766c6d23f5a58f870fcca44962ad2545cf1229d379"), looks := true }, kinds := [], alts := [], laidByText := true, laidKinds := [.sentinel, .sentinel, .sentinel], laidTests := true, laidLooks := .later }
def FnBlocksIgnoreLineLimitCardSaid : Prop := Claim7.holds Tryd.pinned (.plain (OpenSpec.ofChange fnBlocksIgnoreLineLimitSpec)) fnBlocksIgnoreLineLimitCard

/-- THE TIED CARD OF 'zzlaws_internal_protocol_b1.FnWriteLineReadBackAsBlocks'. -/
def fnWriteLineReadBackAsBlocksCard : Claim7 := { stood := { row := fnWriteLineReadBackAsBlocksRow, standIns := [], harness := (true, "d2ba1a9dbfef3cb686d4fa766c6d23f5a58f870fcca44962ad2545cf1229d379"), looks := true }, kinds := [], alts := [], laidByText := true, laidKinds := [.sentinel, .sentinel, .sentinel], laidTests := true, laidLooks := .later }
def FnWriteLineReadBackAsBlocksCardSaid : Prop := Claim7.holds Tryd.pinned (.plain (OpenSpec.ofChange fnWriteLineReadBackAsBlocksSpec)) fnWriteLineReadBackAsBlocksCard
end Rows
end Go.Proofs.Qxb6613067aDoor
