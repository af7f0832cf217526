/-
  No cell of these rows narrows 'for every input' (looked for: loops, veiled, ifaces, maps, wideKeys, modest, calm, conditions, laid).
  DERIVED. THE GIVEN ROWS OF THIS SEAT. 2 by the template 'for every input the law returns true; each argument reads behind the call as it read before'; 0 by the template 'total and deterministic' (their statements: Qxb6613471aTotals.lean).
  GIVEN WITH THE SEED: the statements are not yours to turn. If you find one false, say at which input.
  Laid BY PROGRAM, IN A SANDBOX (cutbox-rows.mjs): the forced cells as the released guide's own fill.sh prints them over the translation cd3a79d4c084ab51… (all of the seat's roots in one cut). By AI agents, Wed Nov 11 2026. No macro, syntax, notation, axiom, sorry.
-/
import Derived.Test.Qxb6613471aChecked
import GoSem.Claim
import GoSem.ClaimJoined
import GoSem.ClaimMapViews
import Derived.JoinedTies
import Derived.KernelRfl
namespace Go.Proofs.Qxb6613471a
/- THE CELL 'sum', in the pinned program and in every row, IS THE sha256 OF THE DUMP (.gsa) THAT Qxb6613471aProg.lean LOADS. Nothing in Lean hashes anything: it is a label: what it is worth is what the hold of that sum in a sandbox is worth. -/
noncomputable def Try.pinned : Pinned := { name := "qxb6613471a", sum := "cd3a79d4c084ab513c9170e8a3f43b6341f8176936c2ab0e656ba911a463fa17", checked := Try.checked }
namespace Rows
def none {H : Type} : Left H := { results := [], args := [] }

/-- 'zzlaws_explorer_b1.FnWatchSEAFSpec': WHATEVER THE INPUT: true; the input reads as it did. -/
def fnWatchSEAFSpecSpec : ChangeSpec := { name := "fnWatchSEAFSpec", fn := fun _ => fun
  | [d1, d2, d3, d4, d5, d6, d7, d8, d9, d10, d11, d12] => { results := [.lit (.bool true)], args := [d1, d2, d3, d4, d5, d6, d7, d8, d9, d10, d11, d12] }
  | _ => none }
def fnWatchSEAFSpecRow : OpenClaim := { program := "qxb6613471a", sum := "cd3a79d4c084ab513c9170e8a3f43b6341f8176936c2ab0e656ba911a463fa17", func := "example.com/attestra/attestra/zzlaws_explorer_b1.FnWatchSEAFSpec", spec := "fnWatchSEAFSpec", named := ["encoding/binary.LittleEndian"], plainKeys := false, apart := false }
def FnWatchSEAFSpecSaid : Prop := fnWatchSEAFSpecRow.holds Try.pinned (OpenSpec.ofChange fnWatchSEAFSpecSpec)

/-- ITS FALSE NEIGHBOUR: 'it returns false'. Refute it at one input. -/
def fnWatchSEAFSpecWrong : ChangeSpec := { name := "fnWatchSEAFSpec", fn := fun _ => fun
  | [d1, d2, d3, d4, d5, d6, d7, d8, d9, d10, d11, d12] => { results := [.lit (.bool false)], args := [d1, d2, d3, d4, d5, d6, d7, d8, d9, d10, d11, d12] }
  | _ => none }
def FnWatchSEAFSpecWrongFalsely : Prop := fnWatchSEAFSpecRow.holds Try.pinned (OpenSpec.ofChange fnWatchSEAFSpecWrong)

/-- 'zzlaws_explorer_b1.FnWatchSEAFFlagsReplayedKey': WHATEVER THE INPUT: true; the input reads as it did. -/
def fnWatchSEAFFlagsReplayedKeySpec : ChangeSpec := { name := "fnWatchSEAFFlagsReplayedKey", fn := fun _ => fun
  | [d1, d2, d3, d4, d5, d6, d7, d8, d9, d10, d11] => { results := [.lit (.bool true)], args := [d1, d2, d3, d4, d5, d6, d7, d8, d9, d10, d11] }
  | _ => none }
def fnWatchSEAFFlagsReplayedKeyRow : OpenClaim := { program := "qxb6613471a", sum := "cd3a79d4c084ab513c9170e8a3f43b6341f8176936c2ab0e656ba911a463fa17", func := "example.com/attestra/attestra/zzlaws_explorer_b1.FnWatchSEAFFlagsReplayedKey", spec := "fnWatchSEAFFlagsReplayedKey", named := ["encoding/binary.LittleEndian"], plainKeys := false, apart := false }
def FnWatchSEAFFlagsReplayedKeySaid : Prop := fnWatchSEAFFlagsReplayedKeyRow.holds Try.pinned (OpenSpec.ofChange fnWatchSEAFFlagsReplayedKeySpec)

/-- ITS FALSE NEIGHBOUR: 'it returns false'. Refute it at one input. -/
def fnWatchSEAFFlagsReplayedKeyWrong : ChangeSpec := { name := "fnWatchSEAFFlagsReplayedKey", fn := fun _ => fun
  | [d1, d2, d3, d4, d5, d6, d7, d8, d9, d10, d11] => { results := [.lit (.bool false)], args := [d1, d2, d3, d4, d5, d6, d7, d8, d9, d10, d11] }
  | _ => none }
def FnWatchSEAFFlagsReplayedKeyWrongFalsely : Prop := fnWatchSEAFFlagsReplayedKeyRow.holds Try.pinned (OpenSpec.ofChange fnWatchSEAFFlagsReplayedKeyWrong)

end Rows
end Go.Proofs.Qxb6613471a
