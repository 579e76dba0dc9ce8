/-
  No cell of these rows narrows 'for every input' (looked for: loops, veiled, ifaces, maps, wideKeys, modest, calm, conditions, laid).
  DERIVED. THE GIVEN ROWS OF THIS SEAT. 5 by the template 'for every input the law returns true; each argument reads behind the call as it read before'; 0 by the template 'total and deterministic' (their statements: Qxb6601340aTotals.lean).
  GIVEN WITH THE SEED: the statements are not yours to turn. If you find one false, say at which input.
  Laid BY PROGRAM, IN A SANDBOX (cutbox-rows.mjs): the forced cells as the released guide's own fill.sh prints them over the translation 907fd584b84c625a… (all of the seat's roots in one cut). By AI agents, Wed Nov 11 2026. No macro, syntax, notation, axiom, sorry.
-/
import Derived.Test.Qxb6601340aChecked
import GoSem.Claim
import GoSem.ClaimJoined
import GoSem.ClaimMapViews
import Derived.JoinedTies
import Derived.KernelRfl
namespace Go.Proofs.Qxb6601340a
/- THE CELL 'sum', in the pinned program and in every row, IS THE sha256 OF THE DUMP (.gsa) THAT Qxb6601340aProg.lean LOADS. Nothing in Lean hashes anything: it is a label: what it is worth is what the hold of that sum in a sandbox is worth. -/
noncomputable def Try.pinned : Pinned := { name := "qxb6601340a", sum := "907fd584b84c625abb21508d3f34616bec6cf67d4bd97b9162025dab0ee97d7b", checked := Try.checked }
namespace Rows
def none {H : Type} : Left H := { results := [], args := [] }

/-- 'zzlaws_hold_b1.FnCanMoveToMatchesEdgeList': WHATEVER THE INPUT: true; the input reads as it did. -/
def fnCanMoveToMatchesEdgeListSpec : ChangeSpec := { name := "fnCanMoveToMatchesEdgeList", fn := fun _ => fun
  | [d1, d2] => { results := [.lit (.bool true)], args := [d1, d2] }
  | _ => none }
def fnCanMoveToMatchesEdgeListRow : OpenClaim := { program := "qxb6601340a", sum := "907fd584b84c625abb21508d3f34616bec6cf67d4bd97b9162025dab0ee97d7b", func := "example.com/settled/settled/zzlaws_hold_b1.FnCanMoveToMatchesEdgeList", spec := "fnCanMoveToMatchesEdgeList", apart := false }
def FnCanMoveToMatchesEdgeListSaid : Prop := fnCanMoveToMatchesEdgeListRow.holds Try.pinned (OpenSpec.ofChange fnCanMoveToMatchesEdgeListSpec)

/-- ITS FALSE NEIGHBOUR: 'it returns false'. Refute it at one input. -/
def fnCanMoveToMatchesEdgeListWrong : ChangeSpec := { name := "fnCanMoveToMatchesEdgeList", fn := fun _ => fun
  | [d1, d2] => { results := [.lit (.bool false)], args := [d1, d2] }
  | _ => none }
def FnCanMoveToMatchesEdgeListWrongFalsely : Prop := fnCanMoveToMatchesEdgeListRow.holds Try.pinned (OpenSpec.ofChange fnCanMoveToMatchesEdgeListWrong)

/-- 'zzlaws_hold_b1.FnCanMoveToRaisesRank': WHATEVER THE INPUT: true; the input reads as it did. -/
def fnCanMoveToRaisesRankSpec : ChangeSpec := { name := "fnCanMoveToRaisesRank", fn := fun _ => fun
  | [d1, d2] => { results := [.lit (.bool true)], args := [d1, d2] }
  | _ => none }
def fnCanMoveToRaisesRankRow : OpenClaim := { program := "qxb6601340a", sum := "907fd584b84c625abb21508d3f34616bec6cf67d4bd97b9162025dab0ee97d7b", func := "example.com/settled/settled/zzlaws_hold_b1.FnCanMoveToRaisesRank", spec := "fnCanMoveToRaisesRank", apart := false }
def FnCanMoveToRaisesRankSaid : Prop := fnCanMoveToRaisesRankRow.holds Try.pinned (OpenSpec.ofChange fnCanMoveToRaisesRankSpec)

/-- ITS FALSE NEIGHBOUR: 'it returns false'. Refute it at one input. -/
def fnCanMoveToRaisesRankWrong : ChangeSpec := { name := "fnCanMoveToRaisesRank", fn := fun _ => fun
  | [d1, d2] => { results := [.lit (.bool false)], args := [d1, d2] }
  | _ => none }
def FnCanMoveToRaisesRankWrongFalsely : Prop := fnCanMoveToRaisesRankRow.holds Try.pinned (OpenSpec.ofChange fnCanMoveToRaisesRankWrong)

/-- 'zzlaws_hold_b1.FnTerminalOnlyExitIsRefund': WHATEVER THE INPUT: true; the input reads as it did. -/
def fnTerminalOnlyExitIsRefundSpec : ChangeSpec := { name := "fnTerminalOnlyExitIsRefund", fn := fun _ => fun
  | [d1, d2] => { results := [.lit (.bool true)], args := [d1, d2] }
  | _ => none }
def fnTerminalOnlyExitIsRefundRow : OpenClaim := { program := "qxb6601340a", sum := "907fd584b84c625abb21508d3f34616bec6cf67d4bd97b9162025dab0ee97d7b", func := "example.com/settled/settled/zzlaws_hold_b1.FnTerminalOnlyExitIsRefund", spec := "fnTerminalOnlyExitIsRefund", apart := false }
def FnTerminalOnlyExitIsRefundSaid : Prop := fnTerminalOnlyExitIsRefundRow.holds Try.pinned (OpenSpec.ofChange fnTerminalOnlyExitIsRefundSpec)

/-- ITS FALSE NEIGHBOUR: 'it returns false'. Refute it at one input. -/
def fnTerminalOnlyExitIsRefundWrong : ChangeSpec := { name := "fnTerminalOnlyExitIsRefund", fn := fun _ => fun
  | [d1, d2] => { results := [.lit (.bool false)], args := [d1, d2] }
  | _ => none }
def FnTerminalOnlyExitIsRefundWrongFalsely : Prop := fnTerminalOnlyExitIsRefundRow.holds Try.pinned (OpenSpec.ofChange fnTerminalOnlyExitIsRefundWrong)

/-- 'zzlaws_hold_b1.FnValidTxnIDMatchesAlphabet': WHATEVER THE INPUT: true; the input reads as it did. -/
def fnValidTxnIDMatchesAlphabetSpec : ChangeSpec := { name := "fnValidTxnIDMatchesAlphabet", fn := fun _ => fun
  | [d] => { results := [.lit (.bool true)], args := [d] }
  | _ => none }
def fnValidTxnIDMatchesAlphabetRow : OpenClaim := { program := "qxb6601340a", sum := "907fd584b84c625abb21508d3f34616bec6cf67d4bd97b9162025dab0ee97d7b", func := "example.com/settled/settled/zzlaws_hold_b1.FnValidTxnIDMatchesAlphabet", spec := "fnValidTxnIDMatchesAlphabet", inPlace := ["internal/bytealg.IndexByteString"], apart := false }
def FnValidTxnIDMatchesAlphabetSaid : Prop := fnValidTxnIDMatchesAlphabetRow.holds Try.pinned (OpenSpec.ofChange fnValidTxnIDMatchesAlphabetSpec)

/-- ITS FALSE NEIGHBOUR: 'it returns false'. Refute it at one input. -/
def fnValidTxnIDMatchesAlphabetWrong : ChangeSpec := { name := "fnValidTxnIDMatchesAlphabet", fn := fun _ => fun
  | [d] => { results := [.lit (.bool false)], args := [d] }
  | _ => none }
def FnValidTxnIDMatchesAlphabetWrongFalsely : Prop := fnValidTxnIDMatchesAlphabetRow.holds Try.pinned (OpenSpec.ofChange fnValidTxnIDMatchesAlphabetWrong)

/-- 'zzlaws_hold_b1.FnValidTxnIDConcat': WHATEVER THE INPUT: true; the input reads as it did. -/
def fnValidTxnIDConcatSpec : ChangeSpec := { name := "fnValidTxnIDConcat", fn := fun _ => fun
  | [d1, d2] => { results := [.lit (.bool true)], args := [d1, d2] }
  | _ => none }
def fnValidTxnIDConcatRow : OpenClaim := { program := "qxb6601340a", sum := "907fd584b84c625abb21508d3f34616bec6cf67d4bd97b9162025dab0ee97d7b", func := "example.com/settled/settled/zzlaws_hold_b1.FnValidTxnIDConcat", spec := "fnValidTxnIDConcat", inPlace := ["internal/bytealg.IndexByteString"], apart := false }
def FnValidTxnIDConcatSaid : Prop := fnValidTxnIDConcatRow.holds Try.pinned (OpenSpec.ofChange fnValidTxnIDConcatSpec)

/-- ITS FALSE NEIGHBOUR: 'it returns false'. Refute it at one input. -/
def fnValidTxnIDConcatWrong : ChangeSpec := { name := "fnValidTxnIDConcat", fn := fun _ => fun
  | [d1, d2] => { results := [.lit (.bool false)], args := [d1, d2] }
  | _ => none }
def FnValidTxnIDConcatWrongFalsely : Prop := fnValidTxnIDConcatRow.holds Try.pinned (OpenSpec.ofChange fnValidTxnIDConcatWrong)

end Rows
end Go.Proofs.Qxb6601340a
