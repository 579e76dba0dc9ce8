/-
  No cell of these rows narrows 'for every input' (looked for: loops, veiled, ifaces, maps, wideKeys, modest, calm, conditions, laid).
  DERIVED. THE GIVEN ROWS OF THIS SEAT. 7 by the template 'for every input the law returns true; each argument reads behind the call as it read before'; 0 by the template 'total and deterministic' (their statements: Qxb6000864aTotals.lean).
  GIVEN WITH THE SEED: the statements are not yours to turn. If you find one false, say at which input.
  Laid BY PROGRAM, IN A SANDBOX (cutbox-rows.mjs): the forced cells as the released guide's own fill.sh prints them over the translation b0e953f4ccf58c9e… (all of the seat's roots in one cut). By AI agents, Wed Nov 11 2026. No macro, syntax, notation, axiom, sorry.
-/
import Derived.Test.Qxb6000864aChecked
import GoSem.Claim
import GoSem.ClaimJoined
import GoSem.ClaimMapViews
import Derived.JoinedTies
import Derived.KernelRfl
namespace Go.Proofs.Qxb6000864a
/- THE CELL 'sum', in the pinned program and in every row, IS THE sha256 OF THE DUMP (.gsa) THAT Qxb6000864aProg.lean LOADS. Nothing in Lean hashes anything: it is a label: what it is worth is what the hold of that sum in a sandbox is worth. -/
noncomputable def Try.pinned : Pinned := { name := "qxb6000864a", sum := "b0e953f4ccf58c9e544fc5dc1133ed444e45d5d7392f614b6669864d95fb6b1a", checked := Try.checked }
namespace Rows
def none {H : Type} : Left H := { results := [], args := [] }

/-- 'zzlaws_internal_synthetic_b1.FnReadsFromFirstKeepsOrderedSubsequence': WHATEVER THE INPUT: true; the input reads as it did. -/
def fnReadsFromFirstKeepsOrderedSubsequenceSpec : ChangeSpec := { name := "fnReadsFromFirstKeepsOrderedSubsequence", fn := fun _ => fun
  | [d] => { results := [.lit (.bool true)], args := [d] }
  | _ => none }
def fnReadsFromFirstKeepsOrderedSubsequenceRow : OpenClaim := { program := "qxb6000864a", sum := "b0e953f4ccf58c9e544fc5dc1133ed444e45d5d7392f614b6669864d95fb6b1a", func := "example.com/keyview/keyview/zzlaws_internal_synthetic_b1.FnReadsFromFirstKeepsOrderedSubsequence", spec := "fnReadsFromFirstKeepsOrderedSubsequence", unfollowed := true, recurses := true, plainKeys := false, apart := false }
def FnReadsFromFirstKeepsOrderedSubsequenceSaid : Prop := fnReadsFromFirstKeepsOrderedSubsequenceRow.holds Try.pinned (OpenSpec.ofChange fnReadsFromFirstKeepsOrderedSubsequenceSpec)

/-- ITS FALSE NEIGHBOUR: 'it returns false'. Refute it at one input. -/
def fnReadsFromFirstKeepsOrderedSubsequenceWrong : ChangeSpec := { name := "fnReadsFromFirstKeepsOrderedSubsequence", fn := fun _ => fun
  | [d] => { results := [.lit (.bool false)], args := [d] }
  | _ => none }
def FnReadsFromFirstKeepsOrderedSubsequenceWrongFalsely : Prop := fnReadsFromFirstKeepsOrderedSubsequenceRow.holds Try.pinned (OpenSpec.ofChange fnReadsFromFirstKeepsOrderedSubsequenceWrong)

/-- 'zzlaws_internal_synthetic_b1.FnReadsFromFirstIdempotent': WHATEVER THE INPUT: true; the input reads as it did. -/
def fnReadsFromFirstIdempotentSpec : ChangeSpec := { name := "fnReadsFromFirstIdempotent", fn := fun _ => fun
  | [d] => { results := [.lit (.bool true)], args := [d] }
  | _ => none }
def fnReadsFromFirstIdempotentRow : OpenClaim := { program := "qxb6000864a", sum := "b0e953f4ccf58c9e544fc5dc1133ed444e45d5d7392f614b6669864d95fb6b1a", func := "example.com/keyview/keyview/zzlaws_internal_synthetic_b1.FnReadsFromFirstIdempotent", spec := "fnReadsFromFirstIdempotent", unfollowed := true, recurses := true, plainKeys := false, apart := false }
def FnReadsFromFirstIdempotentSaid : Prop := fnReadsFromFirstIdempotentRow.holds Try.pinned (OpenSpec.ofChange fnReadsFromFirstIdempotentSpec)

/-- ITS FALSE NEIGHBOUR: 'it returns false'. Refute it at one input. -/
def fnReadsFromFirstIdempotentWrong : ChangeSpec := { name := "fnReadsFromFirstIdempotent", fn := fun _ => fun
  | [d] => { results := [.lit (.bool false)], args := [d] }
  | _ => none }
def FnReadsFromFirstIdempotentWrongFalsely : Prop := fnReadsFromFirstIdempotentRow.holds Try.pinned (OpenSpec.ofChange fnReadsFromFirstIdempotentWrong)

/-- 'zzlaws_internal_synthetic_b1.FnReadsFromFirstIgnoresCommitted': WHATEVER THE INPUT: true; the input reads as it did. -/
def fnReadsFromFirstIgnoresCommittedSpec : ChangeSpec := { name := "fnReadsFromFirstIgnoresCommitted", fn := fun _ => fun
  | [d] => { results := [.lit (.bool true)], args := [d] }
  | _ => none }
def fnReadsFromFirstIgnoresCommittedRow : OpenClaim := { program := "qxb6000864a", sum := "b0e953f4ccf58c9e544fc5dc1133ed444e45d5d7392f614b6669864d95fb6b1a", func := "example.com/keyview/keyview/zzlaws_internal_synthetic_b1.FnReadsFromFirstIgnoresCommitted", spec := "fnReadsFromFirstIgnoresCommitted", unfollowed := true, recurses := true, plainKeys := false, apart := false }
def FnReadsFromFirstIgnoresCommittedSaid : Prop := fnReadsFromFirstIgnoresCommittedRow.holds Try.pinned (OpenSpec.ofChange fnReadsFromFirstIgnoresCommittedSpec)

/-- ITS FALSE NEIGHBOUR: 'it returns false'. Refute it at one input. -/
def fnReadsFromFirstIgnoresCommittedWrong : ChangeSpec := { name := "fnReadsFromFirstIgnoresCommitted", fn := fun _ => fun
  | [d] => { results := [.lit (.bool false)], args := [d] }
  | _ => none }
def FnReadsFromFirstIgnoresCommittedWrongFalsely : Prop := fnReadsFromFirstIgnoresCommittedRow.holds Try.pinned (OpenSpec.ofChange fnReadsFromFirstIgnoresCommittedWrong)

/-- 'zzlaws_internal_synthetic_b1.FnDoomedReaderWellFormed': WHATEVER THE INPUT: true; the input reads as it did. -/
def fnDoomedReaderWellFormedSpec : ChangeSpec := { name := "fnDoomedReaderWellFormed", fn := fun _ => fun
  | [d] => { results := [.lit (.bool true)], args := [d] }
  | _ => none }
def fnDoomedReaderWellFormedRow : OpenClaim := { program := "qxb6000864a", sum := "b0e953f4ccf58c9e544fc5dc1133ed444e45d5d7392f614b6669864d95fb6b1a", func := "example.com/keyview/keyview/zzlaws_internal_synthetic_b1.FnDoomedReaderWellFormed", spec := "fnDoomedReaderWellFormed", unfollowed := true, recurses := true, plainKeys := false, apart := false }
def FnDoomedReaderWellFormedSaid : Prop := fnDoomedReaderWellFormedRow.holds Try.pinned (OpenSpec.ofChange fnDoomedReaderWellFormedSpec)

/-- ITS FALSE NEIGHBOUR: 'it returns false'. Refute it at one input. -/
def fnDoomedReaderWellFormedWrong : ChangeSpec := { name := "fnDoomedReaderWellFormed", fn := fun _ => fun
  | [d] => { results := [.lit (.bool false)], args := [d] }
  | _ => none }
def FnDoomedReaderWellFormedWrongFalsely : Prop := fnDoomedReaderWellFormedRow.holds Try.pinned (OpenSpec.ofChange fnDoomedReaderWellFormedWrong)

/-- 'zzlaws_internal_synthetic_b1.FnDoomedReaderReadsFromFirstDropsOnlyWideRead': WHATEVER THE INPUT: true; the input reads as it did. -/
def fnDoomedReaderReadsFromFirstDropsOnlyWideReadSpec : ChangeSpec := { name := "fnDoomedReaderReadsFromFirstDropsOnlyWideRead", fn := fun _ => fun
  | [d] => { results := [.lit (.bool true)], args := [d] }
  | _ => none }
def fnDoomedReaderReadsFromFirstDropsOnlyWideReadRow : OpenClaim := { program := "qxb6000864a", sum := "b0e953f4ccf58c9e544fc5dc1133ed444e45d5d7392f614b6669864d95fb6b1a", func := "example.com/keyview/keyview/zzlaws_internal_synthetic_b1.FnDoomedReaderReadsFromFirstDropsOnlyWideRead", spec := "fnDoomedReaderReadsFromFirstDropsOnlyWideRead", unfollowed := true, recurses := true, plainKeys := false, apart := false }
def FnDoomedReaderReadsFromFirstDropsOnlyWideReadSaid : Prop := fnDoomedReaderReadsFromFirstDropsOnlyWideReadRow.holds Try.pinned (OpenSpec.ofChange fnDoomedReaderReadsFromFirstDropsOnlyWideReadSpec)

/-- ITS FALSE NEIGHBOUR: 'it returns false'. Refute it at one input. -/
def fnDoomedReaderReadsFromFirstDropsOnlyWideReadWrong : ChangeSpec := { name := "fnDoomedReaderReadsFromFirstDropsOnlyWideRead", fn := fun _ => fun
  | [d] => { results := [.lit (.bool false)], args := [d] }
  | _ => none }
def FnDoomedReaderReadsFromFirstDropsOnlyWideReadWrongFalsely : Prop := fnDoomedReaderReadsFromFirstDropsOnlyWideReadRow.holds Try.pinned (OpenSpec.ofChange fnDoomedReaderReadsFromFirstDropsOnlyWideReadWrong)

/-- 'zzlaws_internal_synthetic_b1.FnTwoViolationsShape': WHATEVER THE INPUT: true; the input reads as it did. -/
def fnTwoViolationsShapeSpec : ChangeSpec := { name := "fnTwoViolationsShape", fn := fun _ => fun
  | [] => { results := [.lit (.bool true)], args := [] }
  | _ => none }
def fnTwoViolationsShapeRow : OpenClaim := { program := "qxb6000864a", sum := "b0e953f4ccf58c9e544fc5dc1133ed444e45d5d7392f614b6669864d95fb6b1a", func := "example.com/keyview/keyview/zzlaws_internal_synthetic_b1.FnTwoViolationsShape", spec := "fnTwoViolationsShape", unfollowed := true, recurses := true, plainKeys := false, apart := false }
def FnTwoViolationsShapeSaid : Prop := fnTwoViolationsShapeRow.holds Try.pinned (OpenSpec.ofChange fnTwoViolationsShapeSpec)

/-- ITS FALSE NEIGHBOUR: 'it returns false'. Refute it at one input. -/
def fnTwoViolationsShapeWrong : ChangeSpec := { name := "fnTwoViolationsShape", fn := fun _ => fun
  | [] => { results := [.lit (.bool false)], args := [] }
  | _ => none }
def FnTwoViolationsShapeWrongFalsely : Prop := fnTwoViolationsShapeRow.holds Try.pinned (OpenSpec.ofChange fnTwoViolationsShapeWrong)

/-- 'zzlaws_internal_synthetic_b1.FnTwoViolationsReadsFromFirst': WHATEVER THE INPUT: true; the input reads as it did. -/
def fnTwoViolationsReadsFromFirstSpec : ChangeSpec := { name := "fnTwoViolationsReadsFromFirst", fn := fun _ => fun
  | [] => { results := [.lit (.bool true)], args := [] }
  | _ => none }
def fnTwoViolationsReadsFromFirstRow : OpenClaim := { program := "qxb6000864a", sum := "b0e953f4ccf58c9e544fc5dc1133ed444e45d5d7392f614b6669864d95fb6b1a", func := "example.com/keyview/keyview/zzlaws_internal_synthetic_b1.FnTwoViolationsReadsFromFirst", spec := "fnTwoViolationsReadsFromFirst", unfollowed := true, recurses := true, plainKeys := false, apart := false }
def FnTwoViolationsReadsFromFirstSaid : Prop := fnTwoViolationsReadsFromFirstRow.holds Try.pinned (OpenSpec.ofChange fnTwoViolationsReadsFromFirstSpec)

/-- ITS FALSE NEIGHBOUR: 'it returns false'. Refute it at one input. -/
def fnTwoViolationsReadsFromFirstWrong : ChangeSpec := { name := "fnTwoViolationsReadsFromFirst", fn := fun _ => fun
  | [] => { results := [.lit (.bool false)], args := [] }
  | _ => none }
def FnTwoViolationsReadsFromFirstWrongFalsely : Prop := fnTwoViolationsReadsFromFirstRow.holds Try.pinned (OpenSpec.ofChange fnTwoViolationsReadsFromFirstWrong)

end Rows
end Go.Proofs.Qxb6000864a
