/-
  No cell of these rows narrows 'for every input' (looked for: loops, veiled, ifaces, maps, wideKeys, modest, calm, conditions, laid).
  DERIVED. THE GIVEN ROWS OF THIS SEAT. 5 by the template 'for every input the law returns true; each argument reads behind the call as it read before'; 0 by the template 'total and deterministic' (their statements: Qxb6002448aTotals.lean).
  GIVEN WITH THE SEED: the statements are not yours to turn. If you find one false, say at which input.
  Laid BY PROGRAM, IN A SANDBOX (cutbox-rows.mjs): the forced cells as the released guide's own fill.sh prints them over the translation f17421cfca593a8b… (all of the seat's roots in one cut). By AI agents, Wed Nov 11 2026. No macro, syntax, notation, axiom, sorry.
-/
import Derived.Test.Qxb6002448aChecked
import GoSem.Claim
import GoSem.ClaimJoined
import GoSem.ClaimMapViews
import Derived.JoinedTies
import Derived.KernelRfl
namespace Go.Proofs.Qxb6002448a
/- THE CELL 'sum', in the pinned program and in every row, IS THE sha256 OF THE DUMP (.gsa) THAT Qxb6002448aProg.lean LOADS. Nothing in Lean hashes anything: it is a label: what it is worth is what the hold of that sum in a sandbox is worth. -/
noncomputable def Try.pinned : Pinned := { name := "qxb6002448a", sum := "f17421cfca593a8b6558b8a59fd59bb1897d9a12ba0a522b5fd30c9b49d73b21", checked := Try.checked }
namespace Rows
def none {H : Type} : Left H := { results := [], args := [] }

/-- 'zzlaws_internal_plainjson_g1.FnSkipSpaceStopsAtFirstNonSpace': WHATEVER THE INPUT: true; the input reads as it did. -/
def fnSkipSpaceStopsAtFirstNonSpaceSpec : ChangeSpec := { name := "fnSkipSpaceStopsAtFirstNonSpace", fn := fun _ => fun
  | [d1, d2] => { results := [.lit (.bool true)], args := [d1, d2] }
  | _ => none }
def fnSkipSpaceStopsAtFirstNonSpaceRow : OpenClaim := { program := "qxb6002448a", sum := "f17421cfca593a8b6558b8a59fd59bb1897d9a12ba0a522b5fd30c9b49d73b21", func := "example.com/byteloom/byteloom/zzlaws_internal_plainjson_g1.FnSkipSpaceStopsAtFirstNonSpace", spec := "fnSkipSpaceStopsAtFirstNonSpace", apart := false }
def FnSkipSpaceStopsAtFirstNonSpaceSaid : Prop := fnSkipSpaceStopsAtFirstNonSpaceRow.holds Try.pinned (OpenSpec.ofChange fnSkipSpaceStopsAtFirstNonSpaceSpec)

/-- ITS FALSE NEIGHBOUR: 'it returns false'. Refute it at one input. -/
def fnSkipSpaceStopsAtFirstNonSpaceWrong : ChangeSpec := { name := "fnSkipSpaceStopsAtFirstNonSpace", fn := fun _ => fun
  | [d1, d2] => { results := [.lit (.bool false)], args := [d1, d2] }
  | _ => none }
def FnSkipSpaceStopsAtFirstNonSpaceWrongFalsely : Prop := fnSkipSpaceStopsAtFirstNonSpaceRow.holds Try.pinned (OpenSpec.ofChange fnSkipSpaceStopsAtFirstNonSpaceWrong)

/-- 'zzlaws_internal_plainjson_g1.FnSkipSpaceMonotoneIdempotent': WHATEVER THE INPUT: true; the input reads as it did. -/
def fnSkipSpaceMonotoneIdempotentSpec : ChangeSpec := { name := "fnSkipSpaceMonotoneIdempotent", fn := fun _ => fun
  | [d1, d2, d3] => { results := [.lit (.bool true)], args := [d1, d2, d3] }
  | _ => none }
def fnSkipSpaceMonotoneIdempotentRow : OpenClaim := { program := "qxb6002448a", sum := "f17421cfca593a8b6558b8a59fd59bb1897d9a12ba0a522b5fd30c9b49d73b21", func := "example.com/byteloom/byteloom/zzlaws_internal_plainjson_g1.FnSkipSpaceMonotoneIdempotent", spec := "fnSkipSpaceMonotoneIdempotent", apart := false }
def FnSkipSpaceMonotoneIdempotentSaid : Prop := fnSkipSpaceMonotoneIdempotentRow.holds Try.pinned (OpenSpec.ofChange fnSkipSpaceMonotoneIdempotentSpec)

/-- ITS FALSE NEIGHBOUR: 'it returns false'. Refute it at one input. -/
def fnSkipSpaceMonotoneIdempotentWrong : ChangeSpec := { name := "fnSkipSpaceMonotoneIdempotent", fn := fun _ => fun
  | [d1, d2, d3] => { results := [.lit (.bool false)], args := [d1, d2, d3] }
  | _ => none }
def FnSkipSpaceMonotoneIdempotentWrongFalsely : Prop := fnSkipSpaceMonotoneIdempotentRow.holds Try.pinned (OpenSpec.ofChange fnSkipSpaceMonotoneIdempotentWrong)

/-- 'zzlaws_internal_plainjson_g1.FnSkipSpaceIgnoresPrefix': WHATEVER THE INPUT: true; the input reads as it did. -/
def fnSkipSpaceIgnoresPrefixSpec : ChangeSpec := { name := "fnSkipSpaceIgnoresPrefix", fn := fun _ => fun
  | [d1, d2, d3] => { results := [.lit (.bool true)], args := [d1, d2, d3] }
  | _ => none }
def fnSkipSpaceIgnoresPrefixRow : OpenClaim := { program := "qxb6002448a", sum := "f17421cfca593a8b6558b8a59fd59bb1897d9a12ba0a522b5fd30c9b49d73b21", func := "example.com/byteloom/byteloom/zzlaws_internal_plainjson_g1.FnSkipSpaceIgnoresPrefix", spec := "fnSkipSpaceIgnoresPrefix", apart := false }
def FnSkipSpaceIgnoresPrefixSaid : Prop := fnSkipSpaceIgnoresPrefixRow.holds Try.pinned (OpenSpec.ofChange fnSkipSpaceIgnoresPrefixSpec)

/-- ITS FALSE NEIGHBOUR: 'it returns false'. Refute it at one input. -/
def fnSkipSpaceIgnoresPrefixWrong : ChangeSpec := { name := "fnSkipSpaceIgnoresPrefix", fn := fun _ => fun
  | [d1, d2, d3] => { results := [.lit (.bool false)], args := [d1, d2, d3] }
  | _ => none }
def FnSkipSpaceIgnoresPrefixWrongFalsely : Prop := fnSkipSpaceIgnoresPrefixRow.holds Try.pinned (OpenSpec.ofChange fnSkipSpaceIgnoresPrefixWrong)

/-- 'zzlaws_root_g1.FnDecimalConcat': WHATEVER THE INPUT: true; the input reads as it did. -/
def fnDecimalConcatSpec : ChangeSpec := { name := "fnDecimalConcat", fn := fun _ => fun
  | [d1, d2] => { results := [.lit (.bool true)], args := [d1, d2] }
  | _ => none }
def fnDecimalConcatRow : OpenClaim := { program := "qxb6002448a", sum := "f17421cfca593a8b6558b8a59fd59bb1897d9a12ba0a522b5fd30c9b49d73b21", func := "example.com/byteloom/byteloom/zzlaws_root_g1.FnDecimalConcat", spec := "fnDecimalConcat", apart := false }
def FnDecimalConcatSaid : Prop := fnDecimalConcatRow.holds Try.pinned (OpenSpec.ofChange fnDecimalConcatSpec)

/-- ITS FALSE NEIGHBOUR: 'it returns false'. Refute it at one input. -/
def fnDecimalConcatWrong : ChangeSpec := { name := "fnDecimalConcat", fn := fun _ => fun
  | [d1, d2] => { results := [.lit (.bool false)], args := [d1, d2] }
  | _ => none }
def FnDecimalConcatWrongFalsely : Prop := fnDecimalConcatRow.holds Try.pinned (OpenSpec.ofChange fnDecimalConcatWrong)

/-- 'zzlaws_root_g1.FnDecimalReadsItoa': WHATEVER THE INPUT: true; the input reads as it did. -/
def fnDecimalReadsItoaSpec : ChangeSpec := { name := "fnDecimalReadsItoa", fn := fun _ => fun
  | [d1, d2] => { results := [.lit (.bool true)], args := [d1, d2] }
  | _ => none }
def fnDecimalReadsItoaRow : OpenClaim := { program := "qxb6002448a", sum := "f17421cfca593a8b6558b8a59fd59bb1897d9a12ba0a522b5fd30c9b49d73b21", func := "example.com/byteloom/byteloom/zzlaws_root_g1.FnDecimalReadsItoa", spec := "fnDecimalReadsItoa", apart := false }
def FnDecimalReadsItoaSaid : Prop := fnDecimalReadsItoaRow.holds Try.pinned (OpenSpec.ofChange fnDecimalReadsItoaSpec)

/-- ITS FALSE NEIGHBOUR: 'it returns false'. Refute it at one input. -/
def fnDecimalReadsItoaWrong : ChangeSpec := { name := "fnDecimalReadsItoa", fn := fun _ => fun
  | [d1, d2] => { results := [.lit (.bool false)], args := [d1, d2] }
  | _ => none }
def FnDecimalReadsItoaWrongFalsely : Prop := fnDecimalReadsItoaRow.holds Try.pinned (OpenSpec.ofChange fnDecimalReadsItoaWrong)

end Rows
end Go.Proofs.Qxb6002448a
