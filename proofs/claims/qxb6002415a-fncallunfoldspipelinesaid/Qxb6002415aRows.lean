/-
  No cell of these rows narrows 'for every input' (looked for: loops, veiled, ifaces, maps, wideKeys, modest, calm, conditions, laid).
  DERIVED. THE GIVEN ROWS OF THIS SEAT. 1 by the template 'for every input the law returns true; each argument reads behind the call as it read before'; 0 by the template 'total and deterministic' (their statements: Qxb6002415aTotals.lean).
  GIVEN WITH THE SEED: the statements are not yours to turn. If you find one false, say at which input.
  Laid BY PROGRAM, IN A SANDBOX (cutbox-rows.mjs): the forced cells as the released guide's own fill.sh prints them over the translation fd7d85f8047c08dd… (all of the seat's roots in one cut). By AI agents, Wed Nov 11 2026. No macro, syntax, notation, axiom, sorry.
-/
import Derived.Test.Qxb6002415aChecked
import GoSem.Claim
import GoSem.ClaimJoined
import GoSem.ClaimMapViews
import Derived.JoinedTies
import Derived.KernelRfl
namespace Go.Proofs.Qxb6002415a
/- THE CELL 'sum', in the pinned program and in every row, IS THE sha256 OF THE DUMP (.gsa) THAT Qxb6002415aProg.lean LOADS. Nothing in Lean hashes anything: it is a label: what it is worth is what the hold of that sum in a sandbox is worth. -/
noncomputable def Try.pinned : Pinned := { name := "qxb6002415a", sum := "fd7d85f8047c08ddb86aa503b3a643fd4d80f01c37b3d31c5402d6fcff0efa23", checked := Try.checked }
namespace Rows
def none {H : Type} : Left H := { results := [], args := [] }

/-- 'zzlaws_pkg_syntax_g1.FnCallUnfoldsPipeline': WHATEVER THE INPUT: true; the input reads as it did. -/
def fnCallUnfoldsPipelineSpec : ChangeSpec := { name := "fnCallUnfoldsPipeline", fn := fun _ => fun
  | [d1, d2] => { results := [.lit (.bool true)], args := [d1, d2] }
  | _ => none }
def fnCallUnfoldsPipelineRow : OpenClaim := { program := "qxb6002415a", sum := "fd7d85f8047c08ddb86aa503b3a643fd4d80f01c37b3d31c5402d6fcff0efa23", func := "example.com/acheron/acheron/zzlaws_pkg_syntax_g1.FnCallUnfoldsPipeline", spec := "fnCallUnfoldsPipeline", unfollowed := true, recurses := true, apart := false }
def FnCallUnfoldsPipelineSaid : Prop := fnCallUnfoldsPipelineRow.holds Try.pinned (OpenSpec.ofChange fnCallUnfoldsPipelineSpec)

/-- ITS FALSE NEIGHBOUR: 'it returns false'. Refute it at one input. -/
def fnCallUnfoldsPipelineWrong : ChangeSpec := { name := "fnCallUnfoldsPipeline", fn := fun _ => fun
  | [d1, d2] => { results := [.lit (.bool false)], args := [d1, d2] }
  | _ => none }
def FnCallUnfoldsPipelineWrongFalsely : Prop := fnCallUnfoldsPipelineRow.holds Try.pinned (OpenSpec.ofChange fnCallUnfoldsPipelineWrong)

end Rows
end Go.Proofs.Qxb6002415a
