/-
  No cell of these rows narrows 'for every input' (looked for: loops, veiled, ifaces, maps, wideKeys, modest, calm, conditions, laid).
  DERIVED. THE GIVEN ROWS OF THIS SEAT. 2 by the template 'for every input the law returns true; each argument reads behind the call as it read before'; 0 by the template 'total and deterministic' (their statements: Qxb6601297aTotals.lean).
  GIVEN WITH THE SEED: the statements are not yours to turn. If you find one false, say at which input.
  Laid BY PROGRAM, IN A SANDBOX (cutbox-rows.mjs): the forced cells as the released guide's own fill.sh prints them over the translation 6c4c18a4985ade3b… (all of the seat's roots in one cut). By AI agents, Wed Nov 11 2026. No macro, syntax, notation, axiom, sorry.
-/
import Derived.Test.Qxb6601297aChecked
import GoSem.Claim
import GoSem.ClaimJoined
import GoSem.ClaimMapViews
import Derived.JoinedTies
import Derived.KernelRfl
namespace Go.Proofs.Qxb6601297a
/- THE CELL 'sum', in the pinned program and in every row, IS THE sha256 OF THE DUMP (.gsa) THAT Qxb6601297aProg.lean LOADS. Nothing in Lean hashes anything: it is a label: what it is worth is what the hold of that sum in a sandbox is worth. -/
noncomputable def Try.pinned : Pinned := { name := "qxb6601297a", sum := "6c4c18a4985ade3b6a777fb0c01a8774a9b416b7070776028fa1fbb15128dca1", checked := Try.checked }
namespace Rows
def none {H : Type} : Left H := { results := [], args := [] }

/-- 'zzlaws_internal_dev_kubeissuer_b1.FnMatchesOfConcatenationIsConjunction': WHATEVER THE INPUT: true; the input reads as it did. -/
def fnMatchesOfConcatenationIsConjunctionSpec : ChangeSpec := { name := "fnMatchesOfConcatenationIsConjunction", fn := fun _ => fun
  | [d1, d2, d3] => { results := [.lit (.bool true)], args := [d1, d2, d3] }
  | _ => none }
def fnMatchesOfConcatenationIsConjunctionRow : OpenClaim := { program := "qxb6601297a", sum := "6c4c18a4985ade3b6a777fb0c01a8774a9b416b7070776028fa1fbb15128dca1", func := "example.com/emeryville/emeryville/zzlaws_internal_dev_kubeissuer_b1.FnMatchesOfConcatenationIsConjunction", spec := "fnMatchesOfConcatenationIsConjunction", apart := false }
def FnMatchesOfConcatenationIsConjunctionSaid : Prop := fnMatchesOfConcatenationIsConjunctionRow.holds Try.pinned (OpenSpec.ofChange fnMatchesOfConcatenationIsConjunctionSpec)

/-- ITS FALSE NEIGHBOUR: 'it returns false'. Refute it at one input. -/
def fnMatchesOfConcatenationIsConjunctionWrong : ChangeSpec := { name := "fnMatchesOfConcatenationIsConjunction", fn := fun _ => fun
  | [d1, d2, d3] => { results := [.lit (.bool false)], args := [d1, d2, d3] }
  | _ => none }
def FnMatchesOfConcatenationIsConjunctionWrongFalsely : Prop := fnMatchesOfConcatenationIsConjunctionRow.holds Try.pinned (OpenSpec.ofChange fnMatchesOfConcatenationIsConjunctionWrong)

/-- 'zzlaws_internal_dev_kubeissuer_b1.FnMatchesOpposedRequirements': WHATEVER THE INPUT: true; the input reads as it did. -/
def fnMatchesOpposedRequirementsSpec : ChangeSpec := { name := "fnMatchesOpposedRequirements", fn := fun _ => fun
  | [d1, d2, d3] => { results := [.lit (.bool true)], args := [d1, d2, d3] }
  | _ => none }
def fnMatchesOpposedRequirementsRow : OpenClaim := { program := "qxb6601297a", sum := "6c4c18a4985ade3b6a777fb0c01a8774a9b416b7070776028fa1fbb15128dca1", func := "example.com/emeryville/emeryville/zzlaws_internal_dev_kubeissuer_b1.FnMatchesOpposedRequirements", spec := "fnMatchesOpposedRequirements", apart := false }
def FnMatchesOpposedRequirementsSaid : Prop := fnMatchesOpposedRequirementsRow.holds Try.pinned (OpenSpec.ofChange fnMatchesOpposedRequirementsSpec)

/-- ITS FALSE NEIGHBOUR: 'it returns false'. Refute it at one input. -/
def fnMatchesOpposedRequirementsWrong : ChangeSpec := { name := "fnMatchesOpposedRequirements", fn := fun _ => fun
  | [d1, d2, d3] => { results := [.lit (.bool false)], args := [d1, d2, d3] }
  | _ => none }
def FnMatchesOpposedRequirementsWrongFalsely : Prop := fnMatchesOpposedRequirementsRow.holds Try.pinned (OpenSpec.ofChange fnMatchesOpposedRequirementsWrong)

end Rows
end Go.Proofs.Qxb6601297a
