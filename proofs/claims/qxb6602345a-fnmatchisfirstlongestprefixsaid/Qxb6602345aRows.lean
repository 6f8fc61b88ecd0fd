/-
  No cell of these rows narrows 'for every input' (looked for: loops, veiled, ifaces, maps, wideKeys, modest, calm, conditions, laid).
  DERIVED. THE GIVEN ROWS OF THIS SEAT. 7 by the template 'for every input the law returns true; each argument reads behind the call as it read before'; 0 by the template 'total and deterministic' (their statements: Qxb6602345aTotals.lean).
  GIVEN WITH THE SEED: the statements are not yours to turn. If you find one false, say at which input.
  Laid BY PROGRAM, IN A SANDBOX (cutbox-rows.mjs): the forced cells as the released guide's own fill.sh prints them over the translation 392efa9377d89fd2… (all of the seat's roots in one cut). By AI agents, Wed Nov 11 2026. No macro, syntax, notation, axiom, sorry.
-/
import Derived.Test.Qxb6602345aChecked
import GoSem.Claim
import GoSem.ClaimJoined
import GoSem.ClaimMapViews
import Derived.JoinedTies
import Derived.KernelRfl
namespace Go.Proofs.Qxb6602345a
/- THE CELL 'sum', in the pinned program and in every row, IS THE sha256 OF THE DUMP (.gsa) THAT Qxb6602345aProg.lean LOADS. Nothing in Lean hashes anything: it is a label: what it is worth is what the hold of that sum in a sandbox is worth. -/
noncomputable def Try.pinned : Pinned := { name := "qxb6602345a", sum := "392efa9377d89fd244b005d775c270a54844f5f25f729eb0a836729ee112d0da", checked := Try.checked }
namespace Rows
def none {H : Type} : Left H := { results := [], args := [] }

/-- 'zzlaws_pkg_token_b1.FnMatchIsFirstLongestPrefix': WHATEVER THE INPUT: true; the input reads as it did. -/
def fnMatchIsFirstLongestPrefixSpec : ChangeSpec := { name := "fnMatchIsFirstLongestPrefix", fn := fun _ => fun
  | [d1, d2] => { results := [.lit (.bool true)], args := [d1, d2] }
  | _ => none }
def fnMatchIsFirstLongestPrefixRow : OpenClaim := { program := "qxb6602345a", sum := "392efa9377d89fd244b005d775c270a54844f5f25f729eb0a836729ee112d0da", func := "example.com/lerin/lerin/zzlaws_pkg_token_b1.FnMatchIsFirstLongestPrefix", spec := "fnMatchIsFirstLongestPrefix", apart := false }
def FnMatchIsFirstLongestPrefixSaid : Prop := fnMatchIsFirstLongestPrefixRow.holds Try.pinned (OpenSpec.ofChange fnMatchIsFirstLongestPrefixSpec)

/-- ITS FALSE NEIGHBOUR: 'it returns false'. Refute it at one input. -/
def fnMatchIsFirstLongestPrefixWrong : ChangeSpec := { name := "fnMatchIsFirstLongestPrefix", fn := fun _ => fun
  | [d1, d2] => { results := [.lit (.bool false)], args := [d1, d2] }
  | _ => none }
def FnMatchIsFirstLongestPrefixWrongFalsely : Prop := fnMatchIsFirstLongestPrefixRow.holds Try.pinned (OpenSpec.ofChange fnMatchIsFirstLongestPrefixWrong)

/-- 'zzlaws_pkg_token_b1.FnMatchLongerTokenKeepsOrLengthensPrefix': WHATEVER THE INPUT: true; the input reads as it did. -/
def fnMatchLongerTokenKeepsOrLengthensPrefixSpec : ChangeSpec := { name := "fnMatchLongerTokenKeepsOrLengthensPrefix", fn := fun _ => fun
  | [d1, d2, d3] => { results := [.lit (.bool true)], args := [d1, d2, d3] }
  | _ => none }
def fnMatchLongerTokenKeepsOrLengthensPrefixRow : OpenClaim := { program := "qxb6602345a", sum := "392efa9377d89fd244b005d775c270a54844f5f25f729eb0a836729ee112d0da", func := "example.com/lerin/lerin/zzlaws_pkg_token_b1.FnMatchLongerTokenKeepsOrLengthensPrefix", spec := "fnMatchLongerTokenKeepsOrLengthensPrefix", apart := false }
def FnMatchLongerTokenKeepsOrLengthensPrefixSaid : Prop := fnMatchLongerTokenKeepsOrLengthensPrefixRow.holds Try.pinned (OpenSpec.ofChange fnMatchLongerTokenKeepsOrLengthensPrefixSpec)

/-- ITS FALSE NEIGHBOUR: 'it returns false'. Refute it at one input. -/
def fnMatchLongerTokenKeepsOrLengthensPrefixWrong : ChangeSpec := { name := "fnMatchLongerTokenKeepsOrLengthensPrefix", fn := fun _ => fun
  | [d1, d2, d3] => { results := [.lit (.bool false)], args := [d1, d2, d3] }
  | _ => none }
def FnMatchLongerTokenKeepsOrLengthensPrefixWrongFalsely : Prop := fnMatchLongerTokenKeepsOrLengthensPrefixRow.holds Try.pinned (OpenSpec.ofChange fnMatchLongerTokenKeepsOrLengthensPrefixWrong)

/-- 'zzlaws_pkg_token_b1.FnMatchOwnPrefixFindsFirstWithIt': WHATEVER THE INPUT: true; the input reads as it did. -/
def fnMatchOwnPrefixFindsFirstWithItSpec : ChangeSpec := { name := "fnMatchOwnPrefixFindsFirstWithIt", fn := fun _ => fun
  | [d1, d2] => { results := [.lit (.bool true)], args := [d1, d2] }
  | _ => none }
def fnMatchOwnPrefixFindsFirstWithItRow : OpenClaim := { program := "qxb6602345a", sum := "392efa9377d89fd244b005d775c270a54844f5f25f729eb0a836729ee112d0da", func := "example.com/lerin/lerin/zzlaws_pkg_token_b1.FnMatchOwnPrefixFindsFirstWithIt", spec := "fnMatchOwnPrefixFindsFirstWithIt", apart := false }
def FnMatchOwnPrefixFindsFirstWithItSaid : Prop := fnMatchOwnPrefixFindsFirstWithItRow.holds Try.pinned (OpenSpec.ofChange fnMatchOwnPrefixFindsFirstWithItSpec)

/-- ITS FALSE NEIGHBOUR: 'it returns false'. Refute it at one input. -/
def fnMatchOwnPrefixFindsFirstWithItWrong : ChangeSpec := { name := "fnMatchOwnPrefixFindsFirstWithIt", fn := fun _ => fun
  | [d1, d2] => { results := [.lit (.bool false)], args := [d1, d2] }
  | _ => none }
def FnMatchOwnPrefixFindsFirstWithItWrongFalsely : Prop := fnMatchOwnPrefixFindsFirstWithItRow.holds Try.pinned (OpenSpec.ofChange fnMatchOwnPrefixFindsFirstWithItWrong)

/-- 'zzlaws_pkg_token_b1.FnNamedIsFirstOfThatName': WHATEVER THE INPUT: true; the input reads as it did. -/
def fnNamedIsFirstOfThatNameSpec : ChangeSpec := { name := "fnNamedIsFirstOfThatName", fn := fun _ => fun
  | [d1, d2] => { results := [.lit (.bool true)], args := [d1, d2] }
  | _ => none }
def fnNamedIsFirstOfThatNameRow : OpenClaim := { program := "qxb6602345a", sum := "392efa9377d89fd244b005d775c270a54844f5f25f729eb0a836729ee112d0da", func := "example.com/lerin/lerin/zzlaws_pkg_token_b1.FnNamedIsFirstOfThatName", spec := "fnNamedIsFirstOfThatName", apart := false }
def FnNamedIsFirstOfThatNameSaid : Prop := fnNamedIsFirstOfThatNameRow.holds Try.pinned (OpenSpec.ofChange fnNamedIsFirstOfThatNameSpec)

/-- ITS FALSE NEIGHBOUR: 'it returns false'. Refute it at one input. -/
def fnNamedIsFirstOfThatNameWrong : ChangeSpec := { name := "fnNamedIsFirstOfThatName", fn := fun _ => fun
  | [d1, d2] => { results := [.lit (.bool false)], args := [d1, d2] }
  | _ => none }
def FnNamedIsFirstOfThatNameWrongFalsely : Prop := fnNamedIsFirstOfThatNameRow.holds Try.pinned (OpenSpec.ofChange fnNamedIsFirstOfThatNameWrong)

/-- 'zzlaws_pkg_token_b1.FnNamedOverConcatenation': WHATEVER THE INPUT: true; the input reads as it did. -/
def fnNamedOverConcatenationSpec : ChangeSpec := { name := "fnNamedOverConcatenation", fn := fun _ => fun
  | [d1, d2, d3] => { results := [.lit (.bool true)], args := [d1, d2, d3] }
  | _ => none }
def fnNamedOverConcatenationRow : OpenClaim := { program := "qxb6602345a", sum := "392efa9377d89fd244b005d775c270a54844f5f25f729eb0a836729ee112d0da", func := "example.com/lerin/lerin/zzlaws_pkg_token_b1.FnNamedOverConcatenation", spec := "fnNamedOverConcatenation", apart := false }
def FnNamedOverConcatenationSaid : Prop := fnNamedOverConcatenationRow.holds Try.pinned (OpenSpec.ofChange fnNamedOverConcatenationSpec)

/-- ITS FALSE NEIGHBOUR: 'it returns false'. Refute it at one input. -/
def fnNamedOverConcatenationWrong : ChangeSpec := { name := "fnNamedOverConcatenation", fn := fun _ => fun
  | [d1, d2, d3] => { results := [.lit (.bool false)], args := [d1, d2, d3] }
  | _ => none }
def FnNamedOverConcatenationWrongFalsely : Prop := fnNamedOverConcatenationRow.holds Try.pinned (OpenSpec.ofChange fnNamedOverConcatenationWrong)

/-- 'zzlaws_pkg_token_b1.FnMaxLengthIsLeastUpperBound': WHATEVER THE INPUT: true; the input reads as it did. -/
def fnMaxLengthIsLeastUpperBoundSpec : ChangeSpec := { name := "fnMaxLengthIsLeastUpperBound", fn := fun _ => fun
  | [d] => { results := [.lit (.bool true)], args := [d] }
  | _ => none }
def fnMaxLengthIsLeastUpperBoundRow : OpenClaim := { program := "qxb6602345a", sum := "392efa9377d89fd244b005d775c270a54844f5f25f729eb0a836729ee112d0da", func := "example.com/lerin/lerin/zzlaws_pkg_token_b1.FnMaxLengthIsLeastUpperBound", spec := "fnMaxLengthIsLeastUpperBound", apart := false }
def FnMaxLengthIsLeastUpperBoundSaid : Prop := fnMaxLengthIsLeastUpperBoundRow.holds Try.pinned (OpenSpec.ofChange fnMaxLengthIsLeastUpperBoundSpec)

/-- ITS FALSE NEIGHBOUR: 'it returns false'. Refute it at one input. -/
def fnMaxLengthIsLeastUpperBoundWrong : ChangeSpec := { name := "fnMaxLengthIsLeastUpperBound", fn := fun _ => fun
  | [d] => { results := [.lit (.bool false)], args := [d] }
  | _ => none }
def FnMaxLengthIsLeastUpperBoundWrongFalsely : Prop := fnMaxLengthIsLeastUpperBoundRow.holds Try.pinned (OpenSpec.ofChange fnMaxLengthIsLeastUpperBoundWrong)

/-- 'zzlaws_pkg_token_b1.FnMaxLengthOverConcatAndReverse': WHATEVER THE INPUT: true; the input reads as it did. -/
def fnMaxLengthOverConcatAndReverseSpec : ChangeSpec := { name := "fnMaxLengthOverConcatAndReverse", fn := fun _ => fun
  | [d1, d2] => { results := [.lit (.bool true)], args := [d1, d2] }
  | _ => none }
def fnMaxLengthOverConcatAndReverseRow : OpenClaim := { program := "qxb6602345a", sum := "392efa9377d89fd244b005d775c270a54844f5f25f729eb0a836729ee112d0da", func := "example.com/lerin/lerin/zzlaws_pkg_token_b1.FnMaxLengthOverConcatAndReverse", spec := "fnMaxLengthOverConcatAndReverse", apart := false }
def FnMaxLengthOverConcatAndReverseSaid : Prop := fnMaxLengthOverConcatAndReverseRow.holds Try.pinned (OpenSpec.ofChange fnMaxLengthOverConcatAndReverseSpec)

/-- ITS FALSE NEIGHBOUR: 'it returns false'. Refute it at one input. -/
def fnMaxLengthOverConcatAndReverseWrong : ChangeSpec := { name := "fnMaxLengthOverConcatAndReverse", fn := fun _ => fun
  | [d1, d2] => { results := [.lit (.bool false)], args := [d1, d2] }
  | _ => none }
def FnMaxLengthOverConcatAndReverseWrongFalsely : Prop := fnMaxLengthOverConcatAndReverseRow.holds Try.pinned (OpenSpec.ofChange fnMaxLengthOverConcatAndReverseWrong)

end Rows
end Go.Proofs.Qxb6602345a
