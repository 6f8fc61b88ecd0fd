/-
  No cell of these rows narrows 'for every input' (looked for: loops, veiled, ifaces, maps, wideKeys, modest, calm, conditions, laid).
  DERIVED. THE GIVEN ROWS OF THIS SEAT. 5 by the template 'for every input the law returns true; each argument reads behind the call as it read before'; 0 by the template 'total and deterministic' (their statements: Qxb6602464aTotals.lean).
  GIVEN WITH THE SEED: the statements are not yours to turn. If you find one false, say at which input.
  Laid BY PROGRAM, IN A SANDBOX (cutbox-rows.mjs): the forced cells as the released guide's own fill.sh prints them over the translation 16bd75a47dfe2098… (all of the seat's roots in one cut). By AI agents, Wed Nov 11 2026. No macro, syntax, notation, axiom, sorry.
-/
import Derived.Test.Qxb6602464aChecked
import GoSem.Claim
import GoSem.ClaimJoined
import GoSem.ClaimMapViews
import Derived.JoinedTies
import Derived.KernelRfl
namespace Go.Proofs.Qxb6602464a
/- THE CELL 'sum', in the pinned program and in every row, IS THE sha256 OF THE DUMP (.gsa) THAT Qxb6602464aProg.lean LOADS. Nothing in Lean hashes anything: it is a label: what it is worth is what the hold of that sum in a sandbox is worth. -/
noncomputable def Try.pinned : Pinned := { name := "qxb6602464a", sum := "16bd75a47dfe209885598eb8db1bd95958ce54ab5f15bfdca49067ee798a852f", checked := Try.checked }
namespace Rows
def none {H : Type} : Left H := { results := [], args := [] }

/-- 'zzlaws_root_b1.FnHexQuadMatchesPositionalModel': WHATEVER THE INPUT: true; the input reads as it did. -/
def fnHexQuadMatchesPositionalModelSpec : ChangeSpec := { name := "fnHexQuadMatchesPositionalModel", fn := fun _ => fun
  | [d] => { results := [.lit (.bool true)], args := [d] }
  | _ => none }
def fnHexQuadMatchesPositionalModelRow : OpenClaim := { program := "qxb6602464a", sum := "16bd75a47dfe209885598eb8db1bd95958ce54ab5f15bfdca49067ee798a852f", func := "example.com/allocation/allocation/zzlaws_root_b1.FnHexQuadMatchesPositionalModel", spec := "fnHexQuadMatchesPositionalModel", apart := false }
def FnHexQuadMatchesPositionalModelSaid : Prop := fnHexQuadMatchesPositionalModelRow.holds Try.pinned (OpenSpec.ofChange fnHexQuadMatchesPositionalModelSpec)

/-- ITS FALSE NEIGHBOUR: 'it returns false'. Refute it at one input. -/
def fnHexQuadMatchesPositionalModelWrong : ChangeSpec := { name := "fnHexQuadMatchesPositionalModel", fn := fun _ => fun
  | [d] => { results := [.lit (.bool false)], args := [d] }
  | _ => none }
def FnHexQuadMatchesPositionalModelWrongFalsely : Prop := fnHexQuadMatchesPositionalModelRow.holds Try.pinned (OpenSpec.ofChange fnHexQuadMatchesPositionalModelWrong)

/-- 'zzlaws_root_b1.FnHexQuadReadsBackFourDigits': WHATEVER THE INPUT: true; the input reads as it did. -/
def fnHexQuadReadsBackFourDigitsSpec : ChangeSpec := { name := "fnHexQuadReadsBackFourDigits", fn := fun _ => fun
  | [d1, d2, d3] => { results := [.lit (.bool true)], args := [d1, d2, d3] }
  | _ => none }
def fnHexQuadReadsBackFourDigitsRow : OpenClaim := { program := "qxb6602464a", sum := "16bd75a47dfe209885598eb8db1bd95958ce54ab5f15bfdca49067ee798a852f", func := "example.com/allocation/allocation/zzlaws_root_b1.FnHexQuadReadsBackFourDigits", spec := "fnHexQuadReadsBackFourDigits", apart := false }
def FnHexQuadReadsBackFourDigitsSaid : Prop := fnHexQuadReadsBackFourDigitsRow.holds Try.pinned (OpenSpec.ofChange fnHexQuadReadsBackFourDigitsSpec)

/-- ITS FALSE NEIGHBOUR: 'it returns false'. Refute it at one input. -/
def fnHexQuadReadsBackFourDigitsWrong : ChangeSpec := { name := "fnHexQuadReadsBackFourDigits", fn := fun _ => fun
  | [d1, d2, d3] => { results := [.lit (.bool false)], args := [d1, d2, d3] }
  | _ => none }
def FnHexQuadReadsBackFourDigitsWrongFalsely : Prop := fnHexQuadReadsBackFourDigitsRow.holds Try.pinned (OpenSpec.ofChange fnHexQuadReadsBackFourDigitsWrong)

/-- 'zzlaws_root_b1.FnDigitsOfMatchesGroupGrammar': WHATEVER THE INPUT: true; the input reads as it did. -/
def fnDigitsOfMatchesGroupGrammarSpec : ChangeSpec := { name := "fnDigitsOfMatchesGroupGrammar", fn := fun _ => fun
  | [d1, d2] => { results := [.lit (.bool true)], args := [d1, d2] }
  | _ => none }
def fnDigitsOfMatchesGroupGrammarRow : OpenClaim := { program := "qxb6602464a", sum := "16bd75a47dfe209885598eb8db1bd95958ce54ab5f15bfdca49067ee798a852f", func := "example.com/allocation/allocation/zzlaws_root_b1.FnDigitsOfMatchesGroupGrammar", spec := "fnDigitsOfMatchesGroupGrammar", apart := false }
def FnDigitsOfMatchesGroupGrammarSaid : Prop := fnDigitsOfMatchesGroupGrammarRow.holds Try.pinned (OpenSpec.ofChange fnDigitsOfMatchesGroupGrammarSpec)

/-- ITS FALSE NEIGHBOUR: 'it returns false'. Refute it at one input. -/
def fnDigitsOfMatchesGroupGrammarWrong : ChangeSpec := { name := "fnDigitsOfMatchesGroupGrammar", fn := fun _ => fun
  | [d1, d2] => { results := [.lit (.bool false)], args := [d1, d2] }
  | _ => none }
def FnDigitsOfMatchesGroupGrammarWrongFalsely : Prop := fnDigitsOfMatchesGroupGrammarRow.holds Try.pinned (OpenSpec.ofChange fnDigitsOfMatchesGroupGrammarWrong)

/-- 'zzlaws_root_b1.FnDigitsOfMonotoneInBase': WHATEVER THE INPUT: true; the input reads as it did. -/
def fnDigitsOfMonotoneInBaseSpec : ChangeSpec := { name := "fnDigitsOfMonotoneInBase", fn := fun _ => fun
  | [d1, d2, d3] => { results := [.lit (.bool true)], args := [d1, d2, d3] }
  | _ => none }
def fnDigitsOfMonotoneInBaseRow : OpenClaim := { program := "qxb6602464a", sum := "16bd75a47dfe209885598eb8db1bd95958ce54ab5f15bfdca49067ee798a852f", func := "example.com/allocation/allocation/zzlaws_root_b1.FnDigitsOfMonotoneInBase", spec := "fnDigitsOfMonotoneInBase", apart := false }
def FnDigitsOfMonotoneInBaseSaid : Prop := fnDigitsOfMonotoneInBaseRow.holds Try.pinned (OpenSpec.ofChange fnDigitsOfMonotoneInBaseSpec)

/-- ITS FALSE NEIGHBOUR: 'it returns false'. Refute it at one input. -/
def fnDigitsOfMonotoneInBaseWrong : ChangeSpec := { name := "fnDigitsOfMonotoneInBase", fn := fun _ => fun
  | [d1, d2, d3] => { results := [.lit (.bool false)], args := [d1, d2, d3] }
  | _ => none }
def FnDigitsOfMonotoneInBaseWrongFalsely : Prop := fnDigitsOfMonotoneInBaseRow.holds Try.pinned (OpenSpec.ofChange fnDigitsOfMonotoneInBaseWrong)

/-- 'zzlaws_root_b1.FnDigitsOfClosedUnderJoining': WHATEVER THE INPUT: true; the input reads as it did. -/
def fnDigitsOfClosedUnderJoiningSpec : ChangeSpec := { name := "fnDigitsOfClosedUnderJoining", fn := fun _ => fun
  | [d1, d2, d3] => { results := [.lit (.bool true)], args := [d1, d2, d3] }
  | _ => none }
def fnDigitsOfClosedUnderJoiningRow : OpenClaim := { program := "qxb6602464a", sum := "16bd75a47dfe209885598eb8db1bd95958ce54ab5f15bfdca49067ee798a852f", func := "example.com/allocation/allocation/zzlaws_root_b1.FnDigitsOfClosedUnderJoining", spec := "fnDigitsOfClosedUnderJoining", apart := false }
def FnDigitsOfClosedUnderJoiningSaid : Prop := fnDigitsOfClosedUnderJoiningRow.holds Try.pinned (OpenSpec.ofChange fnDigitsOfClosedUnderJoiningSpec)

/-- ITS FALSE NEIGHBOUR: 'it returns false'. Refute it at one input. -/
def fnDigitsOfClosedUnderJoiningWrong : ChangeSpec := { name := "fnDigitsOfClosedUnderJoining", fn := fun _ => fun
  | [d1, d2, d3] => { results := [.lit (.bool false)], args := [d1, d2, d3] }
  | _ => none }
def FnDigitsOfClosedUnderJoiningWrongFalsely : Prop := fnDigitsOfClosedUnderJoiningRow.holds Try.pinned (OpenSpec.ofChange fnDigitsOfClosedUnderJoiningWrong)

end Rows
end Go.Proofs.Qxb6602464a
