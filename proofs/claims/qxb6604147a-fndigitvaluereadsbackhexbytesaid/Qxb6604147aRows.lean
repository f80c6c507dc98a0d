/-
  No cell of these rows narrows 'for every input' (looked for: loops, veiled, ifaces, maps, wideKeys, modest, calm, conditions, laid).
  DERIVED. THE GIVEN ROWS OF THIS SEAT. 3 by the template 'for every input the law returns true; each argument reads behind the call as it read before'; 0 by the template 'total and deterministic' (their statements: Qxb6604147aTotals.lean).
  GIVEN WITH THE SEED: the statements are not yours to turn. If you find one false, say at which input.
  Laid BY PROGRAM, IN A SANDBOX (cutbox-rows.mjs): the forced cells as the released guide's own fill.sh prints them over the translation be22cf663c2e1a06… (all of the seat's roots in one cut). By AI agents, Wed Nov 11 2026. No macro, syntax, notation, axiom, sorry.
-/
import Derived.Test.Qxb6604147aChecked
import GoSem.Claim
import GoSem.ClaimJoined
import GoSem.ClaimMapViews
import Derived.JoinedTies
import Derived.KernelRfl
namespace Go.Proofs.Qxb6604147a
/- THE CELL 'sum', in the pinned program and in every row, IS THE sha256 OF THE DUMP (.gsa) THAT Qxb6604147aProg.lean LOADS. Nothing in Lean hashes anything: it is a label: what it is worth is what the hold of that sum in a sandbox is worth. -/
noncomputable def Try.pinned : Pinned := { name := "qxb6604147a", sum := "be22cf663c2e1a0656ad967d9effc79d10aa943357aa5531b032f0b687b1b647", checked := Try.checked }
namespace Rows
def none {H : Type} : Left H := { results := [], args := [] }

/-- 'zzlaws_internal_generator_b1.FnDigitValueMatchesHexTable': WHATEVER THE INPUT: true; the input reads as it did. -/
def fnDigitValueMatchesHexTableSpec : ChangeSpec := { name := "fnDigitValueMatchesHexTable", fn := fun _ => fun
  | [d] => { results := [.lit (.bool true)], args := [d] }
  | _ => none }
def fnDigitValueMatchesHexTableRow : OpenClaim := { program := "qxb6604147a", sum := "be22cf663c2e1a0656ad967d9effc79d10aa943357aa5531b032f0b687b1b647", func := "example.com/fieldwire/fieldwire/zzlaws_internal_generator_b1.FnDigitValueMatchesHexTable", spec := "fnDigitValueMatchesHexTable", apart := false }
def FnDigitValueMatchesHexTableSaid : Prop := fnDigitValueMatchesHexTableRow.holds Try.pinned (OpenSpec.ofChange fnDigitValueMatchesHexTableSpec)

/-- ITS FALSE NEIGHBOUR: 'it returns false'. Refute it at one input. -/
def fnDigitValueMatchesHexTableWrong : ChangeSpec := { name := "fnDigitValueMatchesHexTable", fn := fun _ => fun
  | [d] => { results := [.lit (.bool false)], args := [d] }
  | _ => none }
def FnDigitValueMatchesHexTableWrongFalsely : Prop := fnDigitValueMatchesHexTableRow.holds Try.pinned (OpenSpec.ofChange fnDigitValueMatchesHexTableWrong)

/-- 'zzlaws_internal_generator_b1.FnDigitValueReadsBackHexByte': WHATEVER THE INPUT: true; the input reads as it did. -/
def fnDigitValueReadsBackHexByteSpec : ChangeSpec := { name := "fnDigitValueReadsBackHexByte", fn := fun _ => fun
  | [d1, d2] => { results := [.lit (.bool true)], args := [d1, d2] }
  | _ => none }
def fnDigitValueReadsBackHexByteRow : OpenClaim := { program := "qxb6604147a", sum := "be22cf663c2e1a0656ad967d9effc79d10aa943357aa5531b032f0b687b1b647", func := "example.com/fieldwire/fieldwire/zzlaws_internal_generator_b1.FnDigitValueReadsBackHexByte", spec := "fnDigitValueReadsBackHexByte", apart := false }
def FnDigitValueReadsBackHexByteSaid : Prop := fnDigitValueReadsBackHexByteRow.holds Try.pinned (OpenSpec.ofChange fnDigitValueReadsBackHexByteSpec)

/-- ITS FALSE NEIGHBOUR: 'it returns false'. Refute it at one input. -/
def fnDigitValueReadsBackHexByteWrong : ChangeSpec := { name := "fnDigitValueReadsBackHexByte", fn := fun _ => fun
  | [d1, d2] => { results := [.lit (.bool false)], args := [d1, d2] }
  | _ => none }
def FnDigitValueReadsBackHexByteWrongFalsely : Prop := fnDigitValueReadsBackHexByteRow.holds Try.pinned (OpenSpec.ofChange fnDigitValueReadsBackHexByteWrong)

/-- 'zzlaws_internal_generator_b1.FnCamelCaseKeepsNamesWithoutLowerCase': WHATEVER THE INPUT: true; the input reads as it did. -/
def fnCamelCaseKeepsNamesWithoutLowerCaseSpec : ChangeSpec := { name := "fnCamelCaseKeepsNamesWithoutLowerCase", fn := fun _ => fun
  | [d] => { results := [.lit (.bool true)], args := [d] }
  | _ => none }
def fnCamelCaseKeepsNamesWithoutLowerCaseRow : OpenClaim := { program := "qxb6604147a", sum := "be22cf663c2e1a0656ad967d9effc79d10aa943357aa5531b032f0b687b1b647", func := "example.com/fieldwire/fieldwire/zzlaws_internal_generator_b1.FnCamelCaseKeepsNamesWithoutLowerCase", spec := "fnCamelCaseKeepsNamesWithoutLowerCase", apart := false }
def FnCamelCaseKeepsNamesWithoutLowerCaseSaid : Prop := fnCamelCaseKeepsNamesWithoutLowerCaseRow.holds Try.pinned (OpenSpec.ofChange fnCamelCaseKeepsNamesWithoutLowerCaseSpec)

/-- ITS FALSE NEIGHBOUR: 'it returns false'. Refute it at one input. -/
def fnCamelCaseKeepsNamesWithoutLowerCaseWrong : ChangeSpec := { name := "fnCamelCaseKeepsNamesWithoutLowerCase", fn := fun _ => fun
  | [d] => { results := [.lit (.bool false)], args := [d] }
  | _ => none }
def FnCamelCaseKeepsNamesWithoutLowerCaseWrongFalsely : Prop := fnCamelCaseKeepsNamesWithoutLowerCaseRow.holds Try.pinned (OpenSpec.ofChange fnCamelCaseKeepsNamesWithoutLowerCaseWrong)

end Rows
end Go.Proofs.Qxb6604147a
