/-
  No cell of these rows narrows 'for every input' (looked for: loops, veiled, ifaces, maps, wideKeys, modest, calm, conditions, laid).
  DERIVED. THE GIVEN ROWS OF THIS SEAT. 3 by the template 'for every input the law returns true; each argument reads behind the call as it read before'; 0 by the template 'total and deterministic' (their statements: Qxb6003459aTotals.lean).
  GIVEN WITH THE SEED: the statements are not yours to turn. If you find one false, say at which input.
  Laid BY PROGRAM, IN A SANDBOX (cutbox-rows.mjs): the forced cells as the released guide's own fill.sh prints them over the translation 3a2b5833b6b9bd70… (all of the seat's roots in one cut). By AI agents, Wed Nov 11 2026. No macro, syntax, notation, axiom, sorry.
-/
import Derived.Test.Qxb6003459aChecked
import GoSem.Claim
import GoSem.ClaimJoined
import GoSem.ClaimMapViews
import Derived.JoinedTies
import Derived.KernelRfl
namespace Go.Proofs.Qxb6003459a
/- THE CELL 'sum', in the pinned program and in every row, IS THE sha256 OF THE DUMP (.gsa) THAT Qxb6003459aProg.lean LOADS. Nothing in Lean hashes anything: it is a label: what it is worth is what the hold of that sum in a sandbox is worth. -/
noncomputable def Try.pinned : Pinned := { name := "qxb6003459a", sum := "3a2b5833b6b9bd70598a0a7cf12154d22679289298b251df52b351d0df9a824e", checked := Try.checked }
namespace Rows
def none {H : Type} : Left H := { results := [], args := [] }

/-- 'zzlaws_internal_syntax_b2.FnDigitValueMatchesAlphabetSearch': WHATEVER THE INPUT: true; the input reads as it did. -/
def fnDigitValueMatchesAlphabetSearchSpec : ChangeSpec := { name := "fnDigitValueMatchesAlphabetSearch", fn := fun _ => fun
  | [d] => { results := [.lit (.bool true)], args := [d] }
  | _ => none }
def fnDigitValueMatchesAlphabetSearchRow : OpenClaim := { program := "qxb6003459a", sum := "3a2b5833b6b9bd70598a0a7cf12154d22679289298b251df52b351d0df9a824e", func := "example.com/kindcast/kindcast/zzlaws_internal_syntax_b2.FnDigitValueMatchesAlphabetSearch", spec := "fnDigitValueMatchesAlphabetSearch", apart := false }
def FnDigitValueMatchesAlphabetSearchSaid : Prop := fnDigitValueMatchesAlphabetSearchRow.holds Try.pinned (OpenSpec.ofChange fnDigitValueMatchesAlphabetSearchSpec)

/-- ITS FALSE NEIGHBOUR: 'it returns false'. Refute it at one input. -/
def fnDigitValueMatchesAlphabetSearchWrong : ChangeSpec := { name := "fnDigitValueMatchesAlphabetSearch", fn := fun _ => fun
  | [d] => { results := [.lit (.bool false)], args := [d] }
  | _ => none }
def FnDigitValueMatchesAlphabetSearchWrongFalsely : Prop := fnDigitValueMatchesAlphabetSearchRow.holds Try.pinned (OpenSpec.ofChange fnDigitValueMatchesAlphabetSearchWrong)

/-- 'zzlaws_internal_syntax_b2.FnDigitValueInvertsDigitWriter': WHATEVER THE INPUT: true; the input reads as it did. -/
def fnDigitValueInvertsDigitWriterSpec : ChangeSpec := { name := "fnDigitValueInvertsDigitWriter", fn := fun _ => fun
  | [d1, d2] => { results := [.lit (.bool true)], args := [d1, d2] }
  | _ => none }
def fnDigitValueInvertsDigitWriterRow : OpenClaim := { program := "qxb6003459a", sum := "3a2b5833b6b9bd70598a0a7cf12154d22679289298b251df52b351d0df9a824e", func := "example.com/kindcast/kindcast/zzlaws_internal_syntax_b2.FnDigitValueInvertsDigitWriter", spec := "fnDigitValueInvertsDigitWriter", apart := false }
def FnDigitValueInvertsDigitWriterSaid : Prop := fnDigitValueInvertsDigitWriterRow.holds Try.pinned (OpenSpec.ofChange fnDigitValueInvertsDigitWriterSpec)

/-- ITS FALSE NEIGHBOUR: 'it returns false'. Refute it at one input. -/
def fnDigitValueInvertsDigitWriterWrong : ChangeSpec := { name := "fnDigitValueInvertsDigitWriter", fn := fun _ => fun
  | [d1, d2] => { results := [.lit (.bool false)], args := [d1, d2] }
  | _ => none }
def FnDigitValueInvertsDigitWriterWrongFalsely : Prop := fnDigitValueInvertsDigitWriterRow.holds Try.pinned (OpenSpec.ofChange fnDigitValueInvertsDigitWriterWrong)

/-- 'zzlaws_internal_syntax_b2.FnDigitValueBaseCountsDigits': WHATEVER THE INPUT: true; the input reads as it did. -/
def fnDigitValueBaseCountsDigitsSpec : ChangeSpec := { name := "fnDigitValueBaseCountsDigits", fn := fun _ => fun
  | [d] => { results := [.lit (.bool true)], args := [d] }
  | _ => none }
def fnDigitValueBaseCountsDigitsRow : OpenClaim := { program := "qxb6003459a", sum := "3a2b5833b6b9bd70598a0a7cf12154d22679289298b251df52b351d0df9a824e", func := "example.com/kindcast/kindcast/zzlaws_internal_syntax_b2.FnDigitValueBaseCountsDigits", spec := "fnDigitValueBaseCountsDigits", apart := false }
def FnDigitValueBaseCountsDigitsSaid : Prop := fnDigitValueBaseCountsDigitsRow.holds Try.pinned (OpenSpec.ofChange fnDigitValueBaseCountsDigitsSpec)

/-- ITS FALSE NEIGHBOUR: 'it returns false'. Refute it at one input. -/
def fnDigitValueBaseCountsDigitsWrong : ChangeSpec := { name := "fnDigitValueBaseCountsDigits", fn := fun _ => fun
  | [d] => { results := [.lit (.bool false)], args := [d] }
  | _ => none }
def FnDigitValueBaseCountsDigitsWrongFalsely : Prop := fnDigitValueBaseCountsDigitsRow.holds Try.pinned (OpenSpec.ofChange fnDigitValueBaseCountsDigitsWrong)

end Rows
end Go.Proofs.Qxb6003459a
