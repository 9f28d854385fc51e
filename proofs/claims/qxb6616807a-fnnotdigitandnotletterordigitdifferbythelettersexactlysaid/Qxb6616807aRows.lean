/-
  No cell of these rows narrows 'for every input' (looked for: loops, veiled, ifaces, maps, wideKeys, modest, calm, conditions, laid).
  DERIVED. THE GIVEN ROWS OF THIS SEAT. 3 by the template 'for every input the law returns true; each argument reads behind the call as it read before'; 0 by the template 'total and deterministic' (their statements: Qxb6616807aTotals.lean).
  GIVEN WITH THE SEED: the statements are not yours to turn. If you find one false, say at which input.
  Laid BY PROGRAM, IN A SANDBOX (cutbox-rows.mjs): the forced cells as the released guide's own fill.sh prints them over the translation 0aa5fd6d7ccaa36d… (all of the seat's roots in one cut). By AI agents, Wed Nov 11 2026. No macro, syntax, notation, axiom, sorry.
-/
import Derived.Test.Qxb6616807aChecked
import GoSem.Claim
import GoSem.ClaimJoined
import GoSem.ClaimMapViews
import Derived.JoinedTies
import Derived.KernelRfl
namespace Go.Proofs.Qxb6616807a
/- THE CELL 'sum', in the pinned program and in every row, IS THE sha256 OF THE DUMP (.gsa) THAT Qxb6616807aProg.lean LOADS. Nothing in Lean hashes anything: it is a label: what it is worth is what the hold of that sum in a sandbox is worth. -/
noncomputable def Try.pinned : Pinned := { name := "qxb6616807a", sum := "0aa5fd6d7ccaa36d6bdc148f37a24146b890d8970ec90f9b9bf752d24a3f7933", checked := Try.checked }
namespace Rows
def none {H : Type} : Left H := { results := [], args := [] }

/-- 'zzlaws_ofd_b1.FnNotDigitDigitsOfAnyWindowAreItsOverlapWithZeroToNine': WHATEVER THE INPUT: true; the input reads as it did. -/
def fnNotDigitDigitsOfAnyWindowAreItsOverlapWithZeroToNineSpec : ChangeSpec := { name := "fnNotDigitDigitsOfAnyWindowAreItsOverlapWithZeroToNine", fn := fun _ => fun
  | [d1, d2] => { results := [.lit (.bool true)], args := [d1, d2] }
  | _ => none }
def fnNotDigitDigitsOfAnyWindowAreItsOverlapWithZeroToNineRow : OpenClaim := { program := "qxb6616807a", sum := "0aa5fd6d7ccaa36d6bdc148f37a24146b890d8970ec90f9b9bf752d24a3f7933", func := "example.com/tuoguan/tuoguan/zzlaws_ofd_b1.FnNotDigitDigitsOfAnyWindowAreItsOverlapWithZeroToNine", spec := "fnNotDigitDigitsOfAnyWindowAreItsOverlapWithZeroToNine", apart := false }
def FnNotDigitDigitsOfAnyWindowAreItsOverlapWithZeroToNineSaid : Prop := fnNotDigitDigitsOfAnyWindowAreItsOverlapWithZeroToNineRow.holds Try.pinned (OpenSpec.ofChange fnNotDigitDigitsOfAnyWindowAreItsOverlapWithZeroToNineSpec)

/-- ITS FALSE NEIGHBOUR: 'it returns false'. Refute it at one input. -/
def fnNotDigitDigitsOfAnyWindowAreItsOverlapWithZeroToNineWrong : ChangeSpec := { name := "fnNotDigitDigitsOfAnyWindowAreItsOverlapWithZeroToNine", fn := fun _ => fun
  | [d1, d2] => { results := [.lit (.bool false)], args := [d1, d2] }
  | _ => none }
def FnNotDigitDigitsOfAnyWindowAreItsOverlapWithZeroToNineWrongFalsely : Prop := fnNotDigitDigitsOfAnyWindowAreItsOverlapWithZeroToNineRow.holds Try.pinned (OpenSpec.ofChange fnNotDigitDigitsOfAnyWindowAreItsOverlapWithZeroToNineWrong)

/-- 'zzlaws_ofd_b1.FnNotDigitAndNotLetterOrDigitDifferByTheLettersExactly': WHATEVER THE INPUT: true; the input reads as it did. -/
def fnNotDigitAndNotLetterOrDigitDifferByTheLettersExactlySpec : ChangeSpec := { name := "fnNotDigitAndNotLetterOrDigitDifferByTheLettersExactly", fn := fun _ => fun
  | [d1, d2] => { results := [.lit (.bool true)], args := [d1, d2] }
  | _ => none }
def fnNotDigitAndNotLetterOrDigitDifferByTheLettersExactlyRow : OpenClaim := { program := "qxb6616807a", sum := "0aa5fd6d7ccaa36d6bdc148f37a24146b890d8970ec90f9b9bf752d24a3f7933", func := "example.com/tuoguan/tuoguan/zzlaws_ofd_b1.FnNotDigitAndNotLetterOrDigitDifferByTheLettersExactly", spec := "fnNotDigitAndNotLetterOrDigitDifferByTheLettersExactly", apart := false }
def FnNotDigitAndNotLetterOrDigitDifferByTheLettersExactlySaid : Prop := fnNotDigitAndNotLetterOrDigitDifferByTheLettersExactlyRow.holds Try.pinned (OpenSpec.ofChange fnNotDigitAndNotLetterOrDigitDifferByTheLettersExactlySpec)

/-- ITS FALSE NEIGHBOUR: 'it returns false'. Refute it at one input. -/
def fnNotDigitAndNotLetterOrDigitDifferByTheLettersExactlyWrong : ChangeSpec := { name := "fnNotDigitAndNotLetterOrDigitDifferByTheLettersExactly", fn := fun _ => fun
  | [d1, d2] => { results := [.lit (.bool false)], args := [d1, d2] }
  | _ => none }
def FnNotDigitAndNotLetterOrDigitDifferByTheLettersExactlyWrongFalsely : Prop := fnNotDigitAndNotLetterOrDigitDifferByTheLettersExactlyRow.holds Try.pinned (OpenSpec.ofChange fnNotDigitAndNotLetterOrDigitDifferByTheLettersExactlyWrong)

/-- 'zzlaws_ofd_b1.FnNotLetterOrDigitAlnumsOfAnyWindowAreItsOverlapWithTheThreeRanges': WHATEVER THE INPUT: true; the input reads as it did. -/
def fnNotLetterOrDigitAlnumsOfAnyWindowAreItsOverlapWithTheThreeRangesSpec : ChangeSpec := { name := "fnNotLetterOrDigitAlnumsOfAnyWindowAreItsOverlapWithTheThreeRanges", fn := fun _ => fun
  | [d1, d2] => { results := [.lit (.bool true)], args := [d1, d2] }
  | _ => none }
def fnNotLetterOrDigitAlnumsOfAnyWindowAreItsOverlapWithTheThreeRangesRow : OpenClaim := { program := "qxb6616807a", sum := "0aa5fd6d7ccaa36d6bdc148f37a24146b890d8970ec90f9b9bf752d24a3f7933", func := "example.com/tuoguan/tuoguan/zzlaws_ofd_b1.FnNotLetterOrDigitAlnumsOfAnyWindowAreItsOverlapWithTheThreeRanges", spec := "fnNotLetterOrDigitAlnumsOfAnyWindowAreItsOverlapWithTheThreeRanges", apart := false }
def FnNotLetterOrDigitAlnumsOfAnyWindowAreItsOverlapWithTheThreeRangesSaid : Prop := fnNotLetterOrDigitAlnumsOfAnyWindowAreItsOverlapWithTheThreeRangesRow.holds Try.pinned (OpenSpec.ofChange fnNotLetterOrDigitAlnumsOfAnyWindowAreItsOverlapWithTheThreeRangesSpec)

/-- ITS FALSE NEIGHBOUR: 'it returns false'. Refute it at one input. -/
def fnNotLetterOrDigitAlnumsOfAnyWindowAreItsOverlapWithTheThreeRangesWrong : ChangeSpec := { name := "fnNotLetterOrDigitAlnumsOfAnyWindowAreItsOverlapWithTheThreeRanges", fn := fun _ => fun
  | [d1, d2] => { results := [.lit (.bool false)], args := [d1, d2] }
  | _ => none }
def FnNotLetterOrDigitAlnumsOfAnyWindowAreItsOverlapWithTheThreeRangesWrongFalsely : Prop := fnNotLetterOrDigitAlnumsOfAnyWindowAreItsOverlapWithTheThreeRangesRow.holds Try.pinned (OpenSpec.ofChange fnNotLetterOrDigitAlnumsOfAnyWindowAreItsOverlapWithTheThreeRangesWrong)

end Rows
end Go.Proofs.Qxb6616807a
