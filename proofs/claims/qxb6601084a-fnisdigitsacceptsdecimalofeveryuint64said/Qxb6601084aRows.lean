/-
  No cell of these rows narrows 'for every input' (looked for: loops, veiled, ifaces, maps, wideKeys, modest, calm, conditions, laid).
  DERIVED. THE GIVEN ROWS OF THIS SEAT. 8 by the template 'for every input the law returns true; each argument reads behind the call as it read before'; 0 by the template 'total and deterministic' (their statements: Qxb6601084aTotals.lean).
  GIVEN WITH THE SEED: the statements are not yours to turn. If you find one false, say at which input.
  Laid BY PROGRAM, IN A SANDBOX (cutbox-rows.mjs): the forced cells as the released guide's own fill.sh prints them over the translation 349c35ae5602e91c… (all of the seat's roots in one cut). By AI agents, Wed Nov 11 2026. No macro, syntax, notation, axiom, sorry.
-/
import Derived.Test.Qxb6601084aChecked
import GoSem.Claim
import GoSem.ClaimJoined
import GoSem.ClaimMapViews
import Derived.JoinedTies
import Derived.KernelRfl
namespace Go.Proofs.Qxb6601084a
/- THE CELL 'sum', in the pinned program and in every row, IS THE sha256 OF THE DUMP (.gsa) THAT Qxb6601084aProg.lean LOADS. Nothing in Lean hashes anything: it is a label: what it is worth is what the hold of that sum in a sandbox is worth. -/
noncomputable def Try.pinned : Pinned := { name := "qxb6601084a", sum := "349c35ae5602e91cec229638d0380e4d75bd35bf2f190b95c884e395599e2f35", checked := Try.checked }
namespace Rows
def none {H : Type} : Left H := { results := [], args := [] }

/-- 'zzlaws_pkg_decimal_b1.FnCoeffCmpMatchesBitwiseModel': WHATEVER THE INPUT: true; the input reads as it did. -/
def fnCoeffCmpMatchesBitwiseModelSpec : ChangeSpec := { name := "fnCoeffCmpMatchesBitwiseModel", fn := fun _ => fun
  | [d1, d2, d3, d4] => { results := [.lit (.bool true)], args := [d1, d2, d3, d4] }
  | _ => none }
def fnCoeffCmpMatchesBitwiseModelRow : OpenClaim := { program := "qxb6601084a", sum := "349c35ae5602e91cec229638d0380e4d75bd35bf2f190b95c884e395599e2f35", func := "example.com/custodex/custodex/zzlaws_pkg_decimal_b1.FnCoeffCmpMatchesBitwiseModel", spec := "fnCoeffCmpMatchesBitwiseModel", apart := false }
def FnCoeffCmpMatchesBitwiseModelSaid : Prop := fnCoeffCmpMatchesBitwiseModelRow.holds Try.pinned (OpenSpec.ofChange fnCoeffCmpMatchesBitwiseModelSpec)

/-- ITS FALSE NEIGHBOUR: 'it returns false'. Refute it at one input. -/
def fnCoeffCmpMatchesBitwiseModelWrong : ChangeSpec := { name := "fnCoeffCmpMatchesBitwiseModel", fn := fun _ => fun
  | [d1, d2, d3, d4] => { results := [.lit (.bool false)], args := [d1, d2, d3, d4] }
  | _ => none }
def FnCoeffCmpMatchesBitwiseModelWrongFalsely : Prop := fnCoeffCmpMatchesBitwiseModelRow.holds Try.pinned (OpenSpec.ofChange fnCoeffCmpMatchesBitwiseModelWrong)

/-- 'zzlaws_pkg_decimal_b1.FnCoeffCmpAntisymmetricAndZeroOnlyAtEqual': WHATEVER THE INPUT: true; the input reads as it did. -/
def fnCoeffCmpAntisymmetricAndZeroOnlyAtEqualSpec : ChangeSpec := { name := "fnCoeffCmpAntisymmetricAndZeroOnlyAtEqual", fn := fun _ => fun
  | [d1, d2, d3, d4] => { results := [.lit (.bool true)], args := [d1, d2, d3, d4] }
  | _ => none }
def fnCoeffCmpAntisymmetricAndZeroOnlyAtEqualRow : OpenClaim := { program := "qxb6601084a", sum := "349c35ae5602e91cec229638d0380e4d75bd35bf2f190b95c884e395599e2f35", func := "example.com/custodex/custodex/zzlaws_pkg_decimal_b1.FnCoeffCmpAntisymmetricAndZeroOnlyAtEqual", spec := "fnCoeffCmpAntisymmetricAndZeroOnlyAtEqual", apart := false }
def FnCoeffCmpAntisymmetricAndZeroOnlyAtEqualSaid : Prop := fnCoeffCmpAntisymmetricAndZeroOnlyAtEqualRow.holds Try.pinned (OpenSpec.ofChange fnCoeffCmpAntisymmetricAndZeroOnlyAtEqualSpec)

/-- ITS FALSE NEIGHBOUR: 'it returns false'. Refute it at one input. -/
def fnCoeffCmpAntisymmetricAndZeroOnlyAtEqualWrong : ChangeSpec := { name := "fnCoeffCmpAntisymmetricAndZeroOnlyAtEqual", fn := fun _ => fun
  | [d1, d2, d3, d4] => { results := [.lit (.bool false)], args := [d1, d2, d3, d4] }
  | _ => none }
def FnCoeffCmpAntisymmetricAndZeroOnlyAtEqualWrongFalsely : Prop := fnCoeffCmpAntisymmetricAndZeroOnlyAtEqualRow.holds Try.pinned (OpenSpec.ofChange fnCoeffCmpAntisymmetricAndZeroOnlyAtEqualWrong)

/-- 'zzlaws_pkg_decimal_b1.FnCoeffCmpTransitive': WHATEVER THE INPUT: true; the input reads as it did. -/
def fnCoeffCmpTransitiveSpec : ChangeSpec := { name := "fnCoeffCmpTransitive", fn := fun _ => fun
  | [d1, d2, d3, d4, d5, d6] => { results := [.lit (.bool true)], args := [d1, d2, d3, d4, d5, d6] }
  | _ => none }
def fnCoeffCmpTransitiveRow : OpenClaim := { program := "qxb6601084a", sum := "349c35ae5602e91cec229638d0380e4d75bd35bf2f190b95c884e395599e2f35", func := "example.com/custodex/custodex/zzlaws_pkg_decimal_b1.FnCoeffCmpTransitive", spec := "fnCoeffCmpTransitive", apart := false }
def FnCoeffCmpTransitiveSaid : Prop := fnCoeffCmpTransitiveRow.holds Try.pinned (OpenSpec.ofChange fnCoeffCmpTransitiveSpec)

/-- ITS FALSE NEIGHBOUR: 'it returns false'. Refute it at one input. -/
def fnCoeffCmpTransitiveWrong : ChangeSpec := { name := "fnCoeffCmpTransitive", fn := fun _ => fun
  | [d1, d2, d3, d4, d5, d6] => { results := [.lit (.bool false)], args := [d1, d2, d3, d4, d5, d6] }
  | _ => none }
def FnCoeffCmpTransitiveWrongFalsely : Prop := fnCoeffCmpTransitiveRow.holds Try.pinned (OpenSpec.ofChange fnCoeffCmpTransitiveWrong)

/-- 'zzlaws_pkg_decimal_b1.FnSignAgreesWithCmpAgainstZero': WHATEVER THE INPUT: true; the input reads as it did. -/
def fnSignAgreesWithCmpAgainstZeroSpec : ChangeSpec := { name := "fnSignAgreesWithCmpAgainstZero", fn := fun _ => fun
  | [d1, d2, d3, d4] => { results := [.lit (.bool true)], args := [d1, d2, d3, d4] }
  | _ => none }
def fnSignAgreesWithCmpAgainstZeroRow : OpenClaim := { program := "qxb6601084a", sum := "349c35ae5602e91cec229638d0380e4d75bd35bf2f190b95c884e395599e2f35", func := "example.com/custodex/custodex/zzlaws_pkg_decimal_b1.FnSignAgreesWithCmpAgainstZero", spec := "fnSignAgreesWithCmpAgainstZero", apart := false }
def FnSignAgreesWithCmpAgainstZeroSaid : Prop := fnSignAgreesWithCmpAgainstZeroRow.holds Try.pinned (OpenSpec.ofChange fnSignAgreesWithCmpAgainstZeroSpec)

/-- ITS FALSE NEIGHBOUR: 'it returns false'. Refute it at one input. -/
def fnSignAgreesWithCmpAgainstZeroWrong : ChangeSpec := { name := "fnSignAgreesWithCmpAgainstZero", fn := fun _ => fun
  | [d1, d2, d3, d4] => { results := [.lit (.bool false)], args := [d1, d2, d3, d4] }
  | _ => none }
def FnSignAgreesWithCmpAgainstZeroWrongFalsely : Prop := fnSignAgreesWithCmpAgainstZeroRow.holds Try.pinned (OpenSpec.ofChange fnSignAgreesWithCmpAgainstZeroWrong)

/-- 'zzlaws_pkg_decimal_b1.FnSignFlipsWithNegAndIgnoresExp': WHATEVER THE INPUT: true; the input reads as it did. -/
def fnSignFlipsWithNegAndIgnoresExpSpec : ChangeSpec := { name := "fnSignFlipsWithNegAndIgnoresExp", fn := fun _ => fun
  | [d1, d2, d3, d4, d5] => { results := [.lit (.bool true)], args := [d1, d2, d3, d4, d5] }
  | _ => none }
def fnSignFlipsWithNegAndIgnoresExpRow : OpenClaim := { program := "qxb6601084a", sum := "349c35ae5602e91cec229638d0380e4d75bd35bf2f190b95c884e395599e2f35", func := "example.com/custodex/custodex/zzlaws_pkg_decimal_b1.FnSignFlipsWithNegAndIgnoresExp", spec := "fnSignFlipsWithNegAndIgnoresExp", apart := false }
def FnSignFlipsWithNegAndIgnoresExpSaid : Prop := fnSignFlipsWithNegAndIgnoresExpRow.holds Try.pinned (OpenSpec.ofChange fnSignFlipsWithNegAndIgnoresExpSpec)

/-- ITS FALSE NEIGHBOUR: 'it returns false'. Refute it at one input. -/
def fnSignFlipsWithNegAndIgnoresExpWrong : ChangeSpec := { name := "fnSignFlipsWithNegAndIgnoresExp", fn := fun _ => fun
  | [d1, d2, d3, d4, d5] => { results := [.lit (.bool false)], args := [d1, d2, d3, d4, d5] }
  | _ => none }
def FnSignFlipsWithNegAndIgnoresExpWrongFalsely : Prop := fnSignFlipsWithNegAndIgnoresExpRow.holds Try.pinned (OpenSpec.ofChange fnSignFlipsWithNegAndIgnoresExpWrong)

/-- 'zzlaws_pkg_decimal_b1.FnIsDigitsMatchesCountModel': WHATEVER THE INPUT: true; the input reads as it did. -/
def fnIsDigitsMatchesCountModelSpec : ChangeSpec := { name := "fnIsDigitsMatchesCountModel", fn := fun _ => fun
  | [d] => { results := [.lit (.bool true)], args := [d] }
  | _ => none }
def fnIsDigitsMatchesCountModelRow : OpenClaim := { program := "qxb6601084a", sum := "349c35ae5602e91cec229638d0380e4d75bd35bf2f190b95c884e395599e2f35", func := "example.com/custodex/custodex/zzlaws_pkg_decimal_b1.FnIsDigitsMatchesCountModel", spec := "fnIsDigitsMatchesCountModel", apart := false }
def FnIsDigitsMatchesCountModelSaid : Prop := fnIsDigitsMatchesCountModelRow.holds Try.pinned (OpenSpec.ofChange fnIsDigitsMatchesCountModelSpec)

/-- ITS FALSE NEIGHBOUR: 'it returns false'. Refute it at one input. -/
def fnIsDigitsMatchesCountModelWrong : ChangeSpec := { name := "fnIsDigitsMatchesCountModel", fn := fun _ => fun
  | [d] => { results := [.lit (.bool false)], args := [d] }
  | _ => none }
def FnIsDigitsMatchesCountModelWrongFalsely : Prop := fnIsDigitsMatchesCountModelRow.holds Try.pinned (OpenSpec.ofChange fnIsDigitsMatchesCountModelWrong)

/-- 'zzlaws_pkg_decimal_b1.FnIsDigitsSplits': WHATEVER THE INPUT: true; the input reads as it did. -/
def fnIsDigitsSplitsSpec : ChangeSpec := { name := "fnIsDigitsSplits", fn := fun _ => fun
  | [d1, d2] => { results := [.lit (.bool true)], args := [d1, d2] }
  | _ => none }
def fnIsDigitsSplitsRow : OpenClaim := { program := "qxb6601084a", sum := "349c35ae5602e91cec229638d0380e4d75bd35bf2f190b95c884e395599e2f35", func := "example.com/custodex/custodex/zzlaws_pkg_decimal_b1.FnIsDigitsSplits", spec := "fnIsDigitsSplits", apart := false }
def FnIsDigitsSplitsSaid : Prop := fnIsDigitsSplitsRow.holds Try.pinned (OpenSpec.ofChange fnIsDigitsSplitsSpec)

/-- ITS FALSE NEIGHBOUR: 'it returns false'. Refute it at one input. -/
def fnIsDigitsSplitsWrong : ChangeSpec := { name := "fnIsDigitsSplits", fn := fun _ => fun
  | [d1, d2] => { results := [.lit (.bool false)], args := [d1, d2] }
  | _ => none }
def FnIsDigitsSplitsWrongFalsely : Prop := fnIsDigitsSplitsRow.holds Try.pinned (OpenSpec.ofChange fnIsDigitsSplitsWrong)

/-- 'zzlaws_pkg_decimal_b1.FnIsDigitsAcceptsDecimalOfEveryUint64': WHATEVER THE INPUT: true; the input reads as it did. -/
def fnIsDigitsAcceptsDecimalOfEveryUint64Spec : ChangeSpec := { name := "fnIsDigitsAcceptsDecimalOfEveryUint64", fn := fun _ => fun
  | [d] => { results := [.lit (.bool true)], args := [d] }
  | _ => none }
def fnIsDigitsAcceptsDecimalOfEveryUint64Row : OpenClaim := { program := "qxb6601084a", sum := "349c35ae5602e91cec229638d0380e4d75bd35bf2f190b95c884e395599e2f35", func := "example.com/custodex/custodex/zzlaws_pkg_decimal_b1.FnIsDigitsAcceptsDecimalOfEveryUint64", spec := "fnIsDigitsAcceptsDecimalOfEveryUint64", apart := false }
def FnIsDigitsAcceptsDecimalOfEveryUint64Said : Prop := fnIsDigitsAcceptsDecimalOfEveryUint64Row.holds Try.pinned (OpenSpec.ofChange fnIsDigitsAcceptsDecimalOfEveryUint64Spec)

/-- ITS FALSE NEIGHBOUR: 'it returns false'. Refute it at one input. -/
def fnIsDigitsAcceptsDecimalOfEveryUint64Wrong : ChangeSpec := { name := "fnIsDigitsAcceptsDecimalOfEveryUint64", fn := fun _ => fun
  | [d] => { results := [.lit (.bool false)], args := [d] }
  | _ => none }
def FnIsDigitsAcceptsDecimalOfEveryUint64WrongFalsely : Prop := fnIsDigitsAcceptsDecimalOfEveryUint64Row.holds Try.pinned (OpenSpec.ofChange fnIsDigitsAcceptsDecimalOfEveryUint64Wrong)

end Rows
end Go.Proofs.Qxb6601084a
