/-
  No cell of these rows narrows 'for every input' (looked for: loops, veiled, ifaces, maps, wideKeys, modest, calm, conditions, laid).
  DERIVED. THE GIVEN ROWS OF THIS SEAT. 5 by the template 'for every input the law returns true; each argument reads behind the call as it read before'; 0 by the template 'total and deterministic' (their statements: Qxb6600731aTotals.lean).
  GIVEN WITH THE SEED: the statements are not yours to turn. If you find one false, say at which input.
  Laid BY PROGRAM, IN A SANDBOX (cutbox-rows.mjs): the forced cells as the released guide's own fill.sh prints them over the translation 426d8f05a6cda080… (all of the seat's roots in one cut). By AI agents, Wed Nov 11 2026. No macro, syntax, notation, axiom, sorry.
-/
import Derived.Test.Qxb6600731aChecked
import GoSem.Claim
import GoSem.ClaimJoined
import GoSem.ClaimMapViews
import Derived.JoinedTies
import Derived.KernelRfl
namespace Go.Proofs.Qxb6600731a
/- THE CELL 'sum', in the pinned program and in every row, IS THE sha256 OF THE DUMP (.gsa) THAT Qxb6600731aProg.lean LOADS. Nothing in Lean hashes anything: it is a label: what it is worth is what the hold of that sum in a sandbox is worth. -/
noncomputable def Try.pinned : Pinned := { name := "qxb6600731a", sum := "426d8f05a6cda080e51f7a3edf6bd1703b4090d48bd6546571ac1341d466c296", checked := Try.checked }
namespace Rows
def none {H : Type} : Left H := { results := [], args := [] }

/-- 'zzlaws_root_b1.FnValueUpToExact': WHATEVER THE INPUT: true; the input reads as it did. -/
def fnValueUpToExactSpec : ChangeSpec := { name := "fnValueUpToExact", fn := fun _ => fun
  | [d1, d2] => { results := [.lit (.bool true)], args := [d1, d2] }
  | _ => none }
def fnValueUpToExactRow : OpenClaim := { program := "qxb6600731a", sum := "426d8f05a6cda080e51f7a3edf6bd1703b4090d48bd6546571ac1341d466c296", func := "example.com/interval/interval/zzlaws_root_b1.FnValueUpToExact", spec := "fnValueUpToExact", apart := false }
def FnValueUpToExactSaid : Prop := fnValueUpToExactRow.holds Try.pinned (OpenSpec.ofChange fnValueUpToExactSpec)

/-- ITS FALSE NEIGHBOUR: 'it returns false'. Refute it at one input. -/
def fnValueUpToExactWrong : ChangeSpec := { name := "fnValueUpToExact", fn := fun _ => fun
  | [d1, d2] => { results := [.lit (.bool false)], args := [d1, d2] }
  | _ => none }
def FnValueUpToExactWrongFalsely : Prop := fnValueUpToExactRow.holds Try.pinned (OpenSpec.ofChange fnValueUpToExactWrong)

/-- 'zzlaws_root_b1.FnValueUpToLimitAgreement': WHATEVER THE INPUT: true; the input reads as it did. -/
def fnValueUpToLimitAgreementSpec : ChangeSpec := { name := "fnValueUpToLimitAgreement", fn := fun _ => fun
  | [d1, d2, d3] => { results := [.lit (.bool true)], args := [d1, d2, d3] }
  | _ => none }
def fnValueUpToLimitAgreementRow : OpenClaim := { program := "qxb6600731a", sum := "426d8f05a6cda080e51f7a3edf6bd1703b4090d48bd6546571ac1341d466c296", func := "example.com/interval/interval/zzlaws_root_b1.FnValueUpToLimitAgreement", spec := "fnValueUpToLimitAgreement", apart := false }
def FnValueUpToLimitAgreementSaid : Prop := fnValueUpToLimitAgreementRow.holds Try.pinned (OpenSpec.ofChange fnValueUpToLimitAgreementSpec)

/-- ITS FALSE NEIGHBOUR: 'it returns false'. Refute it at one input. -/
def fnValueUpToLimitAgreementWrong : ChangeSpec := { name := "fnValueUpToLimitAgreement", fn := fun _ => fun
  | [d1, d2, d3] => { results := [.lit (.bool false)], args := [d1, d2, d3] }
  | _ => none }
def FnValueUpToLimitAgreementWrongFalsely : Prop := fnValueUpToLimitAgreementRow.holds Try.pinned (OpenSpec.ofChange fnValueUpToLimitAgreementWrong)

/-- 'zzlaws_root_b1.FnDatesInMonthsAndDaysRoundTrip': WHATEVER THE INPUT: true; the input reads as it did. -/
def fnDatesInMonthsAndDaysRoundTripSpec : ChangeSpec := { name := "fnDatesInMonthsAndDaysRoundTrip", fn := fun _ => fun
  | [d1, d2, d3] => { results := [.lit (.bool true)], args := [d1, d2, d3] }
  | _ => none }
def fnDatesInMonthsAndDaysRoundTripRow : OpenClaim := { program := "qxb6600731a", sum := "426d8f05a6cda080e51f7a3edf6bd1703b4090d48bd6546571ac1341d466c296", func := "example.com/interval/interval/zzlaws_root_b1.FnDatesInMonthsAndDaysRoundTrip", spec := "fnDatesInMonthsAndDaysRoundTrip", apart := false }
def FnDatesInMonthsAndDaysRoundTripSaid : Prop := fnDatesInMonthsAndDaysRoundTripRow.holds Try.pinned (OpenSpec.ofChange fnDatesInMonthsAndDaysRoundTripSpec)

/-- ITS FALSE NEIGHBOUR: 'it returns false'. Refute it at one input. -/
def fnDatesInMonthsAndDaysRoundTripWrong : ChangeSpec := { name := "fnDatesInMonthsAndDaysRoundTrip", fn := fun _ => fun
  | [d1, d2, d3] => { results := [.lit (.bool false)], args := [d1, d2, d3] }
  | _ => none }
def FnDatesInMonthsAndDaysRoundTripWrongFalsely : Prop := fnDatesInMonthsAndDaysRoundTripRow.holds Try.pinned (OpenSpec.ofChange fnDatesInMonthsAndDaysRoundTripWrong)

/-- 'zzlaws_root_b1.FnMonthsAndDaysExact': WHATEVER THE INPUT: true; the input reads as it did. -/
def fnMonthsAndDaysExactSpec : ChangeSpec := { name := "fnMonthsAndDaysExact", fn := fun _ => fun
  | [d1, d2] => { results := [.lit (.bool true)], args := [d1, d2] }
  | _ => none }
def fnMonthsAndDaysExactRow : OpenClaim := { program := "qxb6600731a", sum := "426d8f05a6cda080e51f7a3edf6bd1703b4090d48bd6546571ac1341d466c296", func := "example.com/interval/interval/zzlaws_root_b1.FnMonthsAndDaysExact", spec := "fnMonthsAndDaysExact", apart := false }
def FnMonthsAndDaysExactSaid : Prop := fnMonthsAndDaysExactRow.holds Try.pinned (OpenSpec.ofChange fnMonthsAndDaysExactSpec)

/-- ITS FALSE NEIGHBOUR: 'it returns false'. Refute it at one input. -/
def fnMonthsAndDaysExactWrong : ChangeSpec := { name := "fnMonthsAndDaysExact", fn := fun _ => fun
  | [d1, d2] => { results := [.lit (.bool false)], args := [d1, d2] }
  | _ => none }
def FnMonthsAndDaysExactWrongFalsely : Prop := fnMonthsAndDaysExactRow.holds Try.pinned (OpenSpec.ofChange fnMonthsAndDaysExactWrong)

/-- 'zzlaws_root_b1.FnMonthsAndDaysUniformInverse': WHATEVER THE INPUT: true; the input reads as it did. -/
def fnMonthsAndDaysUniformInverseSpec : ChangeSpec := { name := "fnMonthsAndDaysUniformInverse", fn := fun _ => fun
  | [d1, d2] => { results := [.lit (.bool true)], args := [d1, d2] }
  | _ => none }
def fnMonthsAndDaysUniformInverseRow : OpenClaim := { program := "qxb6600731a", sum := "426d8f05a6cda080e51f7a3edf6bd1703b4090d48bd6546571ac1341d466c296", func := "example.com/interval/interval/zzlaws_root_b1.FnMonthsAndDaysUniformInverse", spec := "fnMonthsAndDaysUniformInverse", apart := false }
def FnMonthsAndDaysUniformInverseSaid : Prop := fnMonthsAndDaysUniformInverseRow.holds Try.pinned (OpenSpec.ofChange fnMonthsAndDaysUniformInverseSpec)

/-- ITS FALSE NEIGHBOUR: 'it returns false'. Refute it at one input. -/
def fnMonthsAndDaysUniformInverseWrong : ChangeSpec := { name := "fnMonthsAndDaysUniformInverse", fn := fun _ => fun
  | [d1, d2] => { results := [.lit (.bool false)], args := [d1, d2] }
  | _ => none }
def FnMonthsAndDaysUniformInverseWrongFalsely : Prop := fnMonthsAndDaysUniformInverseRow.holds Try.pinned (OpenSpec.ofChange fnMonthsAndDaysUniformInverseWrong)

end Rows
end Go.Proofs.Qxb6600731a
