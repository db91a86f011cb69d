/-
  No cell of these rows narrows 'for every input' (looked for: loops, veiled, ifaces, maps, wideKeys, modest, calm, conditions, laid).
  DERIVED. THE GIVEN ROWS OF THIS SEAT. 5 by the template 'for every input the law returns true; each argument reads behind the call as it read before'; 0 by the template 'total and deterministic' (their statements: Qxb6602087aTotals.lean).
  GIVEN WITH THE SEED: the statements are not yours to turn. If you find one false, say at which input.
  Laid BY PROGRAM, IN A SANDBOX (cutbox-rows.mjs): the forced cells as the released guide's own fill.sh prints them over the translation aa34b742917ec8ca… (all of the seat's roots in one cut). By AI agents, Wed Nov 11 2026. No macro, syntax, notation, axiom, sorry.
-/
import Derived.Test.Qxb6602087aChecked
import GoSem.Claim
import GoSem.ClaimJoined
import GoSem.ClaimMapViews
import Derived.JoinedTies
import Derived.KernelRfl
namespace Go.Proofs.Qxb6602087a
/- THE CELL 'sum', in the pinned program and in every row, IS THE sha256 OF THE DUMP (.gsa) THAT Qxb6602087aProg.lean LOADS. Nothing in Lean hashes anything: it is a label: what it is worth is what the hold of that sum in a sandbox is worth. -/
noncomputable def Try.pinned : Pinned := { name := "qxb6602087a", sum := "aa34b742917ec8ca282cd386baa12d06783408155a44384ef6e4912a85c541a9", checked := Try.checked }
namespace Rows
def none {H : Type} : Left H := { results := [], args := [] }

/-- 'zzlaws_internal_calendar_b1.FnMonthDaysMatchesClosedForm': WHATEVER THE INPUT: true; the input reads as it did. -/
def fnMonthDaysMatchesClosedFormSpec : ChangeSpec := { name := "fnMonthDaysMatchesClosedForm", fn := fun _ => fun
  | [d1, d2] => { results := [.lit (.bool true)], args := [d1, d2] }
  | _ => none }
def fnMonthDaysMatchesClosedFormRow : OpenClaim := { program := "qxb6602087a", sum := "aa34b742917ec8ca282cd386baa12d06783408155a44384ef6e4912a85c541a9", func := "example.com/repoledger/repoledger/zzlaws_internal_calendar_b1.FnMonthDaysMatchesClosedForm", spec := "fnMonthDaysMatchesClosedForm", apart := false }
def FnMonthDaysMatchesClosedFormSaid : Prop := fnMonthDaysMatchesClosedFormRow.holds Try.pinned (OpenSpec.ofChange fnMonthDaysMatchesClosedFormSpec)

/-- ITS FALSE NEIGHBOUR: 'it returns false'. Refute it at one input. -/
def fnMonthDaysMatchesClosedFormWrong : ChangeSpec := { name := "fnMonthDaysMatchesClosedForm", fn := fun _ => fun
  | [d1, d2] => { results := [.lit (.bool false)], args := [d1, d2] }
  | _ => none }
def FnMonthDaysMatchesClosedFormWrongFalsely : Prop := fnMonthDaysMatchesClosedFormRow.holds Try.pinned (OpenSpec.ofChange fnMonthDaysMatchesClosedFormWrong)

/-- 'zzlaws_internal_calendar_b1.FnMonthDaysFourHundredYearCycle': WHATEVER THE INPUT: true; the input reads as it did. -/
def fnMonthDaysFourHundredYearCycleSpec : ChangeSpec := { name := "fnMonthDaysFourHundredYearCycle", fn := fun _ => fun
  | [d] => { results := [.lit (.bool true)], args := [d] }
  | _ => none }
def fnMonthDaysFourHundredYearCycleRow : OpenClaim := { program := "qxb6602087a", sum := "aa34b742917ec8ca282cd386baa12d06783408155a44384ef6e4912a85c541a9", func := "example.com/repoledger/repoledger/zzlaws_internal_calendar_b1.FnMonthDaysFourHundredYearCycle", spec := "fnMonthDaysFourHundredYearCycle", apart := false }
def FnMonthDaysFourHundredYearCycleSaid : Prop := fnMonthDaysFourHundredYearCycleRow.holds Try.pinned (OpenSpec.ofChange fnMonthDaysFourHundredYearCycleSpec)

/-- ITS FALSE NEIGHBOUR: 'it returns false'. Refute it at one input. -/
def fnMonthDaysFourHundredYearCycleWrong : ChangeSpec := { name := "fnMonthDaysFourHundredYearCycle", fn := fun _ => fun
  | [d] => { results := [.lit (.bool false)], args := [d] }
  | _ => none }
def FnMonthDaysFourHundredYearCycleWrongFalsely : Prop := fnMonthDaysFourHundredYearCycleRow.holds Try.pinned (OpenSpec.ofChange fnMonthDaysFourHundredYearCycleWrong)

/-- 'zzlaws_internal_calendar_b1.FnDigitsMatchesRightToLeftModel': WHATEVER THE INPUT: true; the input reads as it did. -/
def fnDigitsMatchesRightToLeftModelSpec : ChangeSpec := { name := "fnDigitsMatchesRightToLeftModel", fn := fun _ => fun
  | [d] => { results := [.lit (.bool true)], args := [d] }
  | _ => none }
def fnDigitsMatchesRightToLeftModelRow : OpenClaim := { program := "qxb6602087a", sum := "aa34b742917ec8ca282cd386baa12d06783408155a44384ef6e4912a85c541a9", func := "example.com/repoledger/repoledger/zzlaws_internal_calendar_b1.FnDigitsMatchesRightToLeftModel", spec := "fnDigitsMatchesRightToLeftModel", apart := false }
def FnDigitsMatchesRightToLeftModelSaid : Prop := fnDigitsMatchesRightToLeftModelRow.holds Try.pinned (OpenSpec.ofChange fnDigitsMatchesRightToLeftModelSpec)

/-- ITS FALSE NEIGHBOUR: 'it returns false'. Refute it at one input. -/
def fnDigitsMatchesRightToLeftModelWrong : ChangeSpec := { name := "fnDigitsMatchesRightToLeftModel", fn := fun _ => fun
  | [d] => { results := [.lit (.bool false)], args := [d] }
  | _ => none }
def FnDigitsMatchesRightToLeftModelWrongFalsely : Prop := fnDigitsMatchesRightToLeftModelRow.holds Try.pinned (OpenSpec.ofChange fnDigitsMatchesRightToLeftModelWrong)

/-- 'zzlaws_internal_calendar_b1.FnDigitsRoundTripsDecimal': WHATEVER THE INPUT: true; the input reads as it did. -/
def fnDigitsRoundTripsDecimalSpec : ChangeSpec := { name := "fnDigitsRoundTripsDecimal", fn := fun _ => fun
  | [d] => { results := [.lit (.bool true)], args := [d] }
  | _ => none }
def fnDigitsRoundTripsDecimalRow : OpenClaim := { program := "qxb6602087a", sum := "aa34b742917ec8ca282cd386baa12d06783408155a44384ef6e4912a85c541a9", func := "example.com/repoledger/repoledger/zzlaws_internal_calendar_b1.FnDigitsRoundTripsDecimal", spec := "fnDigitsRoundTripsDecimal", apart := false }
def FnDigitsRoundTripsDecimalSaid : Prop := fnDigitsRoundTripsDecimalRow.holds Try.pinned (OpenSpec.ofChange fnDigitsRoundTripsDecimalSpec)

/-- ITS FALSE NEIGHBOUR: 'it returns false'. Refute it at one input. -/
def fnDigitsRoundTripsDecimalWrong : ChangeSpec := { name := "fnDigitsRoundTripsDecimal", fn := fun _ => fun
  | [d] => { results := [.lit (.bool false)], args := [d] }
  | _ => none }
def FnDigitsRoundTripsDecimalWrongFalsely : Prop := fnDigitsRoundTripsDecimalRow.holds Try.pinned (OpenSpec.ofChange fnDigitsRoundTripsDecimalWrong)

/-- 'zzlaws_internal_calendar_b1.FnDigitsIgnoresLeadingZero': WHATEVER THE INPUT: true; the input reads as it did. -/
def fnDigitsIgnoresLeadingZeroSpec : ChangeSpec := { name := "fnDigitsIgnoresLeadingZero", fn := fun _ => fun
  | [d] => { results := [.lit (.bool true)], args := [d] }
  | _ => none }
def fnDigitsIgnoresLeadingZeroRow : OpenClaim := { program := "qxb6602087a", sum := "aa34b742917ec8ca282cd386baa12d06783408155a44384ef6e4912a85c541a9", func := "example.com/repoledger/repoledger/zzlaws_internal_calendar_b1.FnDigitsIgnoresLeadingZero", spec := "fnDigitsIgnoresLeadingZero", apart := false }
def FnDigitsIgnoresLeadingZeroSaid : Prop := fnDigitsIgnoresLeadingZeroRow.holds Try.pinned (OpenSpec.ofChange fnDigitsIgnoresLeadingZeroSpec)

/-- ITS FALSE NEIGHBOUR: 'it returns false'. Refute it at one input. -/
def fnDigitsIgnoresLeadingZeroWrong : ChangeSpec := { name := "fnDigitsIgnoresLeadingZero", fn := fun _ => fun
  | [d] => { results := [.lit (.bool false)], args := [d] }
  | _ => none }
def FnDigitsIgnoresLeadingZeroWrongFalsely : Prop := fnDigitsIgnoresLeadingZeroRow.holds Try.pinned (OpenSpec.ofChange fnDigitsIgnoresLeadingZeroWrong)

end Rows
end Go.Proofs.Qxb6602087a
