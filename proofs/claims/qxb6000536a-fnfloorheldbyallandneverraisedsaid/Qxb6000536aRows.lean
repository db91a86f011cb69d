/-
  No cell of these rows narrows 'for every input' (looked for: loops, veiled, ifaces, maps, wideKeys, modest, calm, conditions, laid).
  DERIVED. THE GIVEN ROWS OF THIS SEAT. 5 by the template 'for every input the law returns true; each argument reads behind the call as it read before'; 0 by the template 'total and deterministic' (their statements: Qxb6000536aTotals.lean).
  GIVEN WITH THE SEED: the statements are not yours to turn. If you find one false, say at which input.
  Laid BY PROGRAM, IN A SANDBOX (cutbox-rows.mjs): the forced cells as the released guide's own fill.sh prints them over the translation 8939d13477061812… (all of the seat's roots in one cut). By AI agents, Wed Nov 11 2026. No macro, syntax, notation, axiom, sorry.
-/
import Derived.Test.Qxb6000536aChecked
import GoSem.Claim
import GoSem.ClaimJoined
import GoSem.ClaimMapViews
import Derived.JoinedTies
import Derived.KernelRfl
namespace Go.Proofs.Qxb6000536a
/- THE CELL 'sum', in the pinned program and in every row, IS THE sha256 OF THE DUMP (.gsa) THAT Qxb6000536aProg.lean LOADS. Nothing in Lean hashes anything: it is a label: what it is worth is what the hold of that sum in a sandbox is worth. -/
noncomputable def Try.pinned : Pinned := { name := "qxb6000536a", sum := "8939d134770618121b5b4036e0e17cfc4ab6c02ff2469810df2338f4b9dde06d", checked := Try.checked }
namespace Rows
def none {H : Type} : Left H := { results := [], args := [] }

/-- 'zzlaws_internal_clock_b1.FnHasAllIffAddingChangesNothing': WHATEVER THE INPUT: true; the input reads as it did. -/
def fnHasAllIffAddingChangesNothingSpec : ChangeSpec := { name := "fnHasAllIffAddingChangesNothing", fn := fun _ => fun
  | [d1, d2, d3, d4] => { results := [.lit (.bool true)], args := [d1, d2, d3, d4] }
  | _ => none }
def fnHasAllIffAddingChangesNothingRow : OpenClaim := { program := "qxb6000536a", sum := "8939d134770618121b5b4036e0e17cfc4ab6c02ff2469810df2338f4b9dde06d", func := "example.com/quorumless/quorumless/zzlaws_internal_clock_b1.FnHasAllIffAddingChangesNothing", spec := "fnHasAllIffAddingChangesNothing", inPlace := ["slices.overlaps[uint64]"], apart := false }
def FnHasAllIffAddingChangesNothingSaid : Prop := fnHasAllIffAddingChangesNothingRow.holds Try.pinned (OpenSpec.ofChange fnHasAllIffAddingChangesNothingSpec)

/-- ITS FALSE NEIGHBOUR: 'it returns false'. Refute it at one input. -/
def fnHasAllIffAddingChangesNothingWrong : ChangeSpec := { name := "fnHasAllIffAddingChangesNothing", fn := fun _ => fun
  | [d1, d2, d3, d4] => { results := [.lit (.bool false)], args := [d1, d2, d3, d4] }
  | _ => none }
def FnHasAllIffAddingChangesNothingWrongFalsely : Prop := fnHasAllIffAddingChangesNothingRow.holds Try.pinned (OpenSpec.ofChange fnHasAllIffAddingChangesNothingWrong)

/-- 'zzlaws_internal_clock_b1.FnHasAllHoldsOwnEntryAsWritesGrow': WHATEVER THE INPUT: true; the input reads as it did. -/
def fnHasAllHoldsOwnEntryAsWritesGrowSpec : ChangeSpec := { name := "fnHasAllHoldsOwnEntryAsWritesGrow", fn := fun _ => fun
  | [d1, d2, d3, d4, d5] => { results := [.lit (.bool true)], args := [d1, d2, d3, d4, d5] }
  | _ => none }
def fnHasAllHoldsOwnEntryAsWritesGrowRow : OpenClaim := { program := "qxb6000536a", sum := "8939d134770618121b5b4036e0e17cfc4ab6c02ff2469810df2338f4b9dde06d", func := "example.com/quorumless/quorumless/zzlaws_internal_clock_b1.FnHasAllHoldsOwnEntryAsWritesGrow", spec := "fnHasAllHoldsOwnEntryAsWritesGrow", inPlace := ["slices.overlaps[uint64]"], apart := false }
def FnHasAllHoldsOwnEntryAsWritesGrowSaid : Prop := fnHasAllHoldsOwnEntryAsWritesGrowRow.holds Try.pinned (OpenSpec.ofChange fnHasAllHoldsOwnEntryAsWritesGrowSpec)

/-- ITS FALSE NEIGHBOUR: 'it returns false'. Refute it at one input. -/
def fnHasAllHoldsOwnEntryAsWritesGrowWrong : ChangeSpec := { name := "fnHasAllHoldsOwnEntryAsWritesGrow", fn := fun _ => fun
  | [d1, d2, d3, d4, d5] => { results := [.lit (.bool false)], args := [d1, d2, d3, d4, d5] }
  | _ => none }
def FnHasAllHoldsOwnEntryAsWritesGrowWrongFalsely : Prop := fnHasAllHoldsOwnEntryAsWritesGrowRow.holds Try.pinned (OpenSpec.ofChange fnHasAllHoldsOwnEntryAsWritesGrowWrong)

/-- 'zzlaws_internal_clock_b1.FnFloorIsLongestPrefixAllClocksHold': WHATEVER THE INPUT: true; the input reads as it did. -/
def fnFloorIsLongestPrefixAllClocksHoldSpec : ChangeSpec := { name := "fnFloorIsLongestPrefixAllClocksHold", fn := fun _ => fun
  | [d1, d2, d3, d4] => { results := [.lit (.bool true)], args := [d1, d2, d3, d4] }
  | _ => none }
def fnFloorIsLongestPrefixAllClocksHoldRow : OpenClaim := { program := "qxb6000536a", sum := "8939d134770618121b5b4036e0e17cfc4ab6c02ff2469810df2338f4b9dde06d", func := "example.com/quorumless/quorumless/zzlaws_internal_clock_b1.FnFloorIsLongestPrefixAllClocksHold", spec := "fnFloorIsLongestPrefixAllClocksHold", inPlace := ["slices.overlaps[uint64]"], apart := false }
def FnFloorIsLongestPrefixAllClocksHoldSaid : Prop := fnFloorIsLongestPrefixAllClocksHoldRow.holds Try.pinned (OpenSpec.ofChange fnFloorIsLongestPrefixAllClocksHoldSpec)

/-- ITS FALSE NEIGHBOUR: 'it returns false'. Refute it at one input. -/
def fnFloorIsLongestPrefixAllClocksHoldWrong : ChangeSpec := { name := "fnFloorIsLongestPrefixAllClocksHold", fn := fun _ => fun
  | [d1, d2, d3, d4] => { results := [.lit (.bool false)], args := [d1, d2, d3, d4] }
  | _ => none }
def FnFloorIsLongestPrefixAllClocksHoldWrongFalsely : Prop := fnFloorIsLongestPrefixAllClocksHoldRow.holds Try.pinned (OpenSpec.ofChange fnFloorIsLongestPrefixAllClocksHoldWrong)

/-- 'zzlaws_internal_clock_b1.FnFloorIgnoresOrderAndRepeats': WHATEVER THE INPUT: true; the input reads as it did. -/
def fnFloorIgnoresOrderAndRepeatsSpec : ChangeSpec := { name := "fnFloorIgnoresOrderAndRepeats", fn := fun _ => fun
  | [d1, d2, d3, d4] => { results := [.lit (.bool true)], args := [d1, d2, d3, d4] }
  | _ => none }
def fnFloorIgnoresOrderAndRepeatsRow : OpenClaim := { program := "qxb6000536a", sum := "8939d134770618121b5b4036e0e17cfc4ab6c02ff2469810df2338f4b9dde06d", func := "example.com/quorumless/quorumless/zzlaws_internal_clock_b1.FnFloorIgnoresOrderAndRepeats", spec := "fnFloorIgnoresOrderAndRepeats", inPlace := ["slices.overlaps[uint64]"], apart := false }
def FnFloorIgnoresOrderAndRepeatsSaid : Prop := fnFloorIgnoresOrderAndRepeatsRow.holds Try.pinned (OpenSpec.ofChange fnFloorIgnoresOrderAndRepeatsSpec)

/-- ITS FALSE NEIGHBOUR: 'it returns false'. Refute it at one input. -/
def fnFloorIgnoresOrderAndRepeatsWrong : ChangeSpec := { name := "fnFloorIgnoresOrderAndRepeats", fn := fun _ => fun
  | [d1, d2, d3, d4] => { results := [.lit (.bool false)], args := [d1, d2, d3, d4] }
  | _ => none }
def FnFloorIgnoresOrderAndRepeatsWrongFalsely : Prop := fnFloorIgnoresOrderAndRepeatsRow.holds Try.pinned (OpenSpec.ofChange fnFloorIgnoresOrderAndRepeatsWrong)

/-- 'zzlaws_internal_clock_b1.FnFloorHeldByAllAndNeverRaised': WHATEVER THE INPUT: true; the input reads as it did. -/
def fnFloorHeldByAllAndNeverRaisedSpec : ChangeSpec := { name := "fnFloorHeldByAllAndNeverRaised", fn := fun _ => fun
  | [d1, d2, d3, d4, d5, d6] => { results := [.lit (.bool true)], args := [d1, d2, d3, d4, d5, d6] }
  | _ => none }
def fnFloorHeldByAllAndNeverRaisedRow : OpenClaim := { program := "qxb6000536a", sum := "8939d134770618121b5b4036e0e17cfc4ab6c02ff2469810df2338f4b9dde06d", func := "example.com/quorumless/quorumless/zzlaws_internal_clock_b1.FnFloorHeldByAllAndNeverRaised", spec := "fnFloorHeldByAllAndNeverRaised", inPlace := ["slices.overlaps[uint64]"], apart := false }
def FnFloorHeldByAllAndNeverRaisedSaid : Prop := fnFloorHeldByAllAndNeverRaisedRow.holds Try.pinned (OpenSpec.ofChange fnFloorHeldByAllAndNeverRaisedSpec)

/-- ITS FALSE NEIGHBOUR: 'it returns false'. Refute it at one input. -/
def fnFloorHeldByAllAndNeverRaisedWrong : ChangeSpec := { name := "fnFloorHeldByAllAndNeverRaised", fn := fun _ => fun
  | [d1, d2, d3, d4, d5, d6] => { results := [.lit (.bool false)], args := [d1, d2, d3, d4, d5, d6] }
  | _ => none }
def FnFloorHeldByAllAndNeverRaisedWrongFalsely : Prop := fnFloorHeldByAllAndNeverRaisedRow.holds Try.pinned (OpenSpec.ofChange fnFloorHeldByAllAndNeverRaisedWrong)

end Rows
end Go.Proofs.Qxb6000536a
