/-
  No cell of these rows narrows 'for every input' (looked for: loops, veiled, ifaces, maps, wideKeys, modest, calm, conditions, laid).
  DERIVED. THE GIVEN ROWS OF THIS SEAT. 6 by the template 'for every input the law returns true; each argument reads behind the call as it read before'; 0 by the template 'total and deterministic' (their statements: Qxb6600419aModsTotals.lean).
  GIVEN WITH THE SEED: the statements are not yours to turn. If you find one false, say at which input.
  Laid BY PROGRAM, IN A SANDBOX (cutbox-rows.mjs): the forced cells as the released guide's own fill.sh prints them over the translation 3bb099385b2e19e1… (all of the seat's roots in one cut). By AI agents, Wed Nov 11 2026. No macro, syntax, notation, axiom, sorry.
-/
import Derived.Test.Qxb6600419aModsChecked
import GoSem.Claim
import GoSem.ClaimJoined
import GoSem.ClaimMapViews
import Derived.JoinedTies
import Derived.KernelRfl
namespace Go.Proofs.Qxb6600419aMods
/- THE CELL 'sum', in the pinned program and in every row, IS THE sha256 OF THE DUMP (.gsa) THAT Qxb6600419aModsProg.lean LOADS. Nothing in Lean hashes anything: it is a label: what it is worth is what the hold of that sum in a sandbox is worth. -/
noncomputable def Trym.pinned : Pinned := { name := "qxb6600419amods", sum := "3bb099385b2e19e14c31aa7d357e38c41396ee746ee6ea26071584497dcf7946", checked := Trym.checked }
namespace Rows
def none {H : Type} : Left H := { results := [], args := [] }

/-- 'zzlaws_internal_scheduling_b1.FnClockValuesPerSlotModel': WHATEVER THE INPUT: true; the input reads as it did. -/
def fnClockValuesPerSlotModelSpec : ChangeSpec := { name := "fnClockValuesPerSlotModel", fn := fun _ => fun
  | [d1, d2, d3, d4] => { results := [.lit (.bool true)], args := [d1, d2, d3, d4] }
  | _ => none }
def fnClockValuesPerSlotModelRow : OpenClaim := { program := "qxb6600419amods", sum := "3bb099385b2e19e14c31aa7d357e38c41396ee746ee6ea26071584497dcf7946", func := "example.com/seshat/seshat/zzlaws_internal_scheduling_b1.FnClockValuesPerSlotModel", spec := "fnClockValuesPerSlotModel", make := .lifted ["publicsums"], apart := false }
def FnClockValuesPerSlotModelSaid : Prop := fnClockValuesPerSlotModelRow.holds Trym.pinned (OpenSpec.ofChange fnClockValuesPerSlotModelSpec)

/-- ITS FALSE NEIGHBOUR: 'it returns false'. Refute it at one input. -/
def fnClockValuesPerSlotModelWrong : ChangeSpec := { name := "fnClockValuesPerSlotModel", fn := fun _ => fun
  | [d1, d2, d3, d4] => { results := [.lit (.bool false)], args := [d1, d2, d3, d4] }
  | _ => none }
def FnClockValuesPerSlotModelWrongFalsely : Prop := fnClockValuesPerSlotModelRow.holds Trym.pinned (OpenSpec.ofChange fnClockValuesPerSlotModelWrong)

/-- 'zzlaws_internal_scheduling_b1.FnClockValuesShiftInvariant': WHATEVER THE INPUT: true; the input reads as it did. -/
def fnClockValuesShiftInvariantSpec : ChangeSpec := { name := "fnClockValuesShiftInvariant", fn := fun _ => fun
  | [d1, d2, d3, d4] => { results := [.lit (.bool true)], args := [d1, d2, d3, d4] }
  | _ => none }
def fnClockValuesShiftInvariantRow : OpenClaim := { program := "qxb6600419amods", sum := "3bb099385b2e19e14c31aa7d357e38c41396ee746ee6ea26071584497dcf7946", func := "example.com/seshat/seshat/zzlaws_internal_scheduling_b1.FnClockValuesShiftInvariant", spec := "fnClockValuesShiftInvariant", make := .lifted ["publicsums"], apart := false }
def FnClockValuesShiftInvariantSaid : Prop := fnClockValuesShiftInvariantRow.holds Trym.pinned (OpenSpec.ofChange fnClockValuesShiftInvariantSpec)

/-- ITS FALSE NEIGHBOUR: 'it returns false'. Refute it at one input. -/
def fnClockValuesShiftInvariantWrong : ChangeSpec := { name := "fnClockValuesShiftInvariant", fn := fun _ => fun
  | [d1, d2, d3, d4] => { results := [.lit (.bool false)], args := [d1, d2, d3, d4] }
  | _ => none }
def FnClockValuesShiftInvariantWrongFalsely : Prop := fnClockValuesShiftInvariantRow.holds Trym.pinned (OpenSpec.ofChange fnClockValuesShiftInvariantWrong)

/-- 'zzlaws_internal_scheduling_b1.FnClockValuesMultipleStrideIsSubset': WHATEVER THE INPUT: true; the input reads as it did. -/
def fnClockValuesMultipleStrideIsSubsetSpec : ChangeSpec := { name := "fnClockValuesMultipleStrideIsSubset", fn := fun _ => fun
  | [d1, d2, d3, d4, d5] => { results := [.lit (.bool true)], args := [d1, d2, d3, d4, d5] }
  | _ => none }
def fnClockValuesMultipleStrideIsSubsetRow : OpenClaim := { program := "qxb6600419amods", sum := "3bb099385b2e19e14c31aa7d357e38c41396ee746ee6ea26071584497dcf7946", func := "example.com/seshat/seshat/zzlaws_internal_scheduling_b1.FnClockValuesMultipleStrideIsSubset", spec := "fnClockValuesMultipleStrideIsSubset", make := .lifted ["publicsums"], apart := false }
def FnClockValuesMultipleStrideIsSubsetSaid : Prop := fnClockValuesMultipleStrideIsSubsetRow.holds Trym.pinned (OpenSpec.ofChange fnClockValuesMultipleStrideIsSubsetSpec)

/-- ITS FALSE NEIGHBOUR: 'it returns false'. Refute it at one input. -/
def fnClockValuesMultipleStrideIsSubsetWrong : ChangeSpec := { name := "fnClockValuesMultipleStrideIsSubset", fn := fun _ => fun
  | [d1, d2, d3, d4, d5] => { results := [.lit (.bool false)], args := [d1, d2, d3, d4, d5] }
  | _ => none }
def FnClockValuesMultipleStrideIsSubsetWrongFalsely : Prop := fnClockValuesMultipleStrideIsSubsetRow.holds Trym.pinned (OpenSpec.ofChange fnClockValuesMultipleStrideIsSubsetWrong)

/-- 'zzlaws_internal_scheduling_b1.FnNextYearLeastMemberAtOrAfter': WHATEVER THE INPUT: true; the input reads as it did. -/
def fnNextYearLeastMemberAtOrAfterSpec : ChangeSpec := { name := "fnNextYearLeastMemberAtOrAfter", fn := fun _ => fun
  | [d1, d2] => { results := [.lit (.bool true)], args := [d1, d2] }
  | _ => none }
def fnNextYearLeastMemberAtOrAfterRow : OpenClaim := { program := "qxb6600419amods", sum := "3bb099385b2e19e14c31aa7d357e38c41396ee746ee6ea26071584497dcf7946", func := "example.com/seshat/seshat/zzlaws_internal_scheduling_b1.FnNextYearLeastMemberAtOrAfter", spec := "fnNextYearLeastMemberAtOrAfter", make := .lifted ["publicsums"], apart := false }
def FnNextYearLeastMemberAtOrAfterSaid : Prop := fnNextYearLeastMemberAtOrAfterRow.holds Trym.pinned (OpenSpec.ofChange fnNextYearLeastMemberAtOrAfterSpec)

/-- ITS FALSE NEIGHBOUR: 'it returns false'. Refute it at one input. -/
def fnNextYearLeastMemberAtOrAfterWrong : ChangeSpec := { name := "fnNextYearLeastMemberAtOrAfter", fn := fun _ => fun
  | [d1, d2] => { results := [.lit (.bool false)], args := [d1, d2] }
  | _ => none }
def FnNextYearLeastMemberAtOrAfterWrongFalsely : Prop := fnNextYearLeastMemberAtOrAfterRow.holds Trym.pinned (OpenSpec.ofChange fnNextYearLeastMemberAtOrAfterWrong)

/-- 'zzlaws_internal_scheduling_b1.FnNextYearMonotoneAndSettled': WHATEVER THE INPUT: true; the input reads as it did. -/
def fnNextYearMonotoneAndSettledSpec : ChangeSpec := { name := "fnNextYearMonotoneAndSettled", fn := fun _ => fun
  | [d1, d2, d3] => { results := [.lit (.bool true)], args := [d1, d2, d3] }
  | _ => none }
def fnNextYearMonotoneAndSettledRow : OpenClaim := { program := "qxb6600419amods", sum := "3bb099385b2e19e14c31aa7d357e38c41396ee746ee6ea26071584497dcf7946", func := "example.com/seshat/seshat/zzlaws_internal_scheduling_b1.FnNextYearMonotoneAndSettled", spec := "fnNextYearMonotoneAndSettled", make := .lifted ["publicsums"], apart := false }
def FnNextYearMonotoneAndSettledSaid : Prop := fnNextYearMonotoneAndSettledRow.holds Trym.pinned (OpenSpec.ofChange fnNextYearMonotoneAndSettledSpec)

/-- ITS FALSE NEIGHBOUR: 'it returns false'. Refute it at one input. -/
def fnNextYearMonotoneAndSettledWrong : ChangeSpec := { name := "fnNextYearMonotoneAndSettled", fn := fun _ => fun
  | [d1, d2, d3] => { results := [.lit (.bool false)], args := [d1, d2, d3] }
  | _ => none }
def FnNextYearMonotoneAndSettledWrongFalsely : Prop := fnNextYearMonotoneAndSettledRow.holds Trym.pinned (OpenSpec.ofChange fnNextYearMonotoneAndSettledWrong)

/-- 'zzlaws_internal_scheduling_b1.FnNextYearUnionIsEarlierOfParts': WHATEVER THE INPUT: true; the input reads as it did. -/
def fnNextYearUnionIsEarlierOfPartsSpec : ChangeSpec := { name := "fnNextYearUnionIsEarlierOfParts", fn := fun _ => fun
  | [d1, d2, d3] => { results := [.lit (.bool true)], args := [d1, d2, d3] }
  | _ => none }
def fnNextYearUnionIsEarlierOfPartsRow : OpenClaim := { program := "qxb6600419amods", sum := "3bb099385b2e19e14c31aa7d357e38c41396ee746ee6ea26071584497dcf7946", func := "example.com/seshat/seshat/zzlaws_internal_scheduling_b1.FnNextYearUnionIsEarlierOfParts", spec := "fnNextYearUnionIsEarlierOfParts", make := .lifted ["publicsums"], apart := false }
def FnNextYearUnionIsEarlierOfPartsSaid : Prop := fnNextYearUnionIsEarlierOfPartsRow.holds Trym.pinned (OpenSpec.ofChange fnNextYearUnionIsEarlierOfPartsSpec)

/-- ITS FALSE NEIGHBOUR: 'it returns false'. Refute it at one input. -/
def fnNextYearUnionIsEarlierOfPartsWrong : ChangeSpec := { name := "fnNextYearUnionIsEarlierOfParts", fn := fun _ => fun
  | [d1, d2, d3] => { results := [.lit (.bool false)], args := [d1, d2, d3] }
  | _ => none }
def FnNextYearUnionIsEarlierOfPartsWrongFalsely : Prop := fnNextYearUnionIsEarlierOfPartsRow.holds Trym.pinned (OpenSpec.ofChange fnNextYearUnionIsEarlierOfPartsWrong)

end Rows
end Go.Proofs.Qxb6600419aMods
