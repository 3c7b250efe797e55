/-
  No cell of these rows narrows 'for every input' (looked for: loops, veiled, ifaces, maps, wideKeys, modest, calm, conditions, laid).
  DERIVED. THE GIVEN ROWS OF THIS SEAT. 5 by the template 'for every input the law returns true; each argument reads behind the call as it read before'; 0 by the template 'total and deterministic' (their statements: Qxb6600571aModsTotals.lean).
  GIVEN WITH THE SEED: the statements are not yours to turn. If you find one false, say at which input.
  Laid BY PROGRAM, IN A SANDBOX (cutbox-rows.mjs): the forced cells as the released guide's own fill.sh prints them over the translation d2002bf361932c93… (all of the seat's roots in one cut). By AI agents, Wed Nov 11 2026. No macro, syntax, notation, axiom, sorry.
-/
import Derived.Test.Qxb6600571aModsChecked
import GoSem.Claim
import GoSem.ClaimJoined
import GoSem.ClaimMapViews
import Derived.JoinedTies
import Derived.KernelRfl
namespace Go.Proofs.Qxb6600571aMods
/- THE CELL 'sum', in the pinned program and in every row, IS THE sha256 OF THE DUMP (.gsa) THAT Qxb6600571aModsProg.lean LOADS. Nothing in Lean hashes anything: it is a label: what it is worth is what the hold of that sum in a sandbox is worth. -/
noncomputable def Trym.pinned : Pinned := { name := "qxb6600571amods", sum := "d2002bf361932c93223617ed9b16b52aa1d55e795c69e44eb263496dfd78b094", checked := Trym.checked }
namespace Rows
def none {H : Type} : Left H := { results := [], args := [] }

/-- 'zzlaws_root_b1.FnAllDigitsConcat': WHATEVER THE INPUT: true; the input reads as it did. -/
def fnAllDigitsConcatSpec : ChangeSpec := { name := "fnAllDigitsConcat", fn := fun _ => fun
  | [d1, d2] => { results := [.lit (.bool true)], args := [d1, d2] }
  | _ => none }
def fnAllDigitsConcatRow : OpenClaim := { program := "qxb6600571amods", sum := "d2002bf361932c93223617ed9b16b52aa1d55e795c69e44eb263496dfd78b094", func := "example.com/fundcharter/fundcharter/zzlaws_root_b1.FnAllDigitsConcat", spec := "fnAllDigitsConcat", make := .lifted ["publicsums"], apart := false }
def FnAllDigitsConcatSaid : Prop := fnAllDigitsConcatRow.holds Trym.pinned (OpenSpec.ofChange fnAllDigitsConcatSpec)

/-- ITS FALSE NEIGHBOUR: 'it returns false'. Refute it at one input. -/
def fnAllDigitsConcatWrong : ChangeSpec := { name := "fnAllDigitsConcat", fn := fun _ => fun
  | [d1, d2] => { results := [.lit (.bool false)], args := [d1, d2] }
  | _ => none }
def FnAllDigitsConcatWrongFalsely : Prop := fnAllDigitsConcatRow.holds Trym.pinned (OpenSpec.ofChange fnAllDigitsConcatWrong)

/-- 'zzlaws_root_b1.FnAllDigitsDecimal': WHATEVER THE INPUT: true; the input reads as it did. -/
def fnAllDigitsDecimalSpec : ChangeSpec := { name := "fnAllDigitsDecimal", fn := fun _ => fun
  | [d] => { results := [.lit (.bool true)], args := [d] }
  | _ => none }
def fnAllDigitsDecimalRow : OpenClaim := { program := "qxb6600571amods", sum := "d2002bf361932c93223617ed9b16b52aa1d55e795c69e44eb263496dfd78b094", func := "example.com/fundcharter/fundcharter/zzlaws_root_b1.FnAllDigitsDecimal", spec := "fnAllDigitsDecimal", make := .lifted ["publicsums"], apart := false }
def FnAllDigitsDecimalSaid : Prop := fnAllDigitsDecimalRow.holds Trym.pinned (OpenSpec.ofChange fnAllDigitsDecimalSpec)

/-- ITS FALSE NEIGHBOUR: 'it returns false'. Refute it at one input. -/
def fnAllDigitsDecimalWrong : ChangeSpec := { name := "fnAllDigitsDecimal", fn := fun _ => fun
  | [d] => { results := [.lit (.bool false)], args := [d] }
  | _ => none }
def FnAllDigitsDecimalWrongFalsely : Prop := fnAllDigitsDecimalRow.holds Trym.pinned (OpenSpec.ofChange fnAllDigitsDecimalWrong)

/-- 'zzlaws_root_b1.FnYamlOffsetExact': WHATEVER THE INPUT: true; the input reads as it did. -/
def fnYamlOffsetExactSpec : ChangeSpec := { name := "fnYamlOffsetExact", fn := fun _ => fun
  | [d1, d2] => { results := [.lit (.bool true)], args := [d1, d2] }
  | _ => none }
def fnYamlOffsetExactRow : OpenClaim := { program := "qxb6600571amods", sum := "d2002bf361932c93223617ed9b16b52aa1d55e795c69e44eb263496dfd78b094", func := "example.com/fundcharter/fundcharter/zzlaws_root_b1.FnYamlOffsetExact", spec := "fnYamlOffsetExact", make := .lifted ["publicsums"], apart := false }
def FnYamlOffsetExactSaid : Prop := fnYamlOffsetExactRow.holds Trym.pinned (OpenSpec.ofChange fnYamlOffsetExactSpec)

/-- ITS FALSE NEIGHBOUR: 'it returns false'. Refute it at one input. -/
def fnYamlOffsetExactWrong : ChangeSpec := { name := "fnYamlOffsetExact", fn := fun _ => fun
  | [d1, d2] => { results := [.lit (.bool false)], args := [d1, d2] }
  | _ => none }
def FnYamlOffsetExactWrongFalsely : Prop := fnYamlOffsetExactRow.holds Trym.pinned (OpenSpec.ofChange fnYamlOffsetExactWrong)

/-- 'zzlaws_root_b1.FnYamlOffsetMonotone': WHATEVER THE INPUT: true; the input reads as it did. -/
def fnYamlOffsetMonotoneSpec : ChangeSpec := { name := "fnYamlOffsetMonotone", fn := fun _ => fun
  | [d1, d2, d3] => { results := [.lit (.bool true)], args := [d1, d2, d3] }
  | _ => none }
def fnYamlOffsetMonotoneRow : OpenClaim := { program := "qxb6600571amods", sum := "d2002bf361932c93223617ed9b16b52aa1d55e795c69e44eb263496dfd78b094", func := "example.com/fundcharter/fundcharter/zzlaws_root_b1.FnYamlOffsetMonotone", spec := "fnYamlOffsetMonotone", make := .lifted ["publicsums"], apart := false }
def FnYamlOffsetMonotoneSaid : Prop := fnYamlOffsetMonotoneRow.holds Trym.pinned (OpenSpec.ofChange fnYamlOffsetMonotoneSpec)

/-- ITS FALSE NEIGHBOUR: 'it returns false'. Refute it at one input. -/
def fnYamlOffsetMonotoneWrong : ChangeSpec := { name := "fnYamlOffsetMonotone", fn := fun _ => fun
  | [d1, d2, d3] => { results := [.lit (.bool false)], args := [d1, d2, d3] }
  | _ => none }
def FnYamlOffsetMonotoneWrongFalsely : Prop := fnYamlOffsetMonotoneRow.holds Trym.pinned (OpenSpec.ofChange fnYamlOffsetMonotoneWrong)

/-- 'zzlaws_root_b1.FnYamlOffsetCompose': WHATEVER THE INPUT: true; the input reads as it did. -/
def fnYamlOffsetComposeSpec : ChangeSpec := { name := "fnYamlOffsetCompose", fn := fun _ => fun
  | [d1, d2, d3] => { results := [.lit (.bool true)], args := [d1, d2, d3] }
  | _ => none }
def fnYamlOffsetComposeRow : OpenClaim := { program := "qxb6600571amods", sum := "d2002bf361932c93223617ed9b16b52aa1d55e795c69e44eb263496dfd78b094", func := "example.com/fundcharter/fundcharter/zzlaws_root_b1.FnYamlOffsetCompose", spec := "fnYamlOffsetCompose", make := .lifted ["publicsums"], apart := false }
def FnYamlOffsetComposeSaid : Prop := fnYamlOffsetComposeRow.holds Trym.pinned (OpenSpec.ofChange fnYamlOffsetComposeSpec)

/-- ITS FALSE NEIGHBOUR: 'it returns false'. Refute it at one input. -/
def fnYamlOffsetComposeWrong : ChangeSpec := { name := "fnYamlOffsetCompose", fn := fun _ => fun
  | [d1, d2, d3] => { results := [.lit (.bool false)], args := [d1, d2, d3] }
  | _ => none }
def FnYamlOffsetComposeWrongFalsely : Prop := fnYamlOffsetComposeRow.holds Trym.pinned (OpenSpec.ofChange fnYamlOffsetComposeWrong)

end Rows
end Go.Proofs.Qxb6600571aMods
