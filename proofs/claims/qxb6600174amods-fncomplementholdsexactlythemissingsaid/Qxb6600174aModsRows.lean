/-
  No cell of these rows narrows 'for every input' (looked for: loops, veiled, ifaces, maps, wideKeys, modest, calm, conditions, laid).
  DERIVED. THE GIVEN ROWS OF THIS SEAT. 3 by the template 'for every input the law returns true; each argument reads behind the call as it read before'; 0 by the template 'total and deterministic' (their statements: Qxb6600174aModsTotals.lean).
  GIVEN WITH THE SEED: the statements are not yours to turn. If you find one false, say at which input.
  Laid BY PROGRAM, IN A SANDBOX (cutbox-rows.mjs): the forced cells as the released guide's own fill.sh prints them over the translation f56560cef13ce631… (all of the seat's roots in one cut). By AI agents, Wed Nov 11 2026. No macro, syntax, notation, axiom, sorry.
-/
import Derived.Test.Qxb6600174aModsChecked
import GoSem.Claim
import GoSem.ClaimJoined
import GoSem.ClaimMapViews
import Derived.JoinedTies
import Derived.KernelRfl
namespace Go.Proofs.Qxb6600174aMods
/- THE CELL 'sum', in the pinned program and in every row, IS THE sha256 OF THE DUMP (.gsa) THAT Qxb6600174aModsProg.lean LOADS. Nothing in Lean hashes anything: it is a label: what it is worth is what the hold of that sum in a sandbox is worth. -/
noncomputable def Trym.pinned : Pinned := { name := "qxb6600174amods", sum := "f56560cef13ce631ba51d97b7bd9910356b9eae31dab7655fc75b1fd00871830", checked := Trym.checked }
namespace Rows
def none {H : Type} : Left H := { results := [], args := [] }

/-- 'zzlaws_wire_b1.FnComplementHoldsExactlyTheMissing': WHATEVER THE INPUT: true; the input reads as it did. -/
def fnComplementHoldsExactlyTheMissingSpec : ChangeSpec := { name := "fnComplementHoldsExactlyTheMissing", fn := fun _ => fun
  | [d1, d2, d3] => { results := [.lit (.bool true)], args := [d1, d2, d3] }
  | _ => none }
def fnComplementHoldsExactlyTheMissingRow : OpenClaim := { program := "qxb6600174amods", sum := "f56560cef13ce631ba51d97b7bd9910356b9eae31dab7655fc75b1fd00871830", func := "example.com/quorumwire/quorumwire/zzlaws_wire_b1.FnComplementHoldsExactlyTheMissing", spec := "fnComplementHoldsExactlyTheMissing", make := .lifted ["publicsums"], apart := false }
def FnComplementHoldsExactlyTheMissingSaid : Prop := fnComplementHoldsExactlyTheMissingRow.holds Trym.pinned (OpenSpec.ofChange fnComplementHoldsExactlyTheMissingSpec)

/-- ITS FALSE NEIGHBOUR: 'it returns false'. Refute it at one input. -/
def fnComplementHoldsExactlyTheMissingWrong : ChangeSpec := { name := "fnComplementHoldsExactlyTheMissing", fn := fun _ => fun
  | [d1, d2, d3] => { results := [.lit (.bool false)], args := [d1, d2, d3] }
  | _ => none }
def FnComplementHoldsExactlyTheMissingWrongFalsely : Prop := fnComplementHoldsExactlyTheMissingRow.holds Trym.pinned (OpenSpec.ofChange fnComplementHoldsExactlyTheMissingWrong)

/-- 'zzlaws_wire_b1.FnComplementTwiceIsIdentityOnCanonical': WHATEVER THE INPUT: true; the input reads as it did. -/
def fnComplementTwiceIsIdentityOnCanonicalSpec : ChangeSpec := { name := "fnComplementTwiceIsIdentityOnCanonical", fn := fun _ => fun
  | [d1, d2] => { results := [.lit (.bool true)], args := [d1, d2] }
  | _ => none }
def fnComplementTwiceIsIdentityOnCanonicalRow : OpenClaim := { program := "qxb6600174amods", sum := "f56560cef13ce631ba51d97b7bd9910356b9eae31dab7655fc75b1fd00871830", func := "example.com/quorumwire/quorumwire/zzlaws_wire_b1.FnComplementTwiceIsIdentityOnCanonical", spec := "fnComplementTwiceIsIdentityOnCanonical", make := .lifted ["publicsums"], apart := false }
def FnComplementTwiceIsIdentityOnCanonicalSaid : Prop := fnComplementTwiceIsIdentityOnCanonicalRow.holds Trym.pinned (OpenSpec.ofChange fnComplementTwiceIsIdentityOnCanonicalSpec)

/-- ITS FALSE NEIGHBOUR: 'it returns false'. Refute it at one input. -/
def fnComplementTwiceIsIdentityOnCanonicalWrong : ChangeSpec := { name := "fnComplementTwiceIsIdentityOnCanonical", fn := fun _ => fun
  | [d1, d2] => { results := [.lit (.bool false)], args := [d1, d2] }
  | _ => none }
def FnComplementTwiceIsIdentityOnCanonicalWrongFalsely : Prop := fnComplementTwiceIsIdentityOnCanonicalRow.holds Trym.pinned (OpenSpec.ofChange fnComplementTwiceIsIdentityOnCanonicalWrong)

/-- 'zzlaws_wire_b1.FnComplementReversesInclusion': WHATEVER THE INPUT: true; the input reads as it did. -/
def fnComplementReversesInclusionSpec : ChangeSpec := { name := "fnComplementReversesInclusion", fn := fun _ => fun
  | [d1, d2, d3, d4, d5] => { results := [.lit (.bool true)], args := [d1, d2, d3, d4, d5] }
  | _ => none }
def fnComplementReversesInclusionRow : OpenClaim := { program := "qxb6600174amods", sum := "f56560cef13ce631ba51d97b7bd9910356b9eae31dab7655fc75b1fd00871830", func := "example.com/quorumwire/quorumwire/zzlaws_wire_b1.FnComplementReversesInclusion", spec := "fnComplementReversesInclusion", make := .lifted ["publicsums"], apart := false }
def FnComplementReversesInclusionSaid : Prop := fnComplementReversesInclusionRow.holds Trym.pinned (OpenSpec.ofChange fnComplementReversesInclusionSpec)

/-- ITS FALSE NEIGHBOUR: 'it returns false'. Refute it at one input. -/
def fnComplementReversesInclusionWrong : ChangeSpec := { name := "fnComplementReversesInclusion", fn := fun _ => fun
  | [d1, d2, d3, d4, d5] => { results := [.lit (.bool false)], args := [d1, d2, d3, d4, d5] }
  | _ => none }
def FnComplementReversesInclusionWrongFalsely : Prop := fnComplementReversesInclusionRow.holds Trym.pinned (OpenSpec.ofChange fnComplementReversesInclusionWrong)

end Rows
end Go.Proofs.Qxb6600174aMods
