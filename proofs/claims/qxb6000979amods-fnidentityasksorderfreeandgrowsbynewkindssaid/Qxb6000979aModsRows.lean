/-
  No cell of these rows narrows 'for every input' (looked for: loops, veiled, ifaces, maps, wideKeys, modest, calm, conditions, laid).
  DERIVED. THE GIVEN ROWS OF THIS SEAT. 6 by the template 'for every input the law returns true; each argument reads behind the call as it read before'; 0 by the template 'total and deterministic' (their statements: Qxb6000979aModsTotals.lean).
  GIVEN WITH THE SEED: the statements are not yours to turn. If you find one false, say at which input.
  Laid BY PROGRAM, IN A SANDBOX (cutbox-rows.mjs): the forced cells as the released guide's own fill.sh prints them over the translation 09c1cc5d71c2fbcb… (all of the seat's roots in one cut). By AI agents, Wed Nov 11 2026. No macro, syntax, notation, axiom, sorry.
-/
import Derived.Test.Qxb6000979aModsChecked
import GoSem.Claim
import GoSem.ClaimJoined
import GoSem.ClaimMapViews
import Derived.JoinedTies
import Derived.KernelRfl
namespace Go.Proofs.Qxb6000979aMods
/- THE CELL 'sum', in the pinned program and in every row, IS THE sha256 OF THE DUMP (.gsa) THAT Qxb6000979aModsProg.lean LOADS. Nothing in Lean hashes anything: it is a label: what it is worth is what the hold of that sum in a sandbox is worth. -/
noncomputable def Trym.pinned : Pinned := { name := "qxb6000979amods", sum := "09c1cc5d71c2fbcbca74d80a6ce3d5831b3be8762888fcf706cbff99d3ec10a1", checked := Trym.checked }
namespace Rows
def none {H : Type} : Left H := { results := [], args := [] }

/-- 'zzlaws_internal_aka_b1.FnIdentityAsksCountsAskKinds': WHATEVER THE INPUT: true; the input reads as it did. -/
def fnIdentityAsksCountsAskKindsSpec : ChangeSpec := { name := "fnIdentityAsksCountsAskKinds", fn := fun _ => fun
  | [d] => { results := [.lit (.bool true)], args := [d] }
  | _ => none }
def fnIdentityAsksCountsAskKindsRow : OpenClaim := { program := "qxb6000979amods", sum := "09c1cc5d71c2fbcbca74d80a6ce3d5831b3be8762888fcf706cbff99d3ec10a1", func := "example.com/ephemeris/ephemeris/zzlaws_internal_aka_b1.FnIdentityAsksCountsAskKinds", spec := "fnIdentityAsksCountsAskKinds", make := .lifted ["publicsums"], apart := false }
def FnIdentityAsksCountsAskKindsSaid : Prop := fnIdentityAsksCountsAskKindsRow.holds Trym.pinned (OpenSpec.ofChange fnIdentityAsksCountsAskKindsSpec)

/-- ITS FALSE NEIGHBOUR: 'it returns false'. Refute it at one input. -/
def fnIdentityAsksCountsAskKindsWrong : ChangeSpec := { name := "fnIdentityAsksCountsAskKinds", fn := fun _ => fun
  | [d] => { results := [.lit (.bool false)], args := [d] }
  | _ => none }
def FnIdentityAsksCountsAskKindsWrongFalsely : Prop := fnIdentityAsksCountsAskKindsRow.holds Trym.pinned (OpenSpec.ofChange fnIdentityAsksCountsAskKindsWrong)

/-- 'zzlaws_internal_aka_b1.FnIdentityAsksOrderFreeAndGrowsByNewKinds': WHATEVER THE INPUT: true; the input reads as it did. -/
def fnIdentityAsksOrderFreeAndGrowsByNewKindsSpec : ChangeSpec := { name := "fnIdentityAsksOrderFreeAndGrowsByNewKinds", fn := fun _ => fun
  | [d1, d2] => { results := [.lit (.bool true)], args := [d1, d2] }
  | _ => none }
def fnIdentityAsksOrderFreeAndGrowsByNewKindsRow : OpenClaim := { program := "qxb6000979amods", sum := "09c1cc5d71c2fbcbca74d80a6ce3d5831b3be8762888fcf706cbff99d3ec10a1", func := "example.com/ephemeris/ephemeris/zzlaws_internal_aka_b1.FnIdentityAsksOrderFreeAndGrowsByNewKinds", spec := "fnIdentityAsksOrderFreeAndGrowsByNewKinds", make := .lifted ["publicsums"], apart := false }
def FnIdentityAsksOrderFreeAndGrowsByNewKindsSaid : Prop := fnIdentityAsksOrderFreeAndGrowsByNewKindsRow.holds Trym.pinned (OpenSpec.ofChange fnIdentityAsksOrderFreeAndGrowsByNewKindsSpec)

/-- ITS FALSE NEIGHBOUR: 'it returns false'. Refute it at one input. -/
def fnIdentityAsksOrderFreeAndGrowsByNewKindsWrong : ChangeSpec := { name := "fnIdentityAsksOrderFreeAndGrowsByNewKinds", fn := fun _ => fun
  | [d1, d2] => { results := [.lit (.bool false)], args := [d1, d2] }
  | _ => none }
def FnIdentityAsksOrderFreeAndGrowsByNewKindsWrongFalsely : Prop := fnIdentityAsksOrderFreeAndGrowsByNewKindsRow.holds Trym.pinned (OpenSpec.ofChange fnIdentityAsksOrderFreeAndGrowsByNewKindsWrong)

/-- 'zzlaws_internal_aka_b1.FnEqualValuesRefusesAnyEdit': WHATEVER THE INPUT: true; the input reads as it did. -/
def fnEqualValuesRefusesAnyEditSpec : ChangeSpec := { name := "fnEqualValuesRefusesAnyEdit", fn := fun _ => fun
  | [d1, d2, d3] => { results := [.lit (.bool true)], args := [d1, d2, d3] }
  | _ => none }
def fnEqualValuesRefusesAnyEditRow : OpenClaim := { program := "qxb6000979amods", sum := "09c1cc5d71c2fbcbca74d80a6ce3d5831b3be8762888fcf706cbff99d3ec10a1", func := "example.com/ephemeris/ephemeris/zzlaws_internal_aka_b1.FnEqualValuesRefusesAnyEdit", spec := "fnEqualValuesRefusesAnyEdit", make := .lifted ["publicsums"], apart := false }
def FnEqualValuesRefusesAnyEditSaid : Prop := fnEqualValuesRefusesAnyEditRow.holds Trym.pinned (OpenSpec.ofChange fnEqualValuesRefusesAnyEditSpec)

/-- ITS FALSE NEIGHBOUR: 'it returns false'. Refute it at one input. -/
def fnEqualValuesRefusesAnyEditWrong : ChangeSpec := { name := "fnEqualValuesRefusesAnyEdit", fn := fun _ => fun
  | [d1, d2, d3] => { results := [.lit (.bool false)], args := [d1, d2, d3] }
  | _ => none }
def FnEqualValuesRefusesAnyEditWrongFalsely : Prop := fnEqualValuesRefusesAnyEditRow.holds Trym.pinned (OpenSpec.ofChange fnEqualValuesRefusesAnyEditWrong)

/-- 'zzlaws_internal_aka_b1.FnEqualValuesIgnoresCommonAffixes': WHATEVER THE INPUT: true; the input reads as it did. -/
def fnEqualValuesIgnoresCommonAffixesSpec : ChangeSpec := { name := "fnEqualValuesIgnoresCommonAffixes", fn := fun _ => fun
  | [d1, d2, d3] => { results := [.lit (.bool true)], args := [d1, d2, d3] }
  | _ => none }
def fnEqualValuesIgnoresCommonAffixesRow : OpenClaim := { program := "qxb6000979amods", sum := "09c1cc5d71c2fbcbca74d80a6ce3d5831b3be8762888fcf706cbff99d3ec10a1", func := "example.com/ephemeris/ephemeris/zzlaws_internal_aka_b1.FnEqualValuesIgnoresCommonAffixes", spec := "fnEqualValuesIgnoresCommonAffixes", make := .lifted ["publicsums"], apart := false }
def FnEqualValuesIgnoresCommonAffixesSaid : Prop := fnEqualValuesIgnoresCommonAffixesRow.holds Trym.pinned (OpenSpec.ofChange fnEqualValuesIgnoresCommonAffixesSpec)

/-- ITS FALSE NEIGHBOUR: 'it returns false'. Refute it at one input. -/
def fnEqualValuesIgnoresCommonAffixesWrong : ChangeSpec := { name := "fnEqualValuesIgnoresCommonAffixes", fn := fun _ => fun
  | [d1, d2, d3] => { results := [.lit (.bool false)], args := [d1, d2, d3] }
  | _ => none }
def FnEqualValuesIgnoresCommonAffixesWrongFalsely : Prop := fnEqualValuesIgnoresCommonAffixesRow.holds Trym.pinned (OpenSpec.ofChange fnEqualValuesIgnoresCommonAffixesWrong)

/-- 'zzlaws_internal_aka_b1.FnAllowsUnfixedIffNoRepeats': WHATEVER THE INPUT: true; the input reads as it did. -/
def fnAllowsUnfixedIffNoRepeatsSpec : ChangeSpec := { name := "fnAllowsUnfixedIffNoRepeats", fn := fun _ => fun
  | [d1, d2] => { results := [.lit (.bool true)], args := [d1, d2] }
  | _ => none }
def fnAllowsUnfixedIffNoRepeatsRow : OpenClaim := { program := "qxb6000979amods", sum := "09c1cc5d71c2fbcbca74d80a6ce3d5831b3be8762888fcf706cbff99d3ec10a1", func := "example.com/ephemeris/ephemeris/zzlaws_internal_aka_b1.FnAllowsUnfixedIffNoRepeats", spec := "fnAllowsUnfixedIffNoRepeats", make := .lifted ["publicsums"], apart := false }
def FnAllowsUnfixedIffNoRepeatsSaid : Prop := fnAllowsUnfixedIffNoRepeatsRow.holds Trym.pinned (OpenSpec.ofChange fnAllowsUnfixedIffNoRepeatsSpec)

/-- ITS FALSE NEIGHBOUR: 'it returns false'. Refute it at one input. -/
def fnAllowsUnfixedIffNoRepeatsWrong : ChangeSpec := { name := "fnAllowsUnfixedIffNoRepeats", fn := fun _ => fun
  | [d1, d2] => { results := [.lit (.bool false)], args := [d1, d2] }
  | _ => none }
def FnAllowsUnfixedIffNoRepeatsWrongFalsely : Prop := fnAllowsUnfixedIffNoRepeatsRow.holds Trym.pinned (OpenSpec.ofChange fnAllowsUnfixedIffNoRepeatsWrong)

/-- 'zzlaws_internal_aka_b1.FnAllowsUnfixedOrderFreeAndPrefixClosed': WHATEVER THE INPUT: true; the input reads as it did. -/
def fnAllowsUnfixedOrderFreeAndPrefixClosedSpec : ChangeSpec := { name := "fnAllowsUnfixedOrderFreeAndPrefixClosed", fn := fun _ => fun
  | [d1, d2] => { results := [.lit (.bool true)], args := [d1, d2] }
  | _ => none }
def fnAllowsUnfixedOrderFreeAndPrefixClosedRow : OpenClaim := { program := "qxb6000979amods", sum := "09c1cc5d71c2fbcbca74d80a6ce3d5831b3be8762888fcf706cbff99d3ec10a1", func := "example.com/ephemeris/ephemeris/zzlaws_internal_aka_b1.FnAllowsUnfixedOrderFreeAndPrefixClosed", spec := "fnAllowsUnfixedOrderFreeAndPrefixClosed", make := .lifted ["publicsums"], apart := false }
def FnAllowsUnfixedOrderFreeAndPrefixClosedSaid : Prop := fnAllowsUnfixedOrderFreeAndPrefixClosedRow.holds Trym.pinned (OpenSpec.ofChange fnAllowsUnfixedOrderFreeAndPrefixClosedSpec)

/-- ITS FALSE NEIGHBOUR: 'it returns false'. Refute it at one input. -/
def fnAllowsUnfixedOrderFreeAndPrefixClosedWrong : ChangeSpec := { name := "fnAllowsUnfixedOrderFreeAndPrefixClosed", fn := fun _ => fun
  | [d1, d2] => { results := [.lit (.bool false)], args := [d1, d2] }
  | _ => none }
def FnAllowsUnfixedOrderFreeAndPrefixClosedWrongFalsely : Prop := fnAllowsUnfixedOrderFreeAndPrefixClosedRow.holds Trym.pinned (OpenSpec.ofChange fnAllowsUnfixedOrderFreeAndPrefixClosedWrong)

end Rows
end Go.Proofs.Qxb6000979aMods
