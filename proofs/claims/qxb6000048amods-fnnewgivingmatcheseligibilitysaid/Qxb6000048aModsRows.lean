/-
  No cell of these rows narrows 'for every input' (looked for: loops, veiled, ifaces, maps, wideKeys, modest, calm, conditions, laid).
  DERIVED. THE GIVEN ROWS OF THIS SEAT. 5 by the template 'for every input the law returns true; each argument reads behind the call as it read before'; 0 by the template 'total and deterministic' (their statements: Qxb6000048aModsTotals.lean).
  GIVEN WITH THE SEED: the statements are not yours to turn. If you find one false, say at which input.
  Laid BY PROGRAM, IN A SANDBOX (cutbox-rows.mjs): the forced cells as the released guide's own fill.sh prints them over the translation 9ec286db5e99bf25… (all of the seat's roots in one cut). By AI agents, Wed Nov 11 2026. No macro, syntax, notation, axiom, sorry.
-/
import Derived.Test.Qxb6000048aModsChecked
import GoSem.Claim
import GoSem.ClaimJoined
import GoSem.ClaimMapViews
import Derived.JoinedTies
import Derived.KernelRfl
namespace Go.Proofs.Qxb6000048aMods
/- THE CELL 'sum', in the pinned program and in every row, IS THE sha256 OF THE DUMP (.gsa) THAT Qxb6000048aModsProg.lean LOADS. Nothing in Lean hashes anything: it is a label: what it is worth is what the hold of that sum in a sandbox is worth. -/
noncomputable def Trym.pinned : Pinned := { name := "qxb6000048amods", sum := "9ec286db5e99bf2550babc7eac07f4be7ea5eaba50228c6711c0117c5e245677", checked := Trym.checked }
namespace Rows
def none {H : Type} : Left H := { results := [], args := [] }

/-- 'zzlaws_root_b1.FnNewGivingMatchesEligibility': WHATEVER THE INPUT: true; the input reads as it did. -/
def fnNewGivingMatchesEligibilitySpec : ChangeSpec := { name := "fnNewGivingMatchesEligibility", fn := fun _ => fun
  | [d1, d2] => { results := [.lit (.bool true)], args := [d1, d2] }
  | _ => none }
def fnNewGivingMatchesEligibilityRow : OpenClaim := { program := "qxb6000048amods", sum := "9ec286db5e99bf2550babc7eac07f4be7ea5eaba50228c6711c0117c5e245677", func := "example.com/duties-over-partitions/duties-over-partitions/zzlaws_root_b1.FnNewGivingMatchesEligibility", spec := "fnNewGivingMatchesEligibility", make := .lifted ["publicsums"], apart := false }
def FnNewGivingMatchesEligibilitySaid : Prop := fnNewGivingMatchesEligibilityRow.holds Trym.pinned (OpenSpec.ofChange fnNewGivingMatchesEligibilitySpec)

/-- ITS FALSE NEIGHBOUR: 'it returns false'. Refute it at one input. -/
def fnNewGivingMatchesEligibilityWrong : ChangeSpec := { name := "fnNewGivingMatchesEligibility", fn := fun _ => fun
  | [d1, d2] => { results := [.lit (.bool false)], args := [d1, d2] }
  | _ => none }
def FnNewGivingMatchesEligibilityWrongFalsely : Prop := fnNewGivingMatchesEligibilityRow.holds Trym.pinned (OpenSpec.ofChange fnNewGivingMatchesEligibilityWrong)

/-- 'zzlaws_root_b1.FnChainsGiveFewestMovesAndValidLinks': WHATEVER THE INPUT: true; the input reads as it did. -/
def fnChainsGiveFewestMovesAndValidLinksSpec : ChangeSpec := { name := "fnChainsGiveFewestMovesAndValidLinks", fn := fun _ => fun
  | [d1, d2, d3, d4, d5, d6] => { results := [.lit (.bool true)], args := [d1, d2, d3, d4, d5, d6] }
  | _ => none }
def fnChainsGiveFewestMovesAndValidLinksRow : OpenClaim := { program := "qxb6000048amods", sum := "9ec286db5e99bf2550babc7eac07f4be7ea5eaba50228c6711c0117c5e245677", func := "example.com/duties-over-partitions/duties-over-partitions/zzlaws_root_b1.FnChainsGiveFewestMovesAndValidLinks", spec := "fnChainsGiveFewestMovesAndValidLinks", make := .lifted ["publicsums"], apart := false }
def FnChainsGiveFewestMovesAndValidLinksSaid : Prop := fnChainsGiveFewestMovesAndValidLinksRow.holds Trym.pinned (OpenSpec.ofChange fnChainsGiveFewestMovesAndValidLinksSpec)

/-- ITS FALSE NEIGHBOUR: 'it returns false'. Refute it at one input. -/
def fnChainsGiveFewestMovesAndValidLinksWrong : ChangeSpec := { name := "fnChainsGiveFewestMovesAndValidLinks", fn := fun _ => fun
  | [d1, d2, d3, d4, d5, d6] => { results := [.lit (.bool false)], args := [d1, d2, d3, d4, d5, d6] }
  | _ => none }
def FnChainsGiveFewestMovesAndValidLinksWrongFalsely : Prop := fnChainsGiveFewestMovesAndValidLinksRow.holds Trym.pinned (OpenSpec.ofChange fnChainsGiveFewestMovesAndValidLinksWrong)

/-- 'zzlaws_root_b1.FnChainsLinksLeadBackToAStart': WHATEVER THE INPUT: true; the input reads as it did. -/
def fnChainsLinksLeadBackToAStartSpec : ChangeSpec := { name := "fnChainsLinksLeadBackToAStart", fn := fun _ => fun
  | [d1, d2, d3, d4, d5, d6] => { results := [.lit (.bool true)], args := [d1, d2, d3, d4, d5, d6] }
  | _ => none }
def fnChainsLinksLeadBackToAStartRow : OpenClaim := { program := "qxb6000048amods", sum := "9ec286db5e99bf2550babc7eac07f4be7ea5eaba50228c6711c0117c5e245677", func := "example.com/duties-over-partitions/duties-over-partitions/zzlaws_root_b1.FnChainsLinksLeadBackToAStart", spec := "fnChainsLinksLeadBackToAStart", make := .lifted ["publicsums"], apart := false }
def FnChainsLinksLeadBackToAStartSaid : Prop := fnChainsLinksLeadBackToAStartRow.holds Trym.pinned (OpenSpec.ofChange fnChainsLinksLeadBackToAStartSpec)

/-- ITS FALSE NEIGHBOUR: 'it returns false'. Refute it at one input. -/
def fnChainsLinksLeadBackToAStartWrong : ChangeSpec := { name := "fnChainsLinksLeadBackToAStart", fn := fun _ => fun
  | [d1, d2, d3, d4, d5, d6] => { results := [.lit (.bool false)], args := [d1, d2, d3, d4, d5, d6] }
  | _ => none }
def FnChainsLinksLeadBackToAStartWrongFalsely : Prop := fnChainsLinksLeadBackToAStartRow.holds Trym.pinned (OpenSpec.ofChange fnChainsLinksLeadBackToAStartWrong)

/-- 'zzlaws_root_b1.FnBalanceOneClassSpreadsEvenly': WHATEVER THE INPUT: true; the input reads as it did. -/
def fnBalanceOneClassSpreadsEvenlySpec : ChangeSpec := { name := "fnBalanceOneClassSpreadsEvenly", fn := fun _ => fun
  | [d1, d2, d3] => { results := [.lit (.bool true)], args := [d1, d2, d3] }
  | _ => none }
def fnBalanceOneClassSpreadsEvenlyRow : OpenClaim := { program := "qxb6000048amods", sum := "9ec286db5e99bf2550babc7eac07f4be7ea5eaba50228c6711c0117c5e245677", func := "example.com/duties-over-partitions/duties-over-partitions/zzlaws_root_b1.FnBalanceOneClassSpreadsEvenly", spec := "fnBalanceOneClassSpreadsEvenly", unfollowed := true, recurses := true, make := .lifted ["publicsums"], apart := false }
def FnBalanceOneClassSpreadsEvenlySaid : Prop := fnBalanceOneClassSpreadsEvenlyRow.holds Trym.pinned (OpenSpec.ofChange fnBalanceOneClassSpreadsEvenlySpec)

/-- ITS FALSE NEIGHBOUR: 'it returns false'. Refute it at one input. -/
def fnBalanceOneClassSpreadsEvenlyWrong : ChangeSpec := { name := "fnBalanceOneClassSpreadsEvenly", fn := fun _ => fun
  | [d1, d2, d3] => { results := [.lit (.bool false)], args := [d1, d2, d3] }
  | _ => none }
def FnBalanceOneClassSpreadsEvenlyWrongFalsely : Prop := fnBalanceOneClassSpreadsEvenlyRow.holds Trym.pinned (OpenSpec.ofChange fnBalanceOneClassSpreadsEvenlyWrong)

/-- 'zzlaws_root_b1.FnBalanceKeepsPartsAndLeavesNoOneHopGain': WHATEVER THE INPUT: true; the input reads as it did. -/
def fnBalanceKeepsPartsAndLeavesNoOneHopGainSpec : ChangeSpec := { name := "fnBalanceKeepsPartsAndLeavesNoOneHopGain", fn := fun _ => fun
  | [d1, d2, d3, d4] => { results := [.lit (.bool true)], args := [d1, d2, d3, d4] }
  | _ => none }
def fnBalanceKeepsPartsAndLeavesNoOneHopGainRow : OpenClaim := { program := "qxb6000048amods", sum := "9ec286db5e99bf2550babc7eac07f4be7ea5eaba50228c6711c0117c5e245677", func := "example.com/duties-over-partitions/duties-over-partitions/zzlaws_root_b1.FnBalanceKeepsPartsAndLeavesNoOneHopGain", spec := "fnBalanceKeepsPartsAndLeavesNoOneHopGain", unfollowed := true, recurses := true, make := .lifted ["publicsums"], apart := false }
def FnBalanceKeepsPartsAndLeavesNoOneHopGainSaid : Prop := fnBalanceKeepsPartsAndLeavesNoOneHopGainRow.holds Trym.pinned (OpenSpec.ofChange fnBalanceKeepsPartsAndLeavesNoOneHopGainSpec)

/-- ITS FALSE NEIGHBOUR: 'it returns false'. Refute it at one input. -/
def fnBalanceKeepsPartsAndLeavesNoOneHopGainWrong : ChangeSpec := { name := "fnBalanceKeepsPartsAndLeavesNoOneHopGain", fn := fun _ => fun
  | [d1, d2, d3, d4] => { results := [.lit (.bool false)], args := [d1, d2, d3, d4] }
  | _ => none }
def FnBalanceKeepsPartsAndLeavesNoOneHopGainWrongFalsely : Prop := fnBalanceKeepsPartsAndLeavesNoOneHopGainRow.holds Trym.pinned (OpenSpec.ofChange fnBalanceKeepsPartsAndLeavesNoOneHopGainWrong)

end Rows
end Go.Proofs.Qxb6000048aMods
