/-
  No cell of these rows narrows 'for every input' (looked for: loops, veiled, ifaces, maps, wideKeys, modest, calm, conditions, laid).
  DERIVED. THE GIVEN ROWS OF THIS SEAT. 7 by the template 'for every input the law returns true; each argument reads behind the call as it read before'; 0 by the template 'total and deterministic' (their statements: Qxb6602805aModsTotals.lean).
  GIVEN WITH THE SEED: the statements are not yours to turn. If you find one false, say at which input.
  Laid BY PROGRAM, IN A SANDBOX (cutbox-rows.mjs): the forced cells as the released guide's own fill.sh prints them over the translation ba64edfb4158798c… (all of the seat's roots in one cut). By AI agents, Wed Nov 11 2026. No macro, syntax, notation, axiom, sorry.
-/
import Derived.Test.Qxb6602805aModsChecked
import GoSem.Claim
import GoSem.ClaimJoined
import GoSem.ClaimMapViews
import Derived.JoinedTies
import Derived.KernelRfl
namespace Go.Proofs.Qxb6602805aMods
/- THE CELL 'sum', in the pinned program and in every row, IS THE sha256 OF THE DUMP (.gsa) THAT Qxb6602805aModsProg.lean LOADS. Nothing in Lean hashes anything: it is a label: what it is worth is what the hold of that sum in a sandbox is worth. -/
noncomputable def Trym.pinned : Pinned := { name := "qxb6602805amods", sum := "ba64edfb4158798cf0a0cf2ed9ea69bb62dc846ca964f8006d22cff91a0ea5c7", checked := Trym.checked }
namespace Rows
def none {H : Type} : Left H := { results := [], args := [] }

/-- 'zzlaws_pkg_rules_b1.FnSortBytesMatchesMergeSort': WHATEVER THE INPUT: true; the input reads as it did. -/
def fnSortBytesMatchesMergeSortSpec : ChangeSpec := { name := "fnSortBytesMatchesMergeSort", fn := fun _ => fun
  | [d] => { results := [.lit (.bool true)], args := [d] }
  | _ => none }
def fnSortBytesMatchesMergeSortRow : OpenClaim := { program := "qxb6602805amods", sum := "ba64edfb4158798cf0a0cf2ed9ea69bb62dc846ca964f8006d22cff91a0ea5c7", func := "example.com/sealwright/sealwright/zzlaws_pkg_rules_b1.FnSortBytesMatchesMergeSort", spec := "fnSortBytesMatchesMergeSort", recurses := true, make := .lifted ["publicsums"], apart := false }
def FnSortBytesMatchesMergeSortSaid : Prop := fnSortBytesMatchesMergeSortRow.holds Trym.pinned (OpenSpec.ofChange fnSortBytesMatchesMergeSortSpec)

/-- ITS FALSE NEIGHBOUR: 'it returns false'. Refute it at one input. -/
def fnSortBytesMatchesMergeSortWrong : ChangeSpec := { name := "fnSortBytesMatchesMergeSort", fn := fun _ => fun
  | [d] => { results := [.lit (.bool false)], args := [d] }
  | _ => none }
def FnSortBytesMatchesMergeSortWrongFalsely : Prop := fnSortBytesMatchesMergeSortRow.holds Trym.pinned (OpenSpec.ofChange fnSortBytesMatchesMergeSortWrong)

/-- 'zzlaws_pkg_rules_b1.FnSortBytesIgnoresInputOrder': WHATEVER THE INPUT: true; the input reads as it did. -/
def fnSortBytesIgnoresInputOrderSpec : ChangeSpec := { name := "fnSortBytesIgnoresInputOrder", fn := fun _ => fun
  | [d] => { results := [.lit (.bool true)], args := [d] }
  | _ => none }
def fnSortBytesIgnoresInputOrderRow : OpenClaim := { program := "qxb6602805amods", sum := "ba64edfb4158798cf0a0cf2ed9ea69bb62dc846ca964f8006d22cff91a0ea5c7", func := "example.com/sealwright/sealwright/zzlaws_pkg_rules_b1.FnSortBytesIgnoresInputOrder", spec := "fnSortBytesIgnoresInputOrder", recurses := true, make := .lifted ["publicsums"], apart := false }
def FnSortBytesIgnoresInputOrderSaid : Prop := fnSortBytesIgnoresInputOrderRow.holds Trym.pinned (OpenSpec.ofChange fnSortBytesIgnoresInputOrderSpec)

/-- ITS FALSE NEIGHBOUR: 'it returns false'. Refute it at one input. -/
def fnSortBytesIgnoresInputOrderWrong : ChangeSpec := { name := "fnSortBytesIgnoresInputOrder", fn := fun _ => fun
  | [d] => { results := [.lit (.bool false)], args := [d] }
  | _ => none }
def FnSortBytesIgnoresInputOrderWrongFalsely : Prop := fnSortBytesIgnoresInputOrderRow.holds Trym.pinned (OpenSpec.ofChange fnSortBytesIgnoresInputOrderWrong)

/-- 'zzlaws_pkg_rules_b1.FnSortBytesIgnoresASharedPrefix': WHATEVER THE INPUT: true; the input reads as it did. -/
def fnSortBytesIgnoresASharedPrefixSpec : ChangeSpec := { name := "fnSortBytesIgnoresASharedPrefix", fn := fun _ => fun
  | [d1, d2] => { results := [.lit (.bool true)], args := [d1, d2] }
  | _ => none }
def fnSortBytesIgnoresASharedPrefixRow : OpenClaim := { program := "qxb6602805amods", sum := "ba64edfb4158798cf0a0cf2ed9ea69bb62dc846ca964f8006d22cff91a0ea5c7", func := "example.com/sealwright/sealwright/zzlaws_pkg_rules_b1.FnSortBytesIgnoresASharedPrefix", spec := "fnSortBytesIgnoresASharedPrefix", recurses := true, make := .lifted ["publicsums"], apart := false }
def FnSortBytesIgnoresASharedPrefixSaid : Prop := fnSortBytesIgnoresASharedPrefixRow.holds Trym.pinned (OpenSpec.ofChange fnSortBytesIgnoresASharedPrefixSpec)

/-- ITS FALSE NEIGHBOUR: 'it returns false'. Refute it at one input. -/
def fnSortBytesIgnoresASharedPrefixWrong : ChangeSpec := { name := "fnSortBytesIgnoresASharedPrefix", fn := fun _ => fun
  | [d1, d2] => { results := [.lit (.bool false)], args := [d1, d2] }
  | _ => none }
def FnSortBytesIgnoresASharedPrefixWrongFalsely : Prop := fnSortBytesIgnoresASharedPrefixRow.holds Trym.pinned (OpenSpec.ofChange fnSortBytesIgnoresASharedPrefixWrong)

/-- 'zzlaws_pkg_rules_b1.FnSortBytesFromSortsAndKeepsEachWord': WHATEVER THE INPUT: true; the input reads as it did. -/
def fnSortBytesFromSortsAndKeepsEachWordSpec : ChangeSpec := { name := "fnSortBytesFromSortsAndKeepsEachWord", fn := fun _ => fun
  | [d1, d2, d3, d4] => { results := [.lit (.bool true)], args := [d1, d2, d3, d4] }
  | _ => none }
def fnSortBytesFromSortsAndKeepsEachWordRow : OpenClaim := { program := "qxb6602805amods", sum := "ba64edfb4158798cf0a0cf2ed9ea69bb62dc846ca964f8006d22cff91a0ea5c7", func := "example.com/sealwright/sealwright/zzlaws_pkg_rules_b1.FnSortBytesFromSortsAndKeepsEachWord", spec := "fnSortBytesFromSortsAndKeepsEachWord", recurses := true, make := .lifted ["publicsums"], apart := false }
def FnSortBytesFromSortsAndKeepsEachWordSaid : Prop := fnSortBytesFromSortsAndKeepsEachWordRow.holds Trym.pinned (OpenSpec.ofChange fnSortBytesFromSortsAndKeepsEachWordSpec)

/-- ITS FALSE NEIGHBOUR: 'it returns false'. Refute it at one input. -/
def fnSortBytesFromSortsAndKeepsEachWordWrong : ChangeSpec := { name := "fnSortBytesFromSortsAndKeepsEachWord", fn := fun _ => fun
  | [d1, d2, d3, d4] => { results := [.lit (.bool false)], args := [d1, d2, d3, d4] }
  | _ => none }
def FnSortBytesFromSortsAndKeepsEachWordWrongFalsely : Prop := fnSortBytesFromSortsAndKeepsEachWordRow.holds Trym.pinned (OpenSpec.ofChange fnSortBytesFromSortsAndKeepsEachWordWrong)

/-- 'zzlaws_pkg_rules_b1.FnSortBytesFromAgreesWithSortBytes': WHATEVER THE INPUT: true; the input reads as it did. -/
def fnSortBytesFromAgreesWithSortBytesSpec : ChangeSpec := { name := "fnSortBytesFromAgreesWithSortBytes", fn := fun _ => fun
  | [d1, d2, d3, d4] => { results := [.lit (.bool true)], args := [d1, d2, d3, d4] }
  | _ => none }
def fnSortBytesFromAgreesWithSortBytesRow : OpenClaim := { program := "qxb6602805amods", sum := "ba64edfb4158798cf0a0cf2ed9ea69bb62dc846ca964f8006d22cff91a0ea5c7", func := "example.com/sealwright/sealwright/zzlaws_pkg_rules_b1.FnSortBytesFromAgreesWithSortBytes", spec := "fnSortBytesFromAgreesWithSortBytes", recurses := true, make := .lifted ["publicsums"], apart := false }
def FnSortBytesFromAgreesWithSortBytesSaid : Prop := fnSortBytesFromAgreesWithSortBytesRow.holds Trym.pinned (OpenSpec.ofChange fnSortBytesFromAgreesWithSortBytesSpec)

/-- ITS FALSE NEIGHBOUR: 'it returns false'. Refute it at one input. -/
def fnSortBytesFromAgreesWithSortBytesWrong : ChangeSpec := { name := "fnSortBytesFromAgreesWithSortBytes", fn := fun _ => fun
  | [d1, d2, d3, d4] => { results := [.lit (.bool false)], args := [d1, d2, d3, d4] }
  | _ => none }
def FnSortBytesFromAgreesWithSortBytesWrongFalsely : Prop := fnSortBytesFromAgreesWithSortBytesRow.holds Trym.pinned (OpenSpec.ofChange fnSortBytesFromAgreesWithSortBytesWrong)

/-- 'zzlaws_pkg_rules_b1.FnWordAtSlidesByOneByte': WHATEVER THE INPUT: true; the input reads as it did. -/
def fnWordAtSlidesByOneByteSpec : ChangeSpec := { name := "fnWordAtSlidesByOneByte", fn := fun _ => fun
  | [d1, d2] => { results := [.lit (.bool true)], args := [d1, d2] }
  | _ => none }
def fnWordAtSlidesByOneByteRow : OpenClaim := { program := "qxb6602805amods", sum := "ba64edfb4158798cf0a0cf2ed9ea69bb62dc846ca964f8006d22cff91a0ea5c7", func := "example.com/sealwright/sealwright/zzlaws_pkg_rules_b1.FnWordAtSlidesByOneByte", spec := "fnWordAtSlidesByOneByte", make := .lifted ["publicsums"], apart := false }
def FnWordAtSlidesByOneByteSaid : Prop := fnWordAtSlidesByOneByteRow.holds Trym.pinned (OpenSpec.ofChange fnWordAtSlidesByOneByteSpec)

/-- ITS FALSE NEIGHBOUR: 'it returns false'. Refute it at one input. -/
def fnWordAtSlidesByOneByteWrong : ChangeSpec := { name := "fnWordAtSlidesByOneByte", fn := fun _ => fun
  | [d1, d2] => { results := [.lit (.bool false)], args := [d1, d2] }
  | _ => none }
def FnWordAtSlidesByOneByteWrongFalsely : Prop := fnWordAtSlidesByOneByteRow.holds Trym.pinned (OpenSpec.ofChange fnWordAtSlidesByOneByteWrong)

/-- 'zzlaws_pkg_rules_b1.FnWordAtOrdersAsTheStrings': WHATEVER THE INPUT: true; the input reads as it did. -/
def fnWordAtOrdersAsTheStringsSpec : ChangeSpec := { name := "fnWordAtOrdersAsTheStrings", fn := fun _ => fun
  | [d1, d2, d3] => { results := [.lit (.bool true)], args := [d1, d2, d3] }
  | _ => none }
def fnWordAtOrdersAsTheStringsRow : OpenClaim := { program := "qxb6602805amods", sum := "ba64edfb4158798cf0a0cf2ed9ea69bb62dc846ca964f8006d22cff91a0ea5c7", func := "example.com/sealwright/sealwright/zzlaws_pkg_rules_b1.FnWordAtOrdersAsTheStrings", spec := "fnWordAtOrdersAsTheStrings", make := .lifted ["publicsums"], apart := false }
def FnWordAtOrdersAsTheStringsSaid : Prop := fnWordAtOrdersAsTheStringsRow.holds Trym.pinned (OpenSpec.ofChange fnWordAtOrdersAsTheStringsSpec)

/-- ITS FALSE NEIGHBOUR: 'it returns false'. Refute it at one input. -/
def fnWordAtOrdersAsTheStringsWrong : ChangeSpec := { name := "fnWordAtOrdersAsTheStrings", fn := fun _ => fun
  | [d1, d2, d3] => { results := [.lit (.bool false)], args := [d1, d2, d3] }
  | _ => none }
def FnWordAtOrdersAsTheStringsWrongFalsely : Prop := fnWordAtOrdersAsTheStringsRow.holds Trym.pinned (OpenSpec.ofChange fnWordAtOrdersAsTheStringsWrong)

end Rows
end Go.Proofs.Qxb6602805aMods
