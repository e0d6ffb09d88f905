/-
  No cell of these rows narrows 'for every input' (looked for: loops, veiled, ifaces, maps, wideKeys, modest, calm, conditions, laid).
  DERIVED. THE GIVEN ROWS OF THIS SEAT. 6 by the template 'for every input the law returns true; each argument reads behind the call as it read before'; 0 by the template 'total and deterministic' (their statements: Qxb6000068aModsTotals.lean).
  GIVEN WITH THE SEED: the statements are not yours to turn. If you find one false, say at which input.
  Laid BY PROGRAM, IN A SANDBOX (cutbox-rows.mjs): the forced cells as the released guide's own fill.sh prints them over the translation 414ac2f615ba1e73… (all of the seat's roots in one cut). By AI agents, Wed Nov 11 2026. No macro, syntax, notation, axiom, sorry.
-/
import Derived.Test.Qxb6000068aModsChecked
import GoSem.Claim
import GoSem.ClaimJoined
import GoSem.ClaimMapViews
import Derived.JoinedTies
import Derived.KernelRfl
namespace Go.Proofs.Qxb6000068aMods
/- THE CELL 'sum', in the pinned program and in every row, IS THE sha256 OF THE DUMP (.gsa) THAT Qxb6000068aModsProg.lean LOADS. Nothing in Lean hashes anything: it is a label: what it is worth is what the hold of that sum in a sandbox is worth. -/
noncomputable def Trym.pinned : Pinned := { name := "qxb6000068amods", sum := "414ac2f615ba1e73a8f94544e16f1193b0a77cabd118a6b99eb64182397790d6", checked := Trym.checked }
namespace Rows
def none {H : Type} : Left H := { results := [], args := [] }

/-- 'zzlaws_report_b1.FnCsvFieldSpec': WHATEVER THE INPUT: true; the input reads as it did. -/
def fnCsvFieldSpecSpec : ChangeSpec := { name := "fnCsvFieldSpec", fn := fun _ => fun
  | [d1, d2] => { results := [.lit (.bool true)], args := [d1, d2] }
  | _ => none }
def fnCsvFieldSpecRow : OpenClaim := { program := "qxb6000068amods", sum := "414ac2f615ba1e73a8f94544e16f1193b0a77cabd118a6b99eb64182397790d6", func := "example.com/lockweight/lockweight/zzlaws_report_b1.FnCsvFieldSpec", spec := "fnCsvFieldSpec", make := .lifted ["publicsums"], apart := false }
def FnCsvFieldSpecSaid : Prop := fnCsvFieldSpecRow.holds Trym.pinned (OpenSpec.ofChange fnCsvFieldSpecSpec)

/-- ITS FALSE NEIGHBOUR: 'it returns false'. Refute it at one input. -/
def fnCsvFieldSpecWrong : ChangeSpec := { name := "fnCsvFieldSpec", fn := fun _ => fun
  | [d1, d2] => { results := [.lit (.bool false)], args := [d1, d2] }
  | _ => none }
def FnCsvFieldSpecWrongFalsely : Prop := fnCsvFieldSpecRow.holds Trym.pinned (OpenSpec.ofChange fnCsvFieldSpecWrong)

/-- 'zzlaws_report_b1.FnCsvFieldInjective': WHATEVER THE INPUT: true; the input reads as it did. -/
def fnCsvFieldInjectiveSpec : ChangeSpec := { name := "fnCsvFieldInjective", fn := fun _ => fun
  | [d1, d2] => { results := [.lit (.bool true)], args := [d1, d2] }
  | _ => none }
def fnCsvFieldInjectiveRow : OpenClaim := { program := "qxb6000068amods", sum := "414ac2f615ba1e73a8f94544e16f1193b0a77cabd118a6b99eb64182397790d6", func := "example.com/lockweight/lockweight/zzlaws_report_b1.FnCsvFieldInjective", spec := "fnCsvFieldInjective", make := .lifted ["publicsums"], apart := false }
def FnCsvFieldInjectiveSaid : Prop := fnCsvFieldInjectiveRow.holds Trym.pinned (OpenSpec.ofChange fnCsvFieldInjectiveSpec)

/-- ITS FALSE NEIGHBOUR: 'it returns false'. Refute it at one input. -/
def fnCsvFieldInjectiveWrong : ChangeSpec := { name := "fnCsvFieldInjective", fn := fun _ => fun
  | [d1, d2] => { results := [.lit (.bool false)], args := [d1, d2] }
  | _ => none }
def FnCsvFieldInjectiveWrongFalsely : Prop := fnCsvFieldInjectiveRow.holds Trym.pinned (OpenSpec.ofChange fnCsvFieldInjectiveWrong)

/-- 'zzlaws_report_b1.FnCsvRowParses': WHATEVER THE INPUT: true; the input reads as it did. -/
def fnCsvRowParsesSpec : ChangeSpec := { name := "fnCsvRowParses", fn := fun _ => fun
  | [d1, d2] => { results := [.lit (.bool true)], args := [d1, d2] }
  | _ => none }
def fnCsvRowParsesRow : OpenClaim := { program := "qxb6000068amods", sum := "414ac2f615ba1e73a8f94544e16f1193b0a77cabd118a6b99eb64182397790d6", func := "example.com/lockweight/lockweight/zzlaws_report_b1.FnCsvRowParses", spec := "fnCsvRowParses", make := .lifted ["publicsums"], apart := false }
def FnCsvRowParsesSaid : Prop := fnCsvRowParsesRow.holds Trym.pinned (OpenSpec.ofChange fnCsvRowParsesSpec)

/-- ITS FALSE NEIGHBOUR: 'it returns false'. Refute it at one input. -/
def fnCsvRowParsesWrong : ChangeSpec := { name := "fnCsvRowParses", fn := fun _ => fun
  | [d1, d2] => { results := [.lit (.bool false)], args := [d1, d2] }
  | _ => none }
def FnCsvRowParsesWrongFalsely : Prop := fnCsvRowParsesRow.holds Trym.pinned (OpenSpec.ofChange fnCsvRowParsesWrong)

/-- 'zzlaws_report_b1.FnLineStringLastValue': WHATEVER THE INPUT: true; the input reads as it did. -/
def fnLineStringLastValueSpec : ChangeSpec := { name := "fnLineStringLastValue", fn := fun _ => fun
  | [d1, d2, d3, d4] => { results := [.lit (.bool true)], args := [d1, d2, d3, d4] }
  | _ => none }
def fnLineStringLastValueRow : OpenClaim := { program := "qxb6000068amods", sum := "414ac2f615ba1e73a8f94544e16f1193b0a77cabd118a6b99eb64182397790d6", func := "example.com/lockweight/lockweight/zzlaws_report_b1.FnLineStringLastValue", spec := "fnLineStringLastValue", inPlace := ["internal/abi.NoEscape", "internal/bytealg.MakeNoZero"], make := .lifted ["publicsums"], apart := false }
def FnLineStringLastValueSaid : Prop := fnLineStringLastValueRow.holds Trym.pinned (OpenSpec.ofChange fnLineStringLastValueSpec)

/-- ITS FALSE NEIGHBOUR: 'it returns false'. Refute it at one input. -/
def fnLineStringLastValueWrong : ChangeSpec := { name := "fnLineStringLastValue", fn := fun _ => fun
  | [d1, d2, d3, d4] => { results := [.lit (.bool false)], args := [d1, d2, d3, d4] }
  | _ => none }
def FnLineStringLastValueWrongFalsely : Prop := fnLineStringLastValueRow.holds Trym.pinned (OpenSpec.ofChange fnLineStringLastValueWrong)

/-- 'zzlaws_report_b1.FnLineStringGaugeAccountAsValues': WHATEVER THE INPUT: true; the input reads as it did. -/
def fnLineStringGaugeAccountAsValuesSpec : ChangeSpec := { name := "fnLineStringGaugeAccountAsValues", fn := fun _ => fun
  | [d1, d2, d3, d4] => { results := [.lit (.bool true)], args := [d1, d2, d3, d4] }
  | _ => none }
def fnLineStringGaugeAccountAsValuesRow : OpenClaim := { program := "qxb6000068amods", sum := "414ac2f615ba1e73a8f94544e16f1193b0a77cabd118a6b99eb64182397790d6", func := "example.com/lockweight/lockweight/zzlaws_report_b1.FnLineStringGaugeAccountAsValues", spec := "fnLineStringGaugeAccountAsValues", inPlace := ["internal/abi.NoEscape", "internal/bytealg.MakeNoZero"], make := .lifted ["publicsums"], apart := false }
def FnLineStringGaugeAccountAsValuesSaid : Prop := fnLineStringGaugeAccountAsValuesRow.holds Trym.pinned (OpenSpec.ofChange fnLineStringGaugeAccountAsValuesSpec)

/-- ITS FALSE NEIGHBOUR: 'it returns false'. Refute it at one input. -/
def fnLineStringGaugeAccountAsValuesWrong : ChangeSpec := { name := "fnLineStringGaugeAccountAsValues", fn := fun _ => fun
  | [d1, d2, d3, d4] => { results := [.lit (.bool false)], args := [d1, d2, d3, d4] }
  | _ => none }
def FnLineStringGaugeAccountAsValuesWrongFalsely : Prop := fnLineStringGaugeAccountAsValuesRow.holds Trym.pinned (OpenSpec.ofChange fnLineStringGaugeAccountAsValuesWrong)

/-- 'zzlaws_report_b1.FnLineStringSplits': WHATEVER THE INPUT: true; the input reads as it did. -/
def fnLineStringSplitsSpec : ChangeSpec := { name := "fnLineStringSplits", fn := fun _ => fun
  | [d1, d2, d3, d4] => { results := [.lit (.bool true)], args := [d1, d2, d3, d4] }
  | _ => none }
def fnLineStringSplitsRow : OpenClaim := { program := "qxb6000068amods", sum := "414ac2f615ba1e73a8f94544e16f1193b0a77cabd118a6b99eb64182397790d6", func := "example.com/lockweight/lockweight/zzlaws_report_b1.FnLineStringSplits", spec := "fnLineStringSplits", inPlace := ["internal/abi.NoEscape", "internal/bytealg.MakeNoZero"], make := .lifted ["publicsums"], apart := false }
def FnLineStringSplitsSaid : Prop := fnLineStringSplitsRow.holds Trym.pinned (OpenSpec.ofChange fnLineStringSplitsSpec)

/-- ITS FALSE NEIGHBOUR: 'it returns false'. Refute it at one input. -/
def fnLineStringSplitsWrong : ChangeSpec := { name := "fnLineStringSplits", fn := fun _ => fun
  | [d1, d2, d3, d4] => { results := [.lit (.bool false)], args := [d1, d2, d3, d4] }
  | _ => none }
def FnLineStringSplitsWrongFalsely : Prop := fnLineStringSplitsRow.holds Trym.pinned (OpenSpec.ofChange fnLineStringSplitsWrong)

end Rows
end Go.Proofs.Qxb6000068aMods
