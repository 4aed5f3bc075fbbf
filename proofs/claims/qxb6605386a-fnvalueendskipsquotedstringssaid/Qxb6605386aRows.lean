/-
  No cell of these rows narrows 'for every input' (looked for: loops, veiled, ifaces, maps, wideKeys, modest, calm, conditions, laid).
  DERIVED. THE GIVEN ROWS OF THIS SEAT. 6 by the template 'for every input the law returns true; each argument reads behind the call as it read before'; 0 by the template 'total and deterministic' (their statements: Qxb6605386aTotals.lean).
  GIVEN WITH THE SEED: the statements are not yours to turn. If you find one false, say at which input.
  Laid BY PROGRAM, IN A SANDBOX (cutbox-rows.mjs): the forced cells as the released guide's own fill.sh prints them over the translation 9097de07ee5adec3… (all of the seat's roots in one cut). By AI agents, Wed Nov 11 2026. No macro, syntax, notation, axiom, sorry.
-/
import Derived.Test.Qxb6605386aChecked
import GoSem.Claim
import GoSem.ClaimJoined
import GoSem.ClaimMapViews
import Derived.JoinedTies
import Derived.KernelRfl
namespace Go.Proofs.Qxb6605386a
/- THE CELL 'sum', in the pinned program and in every row, IS THE sha256 OF THE DUMP (.gsa) THAT Qxb6605386aProg.lean LOADS. Nothing in Lean hashes anything: it is a label: what it is worth is what the hold of that sum in a sandbox is worth. -/
noncomputable def Try.pinned : Pinned := { name := "qxb6605386a", sum := "9097de07ee5adec391be7ba85481ad9d41a012fe3ddb9610a38a49fbad5fa57f", checked := Try.checked }
namespace Rows
def none {H : Type} : Left H := { results := [], args := [] }

/-- 'zzlaws_internal_jsonspan_b1.FnValidNumberMatchesAutomaton': WHATEVER THE INPUT: true; the input reads as it did. -/
def fnValidNumberMatchesAutomatonSpec : ChangeSpec := { name := "fnValidNumberMatchesAutomaton", fn := fun _ => fun
  | [d1, d2] => { results := [.lit (.bool true)], args := [d1, d2] }
  | _ => none }
def fnValidNumberMatchesAutomatonRow : OpenClaim := { program := "qxb6605386a", sum := "9097de07ee5adec391be7ba85481ad9d41a012fe3ddb9610a38a49fbad5fa57f", func := "example.com/helsingor/helsingor/zzlaws_internal_jsonspan_b1.FnValidNumberMatchesAutomaton", spec := "fnValidNumberMatchesAutomaton", apart := false }
def FnValidNumberMatchesAutomatonSaid : Prop := fnValidNumberMatchesAutomatonRow.holds Try.pinned (OpenSpec.ofChange fnValidNumberMatchesAutomatonSpec)

/-- ITS FALSE NEIGHBOUR: 'it returns false'. Refute it at one input. -/
def fnValidNumberMatchesAutomatonWrong : ChangeSpec := { name := "fnValidNumberMatchesAutomaton", fn := fun _ => fun
  | [d1, d2] => { results := [.lit (.bool false)], args := [d1, d2] }
  | _ => none }
def FnValidNumberMatchesAutomatonWrongFalsely : Prop := fnValidNumberMatchesAutomatonRow.holds Try.pinned (OpenSpec.ofChange fnValidNumberMatchesAutomatonWrong)

/-- 'zzlaws_internal_jsonspan_b1.FnValidNumberReadsWrittenNumber': WHATEVER THE INPUT: true; the input reads as it did. -/
def fnValidNumberReadsWrittenNumberSpec : ChangeSpec := { name := "fnValidNumberReadsWrittenNumber", fn := fun _ => fun
  | [d1, d2, d3, d4, d5, d6, d7, d8, d9, d10] => { results := [.lit (.bool true)], args := [d1, d2, d3, d4, d5, d6, d7, d8, d9, d10] }
  | _ => none }
def fnValidNumberReadsWrittenNumberRow : OpenClaim := { program := "qxb6605386a", sum := "9097de07ee5adec391be7ba85481ad9d41a012fe3ddb9610a38a49fbad5fa57f", func := "example.com/helsingor/helsingor/zzlaws_internal_jsonspan_b1.FnValidNumberReadsWrittenNumber", spec := "fnValidNumberReadsWrittenNumber", apart := false }
def FnValidNumberReadsWrittenNumberSaid : Prop := fnValidNumberReadsWrittenNumberRow.holds Try.pinned (OpenSpec.ofChange fnValidNumberReadsWrittenNumberSpec)

/-- ITS FALSE NEIGHBOUR: 'it returns false'. Refute it at one input. -/
def fnValidNumberReadsWrittenNumberWrong : ChangeSpec := { name := "fnValidNumberReadsWrittenNumber", fn := fun _ => fun
  | [d1, d2, d3, d4, d5, d6, d7, d8, d9, d10] => { results := [.lit (.bool false)], args := [d1, d2, d3, d4, d5, d6, d7, d8, d9, d10] }
  | _ => none }
def FnValidNumberReadsWrittenNumberWrongFalsely : Prop := fnValidNumberReadsWrittenNumberRow.holds Try.pinned (OpenSpec.ofChange fnValidNumberReadsWrittenNumberWrong)

/-- 'zzlaws_internal_jsonspan_b1.FnValueEndMatchesScanner': WHATEVER THE INPUT: true; the input reads as it did. -/
def fnValueEndMatchesScannerSpec : ChangeSpec := { name := "fnValueEndMatchesScanner", fn := fun _ => fun
  | [d1, d2] => { results := [.lit (.bool true)], args := [d1, d2] }
  | _ => none }
def fnValueEndMatchesScannerRow : OpenClaim := { program := "qxb6605386a", sum := "9097de07ee5adec391be7ba85481ad9d41a012fe3ddb9610a38a49fbad5fa57f", func := "example.com/helsingor/helsingor/zzlaws_internal_jsonspan_b1.FnValueEndMatchesScanner", spec := "fnValueEndMatchesScanner", inPlace := ["internal/bytealg.IndexByte", "internal/bytealg.IndexByteString"], apart := false }
def FnValueEndMatchesScannerSaid : Prop := fnValueEndMatchesScannerRow.holds Try.pinned (OpenSpec.ofChange fnValueEndMatchesScannerSpec)

/-- ITS FALSE NEIGHBOUR: 'it returns false'. Refute it at one input. -/
def fnValueEndMatchesScannerWrong : ChangeSpec := { name := "fnValueEndMatchesScanner", fn := fun _ => fun
  | [d1, d2] => { results := [.lit (.bool false)], args := [d1, d2] }
  | _ => none }
def FnValueEndMatchesScannerWrongFalsely : Prop := fnValueEndMatchesScannerRow.holds Try.pinned (OpenSpec.ofChange fnValueEndMatchesScannerWrong)

/-- 'zzlaws_internal_jsonspan_b1.FnValueEndSkipsQuotedStrings': WHATEVER THE INPUT: true; the input reads as it did. -/
def fnValueEndSkipsQuotedStringsSpec : ChangeSpec := { name := "fnValueEndSkipsQuotedStrings", fn := fun _ => fun
  | [d1, d2, d3, d4] => { results := [.lit (.bool true)], args := [d1, d2, d3, d4] }
  | _ => none }
def fnValueEndSkipsQuotedStringsRow : OpenClaim := { program := "qxb6605386a", sum := "9097de07ee5adec391be7ba85481ad9d41a012fe3ddb9610a38a49fbad5fa57f", func := "example.com/helsingor/helsingor/zzlaws_internal_jsonspan_b1.FnValueEndSkipsQuotedStrings", spec := "fnValueEndSkipsQuotedStrings", inPlace := ["internal/bytealg.IndexByte", "internal/bytealg.IndexByteString"], apart := false }
def FnValueEndSkipsQuotedStringsSaid : Prop := fnValueEndSkipsQuotedStringsRow.holds Try.pinned (OpenSpec.ofChange fnValueEndSkipsQuotedStringsSpec)

/-- ITS FALSE NEIGHBOUR: 'it returns false'. Refute it at one input. -/
def fnValueEndSkipsQuotedStringsWrong : ChangeSpec := { name := "fnValueEndSkipsQuotedStrings", fn := fun _ => fun
  | [d1, d2, d3, d4] => { results := [.lit (.bool false)], args := [d1, d2, d3, d4] }
  | _ => none }
def FnValueEndSkipsQuotedStringsWrongFalsely : Prop := fnValueEndSkipsQuotedStringsRow.holds Try.pinned (OpenSpec.ofChange fnValueEndSkipsQuotedStringsWrong)

/-- 'zzlaws_internal_jsonspan_b1.FnKeySetHadAddsKey': WHATEVER THE INPUT: true; the input reads as it did. -/
def fnKeySetHadAddsKeySpec : ChangeSpec := { name := "fnKeySetHadAddsKey", fn := fun _ => fun
  | [d1, d2, d3, d4] => { results := [.lit (.bool true)], args := [d1, d2, d3, d4] }
  | _ => none }
def fnKeySetHadAddsKeyRow : OpenClaim := { program := "qxb6605386a", sum := "9097de07ee5adec391be7ba85481ad9d41a012fe3ddb9610a38a49fbad5fa57f", func := "example.com/helsingor/helsingor/zzlaws_internal_jsonspan_b1.FnKeySetHadAddsKey", spec := "fnKeySetHadAddsKey", apart := false }
def FnKeySetHadAddsKeySaid : Prop := fnKeySetHadAddsKeyRow.holds Try.pinned (OpenSpec.ofChange fnKeySetHadAddsKeySpec)

/-- ITS FALSE NEIGHBOUR: 'it returns false'. Refute it at one input. -/
def fnKeySetHadAddsKeyWrong : ChangeSpec := { name := "fnKeySetHadAddsKey", fn := fun _ => fun
  | [d1, d2, d3, d4] => { results := [.lit (.bool false)], args := [d1, d2, d3, d4] }
  | _ => none }
def FnKeySetHadAddsKeyWrongFalsely : Prop := fnKeySetHadAddsKeyRow.holds Try.pinned (OpenSpec.ofChange fnKeySetHadAddsKeyWrong)

/-- 'zzlaws_internal_jsonspan_b1.FnKeySetHadReportsRepeats': WHATEVER THE INPUT: true; the input reads as it did. -/
def fnKeySetHadReportsRepeatsSpec : ChangeSpec := { name := "fnKeySetHadReportsRepeats", fn := fun _ => fun
  | [d] => { results := [.lit (.bool true)], args := [d] }
  | _ => none }
def fnKeySetHadReportsRepeatsRow : OpenClaim := { program := "qxb6605386a", sum := "9097de07ee5adec391be7ba85481ad9d41a012fe3ddb9610a38a49fbad5fa57f", func := "example.com/helsingor/helsingor/zzlaws_internal_jsonspan_b1.FnKeySetHadReportsRepeats", spec := "fnKeySetHadReportsRepeats", apart := false }
def FnKeySetHadReportsRepeatsSaid : Prop := fnKeySetHadReportsRepeatsRow.holds Try.pinned (OpenSpec.ofChange fnKeySetHadReportsRepeatsSpec)

/-- ITS FALSE NEIGHBOUR: 'it returns false'. Refute it at one input. -/
def fnKeySetHadReportsRepeatsWrong : ChangeSpec := { name := "fnKeySetHadReportsRepeats", fn := fun _ => fun
  | [d] => { results := [.lit (.bool false)], args := [d] }
  | _ => none }
def FnKeySetHadReportsRepeatsWrongFalsely : Prop := fnKeySetHadReportsRepeatsRow.holds Try.pinned (OpenSpec.ofChange fnKeySetHadReportsRepeatsWrong)

end Rows
end Go.Proofs.Qxb6605386a
