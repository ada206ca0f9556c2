/-
  No cell of these rows narrows 'for every input' (looked for: loops, veiled, ifaces, maps, wideKeys, modest, calm, conditions, laid).
  DERIVED. THE GIVEN ROWS OF THIS SEAT. 4 by the template 'for every input the law returns true; each argument reads behind the call as it read before'; 0 by the template 'total and deterministic' (their statements: Qxb6619177aFmtTotals.lean).
  GIVEN WITH THE SEED: the statements are not yours to turn. If you find one false, say at which input.
  Laid BY PROGRAM, IN A SANDBOX (cutbox-rows.mjs): the forced cells as the released guide's own fill.sh prints them over the translation 69460f0010d9a549… (all of the seat's roots in one cut). By AI agents, Wed Nov 11 2026. No macro, syntax, notation, axiom, sorry.
-/
import Derived.Test.Qxb6619177aFmtChecked
import GoSem.Claim
import GoSem.ClaimJoined
import GoSem.ClaimMapViews
import Derived.JoinedTies
import Derived.KernelRfl
namespace Go.Proofs.Qxb6619177aFmt
/- THE CELL 'sum', in the pinned program and in every row, IS THE sha256 OF THE DUMP (.gsa) THAT Qxb6619177aFmtProg.lean LOADS. Nothing in Lean hashes anything: it is a label: what it is worth is what the hold of that sum in a sandbox is worth. -/
noncomputable def Tryf.pinned : Pinned := { name := "qxb6619177afmt", sum := "69460f0010d9a5494fed6502540431f12b2c71c81b759873d0641909e5b21a00", checked := Tryf.checked }
namespace Rows
def none {H : Type} : Left H := { results := [], args := [] }

/-- 'zzlaws_pkg_der_e1.FnReadMatchesDERModel': WHATEVER THE INPUT: true; the input reads as it did. -/
def fnReadMatchesDERModelSpec : ChangeSpec := { name := "fnReadMatchesDERModel", fn := fun _ => fun
  | [d1, d2] => { results := [.lit (.bool true)], args := [d1, d2] }
  | _ => none }
def fnReadMatchesDERModelRow : OpenClaim := { program := "qxb6619177afmt", sum := "69460f0010d9a5494fed6502540431f12b2c71c81b759873d0641909e5b21a00", func := "example.com/curvewright/curvewright/zzlaws_pkg_der_e1.FnReadMatchesDERModel", spec := "fnReadMatchesDERModel", stops := ["fmt.errorf", "fmt.Sprintf"], inPlace := ["fmt.Sprintf", "fmt.errorf"], apart := false }
/-- NO THEOREM (fmt's text is open here; it may be false): for the released tool's asking of the row's closed facts alone. THE STATEMENT IS 'FnReadMatchesDERModelToldSaid' (Qxb6619177aFmtCards.lean). -/
def FnReadMatchesDERModelFormAsk : Prop := fnReadMatchesDERModelRow.holds Tryf.pinned (OpenSpec.ofChange fnReadMatchesDERModelSpec)

/-- ITS FALSE NEIGHBOUR: 'it returns false'. Refute it at one input. -/
def fnReadMatchesDERModelWrong : ChangeSpec := { name := "fnReadMatchesDERModel", fn := fun _ => fun
  | [d1, d2] => { results := [.lit (.bool false)], args := [d1, d2] }
  | _ => none }
def FnReadMatchesDERModelWrongFormAsk : Prop := fnReadMatchesDERModelRow.holds Tryf.pinned (OpenSpec.ofChange fnReadMatchesDERModelWrong)

/-- 'zzlaws_pkg_der_e1.FnReadIsSelfDelimiting': WHATEVER THE INPUT: true; the input reads as it did. -/
def fnReadIsSelfDelimitingSpec : ChangeSpec := { name := "fnReadIsSelfDelimiting", fn := fun _ => fun
  | [d1, d2, d3] => { results := [.lit (.bool true)], args := [d1, d2, d3] }
  | _ => none }
def fnReadIsSelfDelimitingRow : OpenClaim := { program := "qxb6619177afmt", sum := "69460f0010d9a5494fed6502540431f12b2c71c81b759873d0641909e5b21a00", func := "example.com/curvewright/curvewright/zzlaws_pkg_der_e1.FnReadIsSelfDelimiting", spec := "fnReadIsSelfDelimiting", stops := ["fmt.errorf", "fmt.Sprintf"], inPlace := ["fmt.Sprintf", "fmt.errorf"], apart := false }
/-- NO THEOREM (fmt's text is open here; it may be false): for the released tool's asking of the row's closed facts alone. THE STATEMENT IS 'FnReadIsSelfDelimitingToldSaid' (Qxb6619177aFmtCards.lean). -/
def FnReadIsSelfDelimitingFormAsk : Prop := fnReadIsSelfDelimitingRow.holds Tryf.pinned (OpenSpec.ofChange fnReadIsSelfDelimitingSpec)

/-- ITS FALSE NEIGHBOUR: 'it returns false'. Refute it at one input. -/
def fnReadIsSelfDelimitingWrong : ChangeSpec := { name := "fnReadIsSelfDelimiting", fn := fun _ => fun
  | [d1, d2, d3] => { results := [.lit (.bool false)], args := [d1, d2, d3] }
  | _ => none }
def FnReadIsSelfDelimitingWrongFormAsk : Prop := fnReadIsSelfDelimitingRow.holds Tryf.pinned (OpenSpec.ofChange fnReadIsSelfDelimitingWrong)

/-- 'zzlaws_pkg_der_e1.FnParseSequenceIsReadOfOneWholeSequence': WHATEVER THE INPUT: true; the input reads as it did. -/
def fnParseSequenceIsReadOfOneWholeSequenceSpec : ChangeSpec := { name := "fnParseSequenceIsReadOfOneWholeSequence", fn := fun _ => fun
  | [d1, d2] => { results := [.lit (.bool true)], args := [d1, d2] }
  | _ => none }
def fnParseSequenceIsReadOfOneWholeSequenceRow : OpenClaim := { program := "qxb6619177afmt", sum := "69460f0010d9a5494fed6502540431f12b2c71c81b759873d0641909e5b21a00", func := "example.com/curvewright/curvewright/zzlaws_pkg_der_e1.FnParseSequenceIsReadOfOneWholeSequence", spec := "fnParseSequenceIsReadOfOneWholeSequence", stops := ["fmt.errorf", "fmt.Sprintf"], inPlace := ["fmt.Sprintf", "fmt.errorf"], apart := false }
/-- NO THEOREM (fmt's text is open here; it may be false): for the released tool's asking of the row's closed facts alone. THE STATEMENT IS 'FnParseSequenceIsReadOfOneWholeSequenceToldSaid' (Qxb6619177aFmtCards.lean). -/
def FnParseSequenceIsReadOfOneWholeSequenceFormAsk : Prop := fnParseSequenceIsReadOfOneWholeSequenceRow.holds Tryf.pinned (OpenSpec.ofChange fnParseSequenceIsReadOfOneWholeSequenceSpec)

/-- ITS FALSE NEIGHBOUR: 'it returns false'. Refute it at one input. -/
def fnParseSequenceIsReadOfOneWholeSequenceWrong : ChangeSpec := { name := "fnParseSequenceIsReadOfOneWholeSequence", fn := fun _ => fun
  | [d1, d2] => { results := [.lit (.bool false)], args := [d1, d2] }
  | _ => none }
def FnParseSequenceIsReadOfOneWholeSequenceWrongFormAsk : Prop := fnParseSequenceIsReadOfOneWholeSequenceRow.holds Tryf.pinned (OpenSpec.ofChange fnParseSequenceIsReadOfOneWholeSequenceWrong)

/-- 'zzlaws_pkg_der_e1.FnParseSequenceIgnoresNameAndRefusesTrailingData': WHATEVER THE INPUT: true; the input reads as it did. -/
def fnParseSequenceIgnoresNameAndRefusesTrailingDataSpec : ChangeSpec := { name := "fnParseSequenceIgnoresNameAndRefusesTrailingData", fn := fun _ => fun
  | [d1, d2, d3, d4] => { results := [.lit (.bool true)], args := [d1, d2, d3, d4] }
  | _ => none }
def fnParseSequenceIgnoresNameAndRefusesTrailingDataRow : OpenClaim := { program := "qxb6619177afmt", sum := "69460f0010d9a5494fed6502540431f12b2c71c81b759873d0641909e5b21a00", func := "example.com/curvewright/curvewright/zzlaws_pkg_der_e1.FnParseSequenceIgnoresNameAndRefusesTrailingData", spec := "fnParseSequenceIgnoresNameAndRefusesTrailingData", stops := ["fmt.errorf", "fmt.Sprintf"], inPlace := ["fmt.Sprintf", "fmt.errorf"], apart := false }
/-- NO THEOREM (fmt's text is open here; it may be false): for the released tool's asking of the row's closed facts alone. THE STATEMENT IS 'FnParseSequenceIgnoresNameAndRefusesTrailingDataToldSaid' (Qxb6619177aFmtCards.lean). -/
def FnParseSequenceIgnoresNameAndRefusesTrailingDataFormAsk : Prop := fnParseSequenceIgnoresNameAndRefusesTrailingDataRow.holds Tryf.pinned (OpenSpec.ofChange fnParseSequenceIgnoresNameAndRefusesTrailingDataSpec)

/-- ITS FALSE NEIGHBOUR: 'it returns false'. Refute it at one input. -/
def fnParseSequenceIgnoresNameAndRefusesTrailingDataWrong : ChangeSpec := { name := "fnParseSequenceIgnoresNameAndRefusesTrailingData", fn := fun _ => fun
  | [d1, d2, d3, d4] => { results := [.lit (.bool false)], args := [d1, d2, d3, d4] }
  | _ => none }
def FnParseSequenceIgnoresNameAndRefusesTrailingDataWrongFormAsk : Prop := fnParseSequenceIgnoresNameAndRefusesTrailingDataRow.holds Tryf.pinned (OpenSpec.ofChange fnParseSequenceIgnoresNameAndRefusesTrailingDataWrong)

end Rows
end Go.Proofs.Qxb6619177aFmt
