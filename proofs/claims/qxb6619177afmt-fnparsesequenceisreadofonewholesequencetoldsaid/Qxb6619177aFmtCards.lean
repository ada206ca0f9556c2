/-
  DERIVED. GIVEN WITH THE SEED: THE CARDS: each row of Qxb6619177aFmtRows.lean that lists a variable, with what it lists TIED to the program's text (the seventh form; the later family's looks); each row that meets fmt, with fmt's text TOLD by the authors' own Lean function (tested against real Go, not proved from fmt's source: count such statements apart). THE CARD IS WHAT COUNTS. Prove the row's statement (the work); the ties are given (Qxb6619177aFmtTie.lean); close each card by the builder's one call (the guide's Derived/Test/ToyasCard.lean, 'card_holds'). Laid BY PROGRAM, IN A SANDBOX (cutbox-door.mjs). By AI agents, Wed Nov 11 2026. No macro, syntax, notation, axiom, sorry.
-/
import Derived.Test.Qxb6619177aFmtRows
import GoSem.ClaimSeven
namespace Go.Proofs.Qxb6619177aFmt
namespace Rows

/-- THE TOLD CARD OF 'zzlaws_pkg_der_e1.FnReadMatchesDERModel'. -/
def fnReadMatchesDERModelCard : Claim7 := { stood := { row := fnReadMatchesDERModelRow, standIns := [], harness := (true, "2f920ba4b3d53fe5d320838d74021a1f2615321ad5b7d96dfebf6fdd84c99112"), looks := false }, told := true, goes := false }
def FnReadMatchesDERModelToldSaid : Prop := Claim7.holds Tryf.pinned (.plain (OpenSpec.ofChange fnReadMatchesDERModelSpec)) fnReadMatchesDERModelCard
/-- ITS FALSE NEIGHBOUR. Refute it at one input. -/
def FnReadMatchesDERModelToldWrongFalsely : Prop := Claim7.holds Tryf.pinned (.plain (OpenSpec.ofChange fnReadMatchesDERModelWrong)) fnReadMatchesDERModelCard

/-- THE TOLD CARD OF 'zzlaws_pkg_der_e1.FnReadIsSelfDelimiting'. -/
def fnReadIsSelfDelimitingCard : Claim7 := { stood := { row := fnReadIsSelfDelimitingRow, standIns := [], harness := (true, "2f920ba4b3d53fe5d320838d74021a1f2615321ad5b7d96dfebf6fdd84c99112"), looks := false }, told := true, goes := false }
def FnReadIsSelfDelimitingToldSaid : Prop := Claim7.holds Tryf.pinned (.plain (OpenSpec.ofChange fnReadIsSelfDelimitingSpec)) fnReadIsSelfDelimitingCard
/-- ITS FALSE NEIGHBOUR. Refute it at one input. -/
def FnReadIsSelfDelimitingToldWrongFalsely : Prop := Claim7.holds Tryf.pinned (.plain (OpenSpec.ofChange fnReadIsSelfDelimitingWrong)) fnReadIsSelfDelimitingCard

/-- THE TOLD CARD OF 'zzlaws_pkg_der_e1.FnParseSequenceIsReadOfOneWholeSequence'. -/
def fnParseSequenceIsReadOfOneWholeSequenceCard : Claim7 := { stood := { row := fnParseSequenceIsReadOfOneWholeSequenceRow, standIns := [], harness := (true, "2f920ba4b3d53fe5d320838d74021a1f2615321ad5b7d96dfebf6fdd84c99112"), looks := false }, told := true, goes := false }
def FnParseSequenceIsReadOfOneWholeSequenceToldSaid : Prop := Claim7.holds Tryf.pinned (.plain (OpenSpec.ofChange fnParseSequenceIsReadOfOneWholeSequenceSpec)) fnParseSequenceIsReadOfOneWholeSequenceCard
/-- ITS FALSE NEIGHBOUR. Refute it at one input. -/
def FnParseSequenceIsReadOfOneWholeSequenceToldWrongFalsely : Prop := Claim7.holds Tryf.pinned (.plain (OpenSpec.ofChange fnParseSequenceIsReadOfOneWholeSequenceWrong)) fnParseSequenceIsReadOfOneWholeSequenceCard

/-- THE TOLD CARD OF 'zzlaws_pkg_der_e1.FnParseSequenceIgnoresNameAndRefusesTrailingData'. -/
def fnParseSequenceIgnoresNameAndRefusesTrailingDataCard : Claim7 := { stood := { row := fnParseSequenceIgnoresNameAndRefusesTrailingDataRow, standIns := [], harness := (true, "2f920ba4b3d53fe5d320838d74021a1f2615321ad5b7d96dfebf6fdd84c99112"), looks := false }, told := true, goes := false }
def FnParseSequenceIgnoresNameAndRefusesTrailingDataToldSaid : Prop := Claim7.holds Tryf.pinned (.plain (OpenSpec.ofChange fnParseSequenceIgnoresNameAndRefusesTrailingDataSpec)) fnParseSequenceIgnoresNameAndRefusesTrailingDataCard
/-- ITS FALSE NEIGHBOUR. Refute it at one input. -/
def FnParseSequenceIgnoresNameAndRefusesTrailingDataToldWrongFalsely : Prop := Claim7.holds Tryf.pinned (.plain (OpenSpec.ofChange fnParseSequenceIgnoresNameAndRefusesTrailingDataWrong)) fnParseSequenceIgnoresNameAndRefusesTrailingDataCard
end Rows
end Go.Proofs.Qxb6619177aFmt
