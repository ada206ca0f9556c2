/-
  No cell of these rows narrows 'for every input' (looked for: loops, veiled, ifaces, maps, wideKeys, modest, calm, conditions, laid).
  DERIVED. THE GIVEN ROWS OF THIS SEAT. 3 by the template 'for every input the law returns true; each argument reads behind the call as it read before'; 0 by the template 'total and deterministic' (their statements: Qxb6619202aTotals.lean).
  GIVEN WITH THE SEED: the statements are not yours to turn. If you find one false, say at which input.
  Laid BY PROGRAM, IN A SANDBOX (cutbox-rows.mjs): the forced cells as the released guide's own fill.sh prints them over the translation e5ebb12491c4c7cb… (all of the seat's roots in one cut). By AI agents, Wed Nov 11 2026. No macro, syntax, notation, axiom, sorry.
-/
import Derived.Test.Qxb6619202aChecked
import GoSem.Claim
import GoSem.ClaimJoined
import GoSem.ClaimMapViews
import Derived.JoinedTies
import Derived.KernelRfl
namespace Go.Proofs.Qxb6619202a
/- THE CELL 'sum', in the pinned program and in every row, IS THE sha256 OF THE DUMP (.gsa) THAT Qxb6619202aProg.lean LOADS. Nothing in Lean hashes anything: it is a label: what it is worth is what the hold of that sum in a sandbox is worth. -/
noncomputable def Try.pinned : Pinned := { name := "qxb6619202a", sum := "e5ebb12491c4c7cbcddd092068e165cd69881c2463f7abbe875f85804cea8726", checked := Try.checked }
namespace Rows
def none {H : Type} : Left H := { results := [], args := [] }

/-- 'zzlaws_pkg_parser_b1.FnExponentEndIsLongestExponent': WHATEVER THE INPUT: true; the input reads as it did. -/
def fnExponentEndIsLongestExponentSpec : ChangeSpec := { name := "fnExponentEndIsLongestExponent", fn := fun _ => fun
  | [d1, d2, d3] => { results := [.lit (.bool true)], args := [d1, d2, d3] }
  | _ => none }
def fnExponentEndIsLongestExponentRow : OpenClaim := { program := "qxb6619202a", sum := "e5ebb12491c4c7cbcddd092068e165cd69881c2463f7abbe875f85804cea8726", func := "example.com/palimpsest/palimpsest/zzlaws_pkg_parser_b1.FnExponentEndIsLongestExponent", spec := "fnExponentEndIsLongestExponent", apart := false }
def FnExponentEndIsLongestExponentSaid : Prop := fnExponentEndIsLongestExponentRow.holds Try.pinned (OpenSpec.ofChange fnExponentEndIsLongestExponentSpec)

/-- ITS FALSE NEIGHBOUR: 'it returns false'. Refute it at one input. -/
def fnExponentEndIsLongestExponentWrong : ChangeSpec := { name := "fnExponentEndIsLongestExponent", fn := fun _ => fun
  | [d1, d2, d3] => { results := [.lit (.bool false)], args := [d1, d2, d3] }
  | _ => none }
def FnExponentEndIsLongestExponentWrongFalsely : Prop := fnExponentEndIsLongestExponentRow.holds Try.pinned (OpenSpec.ofChange fnExponentEndIsLongestExponentWrong)

/-- 'zzlaws_pkg_parser_b1.FnColumnRefPartsInjectiveDropsLeadingEmpties': WHATEVER THE INPUT: true; the input reads as it did. -/
def fnColumnRefPartsInjectiveDropsLeadingEmptiesSpec : ChangeSpec := { name := "fnColumnRefPartsInjectiveDropsLeadingEmpties", fn := fun _ => fun
  | [d1, d2, d3, d4, d5, d6] => { results := [.lit (.bool true)], args := [d1, d2, d3, d4, d5, d6] }
  | _ => none }
def fnColumnRefPartsInjectiveDropsLeadingEmptiesRow : OpenClaim := { program := "qxb6619202a", sum := "e5ebb12491c4c7cbcddd092068e165cd69881c2463f7abbe875f85804cea8726", func := "example.com/palimpsest/palimpsest/zzlaws_pkg_parser_b1.FnColumnRefPartsInjectiveDropsLeadingEmpties", spec := "fnColumnRefPartsInjectiveDropsLeadingEmpties", apart := false }
def FnColumnRefPartsInjectiveDropsLeadingEmptiesSaid : Prop := fnColumnRefPartsInjectiveDropsLeadingEmptiesRow.holds Try.pinned (OpenSpec.ofChange fnColumnRefPartsInjectiveDropsLeadingEmptiesSpec)

/-- ITS FALSE NEIGHBOUR: 'it returns false'. Refute it at one input. -/
def fnColumnRefPartsInjectiveDropsLeadingEmptiesWrong : ChangeSpec := { name := "fnColumnRefPartsInjectiveDropsLeadingEmpties", fn := fun _ => fun
  | [d1, d2, d3, d4, d5, d6] => { results := [.lit (.bool false)], args := [d1, d2, d3, d4, d5, d6] }
  | _ => none }
def FnColumnRefPartsInjectiveDropsLeadingEmptiesWrongFalsely : Prop := fnColumnRefPartsInjectiveDropsLeadingEmptiesRow.holds Try.pinned (OpenSpec.ofChange fnColumnRefPartsInjectiveDropsLeadingEmptiesWrong)

/-- 'zzlaws_pkg_parser_b1.FnUnescapeClashesOnlyWithItsControlByte': WHATEVER THE INPUT: true; the input reads as it did. -/
def fnUnescapeClashesOnlyWithItsControlByteSpec : ChangeSpec := { name := "fnUnescapeClashesOnlyWithItsControlByte", fn := fun _ => fun
  | [d1, d2] => { results := [.lit (.bool true)], args := [d1, d2] }
  | _ => none }
def fnUnescapeClashesOnlyWithItsControlByteRow : OpenClaim := { program := "qxb6619202a", sum := "e5ebb12491c4c7cbcddd092068e165cd69881c2463f7abbe875f85804cea8726", func := "example.com/palimpsest/palimpsest/zzlaws_pkg_parser_b1.FnUnescapeClashesOnlyWithItsControlByte", spec := "fnUnescapeClashesOnlyWithItsControlByte", apart := false }
def FnUnescapeClashesOnlyWithItsControlByteSaid : Prop := fnUnescapeClashesOnlyWithItsControlByteRow.holds Try.pinned (OpenSpec.ofChange fnUnescapeClashesOnlyWithItsControlByteSpec)

/-- ITS FALSE NEIGHBOUR: 'it returns false'. Refute it at one input. -/
def fnUnescapeClashesOnlyWithItsControlByteWrong : ChangeSpec := { name := "fnUnescapeClashesOnlyWithItsControlByte", fn := fun _ => fun
  | [d1, d2] => { results := [.lit (.bool false)], args := [d1, d2] }
  | _ => none }
def FnUnescapeClashesOnlyWithItsControlByteWrongFalsely : Prop := fnUnescapeClashesOnlyWithItsControlByteRow.holds Try.pinned (OpenSpec.ofChange fnUnescapeClashesOnlyWithItsControlByteWrong)

end Rows
end Go.Proofs.Qxb6619202a
