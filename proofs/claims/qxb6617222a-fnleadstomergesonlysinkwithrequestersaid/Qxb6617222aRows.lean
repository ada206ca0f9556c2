/-
  No cell of these rows narrows 'for every input' (looked for: loops, veiled, ifaces, maps, wideKeys, modest, calm, conditions, laid).
  DERIVED. THE GIVEN ROWS OF THIS SEAT. 1 by the template 'for every input the law returns true; each argument reads behind the call as it read before'; 0 by the template 'total and deterministic' (their statements: Qxb6617222aTotals.lean).
  GIVEN WITH THE SEED: the statements are not yours to turn. If you find one false, say at which input.
  Laid BY PROGRAM, IN A SANDBOX (cutbox-rows.mjs): the forced cells as the released guide's own fill.sh prints them over the translation 4311929281b2a56a… (all of the seat's roots in one cut). By AI agents, Wed Nov 11 2026. No macro, syntax, notation, axiom, sorry.
-/
import Derived.Test.Qxb6617222aChecked
import GoSem.Claim
import GoSem.ClaimJoined
import GoSem.ClaimMapViews
import Derived.JoinedTies
import Derived.KernelRfl
namespace Go.Proofs.Qxb6617222a
/- THE CELL 'sum', in the pinned program and in every row, IS THE sha256 OF THE DUMP (.gsa) THAT Qxb6617222aProg.lean LOADS. Nothing in Lean hashes anything: it is a label: what it is worth is what the hold of that sum in a sandbox is worth. -/
noncomputable def Try.pinned : Pinned := { name := "qxb6617222a", sum := "4311929281b2a56afd582cb75cfc2f16d0e72348010c6b533009e05fda8f97f4", checked := Try.checked }
namespace Rows
def none {H : Type} : Left H := { results := [], args := [] }

/-- 'zzlaws_internal_waitgraph_b1.FnLeadsToMergesOnlySinkWithRequester': WHATEVER THE INPUT: true; the input reads as it did. -/
def fnLeadsToMergesOnlySinkWithRequesterSpec : ChangeSpec := { name := "fnLeadsToMergesOnlySinkWithRequester", fn := fun _ => fun
  | [d1, d2] => { results := [.lit (.bool true)], args := [d1, d2] }
  | _ => none }
def fnLeadsToMergesOnlySinkWithRequesterRow : OpenClaim := { program := "qxb6617222a", sum := "4311929281b2a56afd582cb75cfc2f16d0e72348010c6b533009e05fda8f97f4", func := "example.com/lockweave/lockweave/zzlaws_internal_waitgraph_b1.FnLeadsToMergesOnlySinkWithRequester", spec := "fnLeadsToMergesOnlySinkWithRequester", apart := false }
def FnLeadsToMergesOnlySinkWithRequesterSaid : Prop := fnLeadsToMergesOnlySinkWithRequesterRow.holds Try.pinned (OpenSpec.ofChange fnLeadsToMergesOnlySinkWithRequesterSpec)

/-- ITS FALSE NEIGHBOUR: 'it returns false'. Refute it at one input. -/
def fnLeadsToMergesOnlySinkWithRequesterWrong : ChangeSpec := { name := "fnLeadsToMergesOnlySinkWithRequester", fn := fun _ => fun
  | [d1, d2] => { results := [.lit (.bool false)], args := [d1, d2] }
  | _ => none }
def FnLeadsToMergesOnlySinkWithRequesterWrongFalsely : Prop := fnLeadsToMergesOnlySinkWithRequesterRow.holds Try.pinned (OpenSpec.ofChange fnLeadsToMergesOnlySinkWithRequesterWrong)

end Rows
end Go.Proofs.Qxb6617222a
