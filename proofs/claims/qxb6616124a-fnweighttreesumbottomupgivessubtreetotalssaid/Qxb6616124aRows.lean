/-
  No cell of these rows narrows 'for every input' (looked for: loops, veiled, ifaces, maps, wideKeys, modest, calm, conditions, laid).
  DERIVED. THE GIVEN ROWS OF THIS SEAT. 1 by the template 'for every input the law returns true; each argument reads behind the call as it read before'; 0 by the template 'total and deterministic' (their statements: Qxb6616124aTotals.lean).
  GIVEN WITH THE SEED: the statements are not yours to turn. If you find one false, say at which input.
  Laid BY PROGRAM, IN A SANDBOX (cutbox-rows.mjs): the forced cells as the released guide's own fill.sh prints them over the translation 785509137a547be4… (all of the seat's roots in one cut). By AI agents, Wed Nov 11 2026. No macro, syntax, notation, axiom, sorry.
-/
import Derived.Test.Qxb6616124aChecked
import GoSem.Claim
import GoSem.ClaimJoined
import GoSem.ClaimMapViews
import Derived.JoinedTies
import Derived.KernelRfl
namespace Go.Proofs.Qxb6616124a
/- THE CELL 'sum', in the pinned program and in every row, IS THE sha256 OF THE DUMP (.gsa) THAT Qxb6616124aProg.lean LOADS. Nothing in Lean hashes anything: it is a label: what it is worth is what the hold of that sum in a sandbox is worth. -/
noncomputable def Try.pinned : Pinned := { name := "qxb6616124a", sum := "785509137a547be4c0f312a987658ab0eb58a79c090cad69a685d157c517df18", checked := Try.checked }
namespace Rows
def none {H : Type} : Left H := { results := [], args := [] }

/-- 'zzlaws_root_b1.FnWeightTreeSumBottomUpGivesSubtreeTotals': WHATEVER THE INPUT: true; the input reads as it did. -/
def fnWeightTreeSumBottomUpGivesSubtreeTotalsSpec : ChangeSpec := { name := "fnWeightTreeSumBottomUpGivesSubtreeTotals", fn := fun _ => fun
  | [d1, d2] => { results := [.lit (.bool true)], args := [d1, d2] }
  | _ => none }
def fnWeightTreeSumBottomUpGivesSubtreeTotalsRow : OpenClaim := { program := "qxb6616124a", sum := "785509137a547be4c0f312a987658ab0eb58a79c090cad69a685d157c517df18", func := "example.com/pickwise/pickwise/zzlaws_root_b1.FnWeightTreeSumBottomUpGivesSubtreeTotals", spec := "fnWeightTreeSumBottomUpGivesSubtreeTotals", inPlace := ["math.Float64bits", "sync/atomic.LoadUint64", "sync/atomic.StoreUint64", "math.Float64frombits"], apart := false }
def FnWeightTreeSumBottomUpGivesSubtreeTotalsSaid : Prop := fnWeightTreeSumBottomUpGivesSubtreeTotalsRow.holds Try.pinned (OpenSpec.ofChange fnWeightTreeSumBottomUpGivesSubtreeTotalsSpec)

/-- ITS FALSE NEIGHBOUR: 'it returns false'. Refute it at one input. -/
def fnWeightTreeSumBottomUpGivesSubtreeTotalsWrong : ChangeSpec := { name := "fnWeightTreeSumBottomUpGivesSubtreeTotals", fn := fun _ => fun
  | [d1, d2] => { results := [.lit (.bool false)], args := [d1, d2] }
  | _ => none }
def FnWeightTreeSumBottomUpGivesSubtreeTotalsWrongFalsely : Prop := fnWeightTreeSumBottomUpGivesSubtreeTotalsRow.holds Try.pinned (OpenSpec.ofChange fnWeightTreeSumBottomUpGivesSubtreeTotalsWrong)

end Rows
end Go.Proofs.Qxb6616124a
