/-
  No cell of these rows narrows 'for every input' (looked for: loops, veiled, ifaces, maps, wideKeys, modest, calm, conditions, laid).
  DERIVED. THE GIVEN ROWS OF THIS SEAT. 1 by the template 'for every input the law returns true; each argument reads behind the call as it read before'; 0 by the template 'total and deterministic' (their statements: Qxb6617634aTotals.lean).
  GIVEN WITH THE SEED: the statements are not yours to turn. If you find one false, say at which input.
  Laid BY PROGRAM, IN A SANDBOX (cutbox-rows.mjs): the forced cells as the released guide's own fill.sh prints them over the translation 02d670fb9a042d92… (all of the seat's roots in one cut). By AI agents, Wed Nov 11 2026. No macro, syntax, notation, axiom, sorry.
-/
import Derived.Test.Qxb6617634aChecked
import GoSem.Claim
import GoSem.ClaimJoined
import GoSem.ClaimMapViews
import Derived.JoinedTies
import Derived.KernelRfl
namespace Go.Proofs.Qxb6617634a
/- THE CELL 'sum', in the pinned program and in every row, IS THE sha256 OF THE DUMP (.gsa) THAT Qxb6617634aProg.lean LOADS. Nothing in Lean hashes anything: it is a label: what it is worth is what the hold of that sum in a sandbox is worth. -/
noncomputable def Try.pinned : Pinned := { name := "qxb6617634a", sum := "02d670fb9a042d9264a0fcbd866eedd121053c70d4d9c82574eead7109d13a33", checked := Try.checked }
namespace Rows
def none {H : Type} : Left H := { results := [], args := [] }

/-- 'zzlaws_witness_b1.FnCosignersAfterScriptKeepsTrailingRun': WHATEVER THE INPUT: true; the input reads as it did. -/
def fnCosignersAfterScriptKeepsTrailingRunSpec : ChangeSpec := { name := "fnCosignersAfterScriptKeepsTrailingRun", fn := fun _ => fun
  | [d1, d2, d3] => { results := [.lit (.bool true)], args := [d1, d2, d3] }
  | _ => none }
def fnCosignersAfterScriptKeepsTrailingRunRow : OpenClaim := { program := "qxb6617634a", sum := "02d670fb9a042d9264a0fcbd866eedd121053c70d4d9c82574eead7109d13a33", func := "example.com/tallyroot/tallyroot/zzlaws_witness_b1.FnCosignersAfterScriptKeepsTrailingRun", spec := "fnCosignersAfterScriptKeepsTrailingRun", apart := false }
def FnCosignersAfterScriptKeepsTrailingRunSaid : Prop := fnCosignersAfterScriptKeepsTrailingRunRow.holds Try.pinned (OpenSpec.ofChange fnCosignersAfterScriptKeepsTrailingRunSpec)

/-- ITS FALSE NEIGHBOUR: 'it returns false'. Refute it at one input. -/
def fnCosignersAfterScriptKeepsTrailingRunWrong : ChangeSpec := { name := "fnCosignersAfterScriptKeepsTrailingRun", fn := fun _ => fun
  | [d1, d2, d3] => { results := [.lit (.bool false)], args := [d1, d2, d3] }
  | _ => none }
def FnCosignersAfterScriptKeepsTrailingRunWrongFalsely : Prop := fnCosignersAfterScriptKeepsTrailingRunRow.holds Try.pinned (OpenSpec.ofChange fnCosignersAfterScriptKeepsTrailingRunWrong)

end Rows
end Go.Proofs.Qxb6617634a
