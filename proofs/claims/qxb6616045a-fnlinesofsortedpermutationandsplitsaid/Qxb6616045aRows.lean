/-
  No cell of these rows narrows 'for every input' (looked for: loops, veiled, ifaces, maps, wideKeys, modest, calm, conditions, laid).
  DERIVED. THE GIVEN ROWS OF THIS SEAT. 2 by the template 'for every input the law returns true; each argument reads behind the call as it read before'; 0 by the template 'total and deterministic' (their statements: Qxb6616045aTotals.lean).
  GIVEN WITH THE SEED: the statements are not yours to turn. If you find one false, say at which input.
  Laid BY PROGRAM, IN A SANDBOX (cutbox-rows.mjs): the forced cells as the released guide's own fill.sh prints them over the translation 3a938cdcc3dbbc0d… (all of the seat's roots in one cut). By AI agents, Wed Nov 11 2026. No macro, syntax, notation, axiom, sorry.
-/
import Derived.Test.Qxb6616045aChecked
import GoSem.Claim
import GoSem.ClaimJoined
import GoSem.ClaimMapViews
import Derived.JoinedTies
import Derived.KernelRfl
namespace Go.Proofs.Qxb6616045a
/- THE CELL 'sum', in the pinned program and in every row, IS THE sha256 OF THE DUMP (.gsa) THAT Qxb6616045aProg.lean LOADS. Nothing in Lean hashes anything: it is a label: what it is worth is what the hold of that sum in a sandbox is worth. -/
noncomputable def Try.pinned : Pinned := { name := "qxb6616045a", sum := "3a938cdcc3dbbc0d37c5911d8d5ba5260e685c0fac4dded075b027445c83f900", checked := Try.checked }
namespace Rows
def none {H : Type} : Left H := { results := [], args := [] }

/-- 'zzlaws_internal_policy_b1.FnLinesOfSortedPermutationAndSplit': WHATEVER THE INPUT: true; the input reads as it did. -/
def fnLinesOfSortedPermutationAndSplitSpec : ChangeSpec := { name := "fnLinesOfSortedPermutationAndSplit", fn := fun _ => fun
  | [d1, d2] => { results := [.lit (.bool true)], args := [d1, d2] }
  | _ => none }
def fnLinesOfSortedPermutationAndSplitRow : OpenClaim := { program := "qxb6616045a", sum := "3a938cdcc3dbbc0d37c5911d8d5ba5260e685c0fac4dded075b027445c83f900", func := "example.com/ledgerworth/ledgerworth/zzlaws_internal_policy_b1.FnLinesOfSortedPermutationAndSplit", spec := "fnLinesOfSortedPermutationAndSplit", unfollowed := true, recurses := true, apart := false }
def FnLinesOfSortedPermutationAndSplitSaid : Prop := fnLinesOfSortedPermutationAndSplitRow.holds Try.pinned (OpenSpec.ofChange fnLinesOfSortedPermutationAndSplitSpec)

/-- ITS FALSE NEIGHBOUR: 'it returns false'. Refute it at one input. -/
def fnLinesOfSortedPermutationAndSplitWrong : ChangeSpec := { name := "fnLinesOfSortedPermutationAndSplit", fn := fun _ => fun
  | [d1, d2] => { results := [.lit (.bool false)], args := [d1, d2] }
  | _ => none }
def FnLinesOfSortedPermutationAndSplitWrongFalsely : Prop := fnLinesOfSortedPermutationAndSplitRow.holds Try.pinned (OpenSpec.ofChange fnLinesOfSortedPermutationAndSplitWrong)

/-- 'zzlaws_internal_policy_b1.FnLinesOfOneMoreLoan': WHATEVER THE INPUT: true; the input reads as it did. -/
def fnLinesOfOneMoreLoanSpec : ChangeSpec := { name := "fnLinesOfOneMoreLoan", fn := fun _ => fun
  | [d1, d2, d3] => { results := [.lit (.bool true)], args := [d1, d2, d3] }
  | _ => none }
def fnLinesOfOneMoreLoanRow : OpenClaim := { program := "qxb6616045a", sum := "3a938cdcc3dbbc0d37c5911d8d5ba5260e685c0fac4dded075b027445c83f900", func := "example.com/ledgerworth/ledgerworth/zzlaws_internal_policy_b1.FnLinesOfOneMoreLoan", spec := "fnLinesOfOneMoreLoan", unfollowed := true, recurses := true, apart := false }
def FnLinesOfOneMoreLoanSaid : Prop := fnLinesOfOneMoreLoanRow.holds Try.pinned (OpenSpec.ofChange fnLinesOfOneMoreLoanSpec)

/-- ITS FALSE NEIGHBOUR: 'it returns false'. Refute it at one input. -/
def fnLinesOfOneMoreLoanWrong : ChangeSpec := { name := "fnLinesOfOneMoreLoan", fn := fun _ => fun
  | [d1, d2, d3] => { results := [.lit (.bool false)], args := [d1, d2, d3] }
  | _ => none }
def FnLinesOfOneMoreLoanWrongFalsely : Prop := fnLinesOfOneMoreLoanRow.holds Try.pinned (OpenSpec.ofChange fnLinesOfOneMoreLoanWrong)

end Rows
end Go.Proofs.Qxb6616045a
