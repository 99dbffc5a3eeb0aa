/-
  No cell of these rows narrows 'for every input' (looked for: loops, veiled, ifaces, maps, wideKeys, modest, calm, conditions, laid).
  DERIVED. THE GIVEN ROWS OF THIS SEAT. 4 by the template 'for every input the law returns true; each argument reads behind the call as it read before'; 0 by the template 'total and deterministic' (their statements: Qxb6616008aTotals.lean).
  GIVEN WITH THE SEED: the statements are not yours to turn. If you find one false, say at which input.
  Laid BY PROGRAM, IN A SANDBOX (cutbox-rows.mjs): the forced cells as the released guide's own fill.sh prints them over the translation e3b60eec9a336bdb… (all of the seat's roots in one cut). By AI agents, Wed Nov 11 2026. No macro, syntax, notation, axiom, sorry.
-/
import Derived.Test.Qxb6616008aChecked
import GoSem.Claim
import GoSem.ClaimJoined
import GoSem.ClaimMapViews
import Derived.JoinedTies
import Derived.KernelRfl
namespace Go.Proofs.Qxb6616008a
/- THE CELL 'sum', in the pinned program and in every row, IS THE sha256 OF THE DUMP (.gsa) THAT Qxb6616008aProg.lean LOADS. Nothing in Lean hashes anything: it is a label: what it is worth is what the hold of that sum in a sandbox is worth. -/
noncomputable def Try.pinned : Pinned := { name := "qxb6616008a", sum := "e3b60eec9a336bdb245d723045e2168f090db906bc332c00d0d11cebdbdf14f5", checked := Try.checked }
namespace Rows
def none {H : Type} : Left H := { results := [], args := [] }

/-- 'zzlaws_pkg_storage_b1.FnRevealAfterFlushReleasesSeenAndFires': WHATEVER THE INPUT: true; the input reads as it did. -/
def fnRevealAfterFlushReleasesSeenAndFiresSpec : ChangeSpec := { name := "fnRevealAfterFlushReleasesSeenAndFires", fn := fun _ => fun
  | [d1, d2, d3, d4, d5] => { results := [.lit (.bool true)], args := [d1, d2, d3, d4, d5] }
  | _ => none }
def fnRevealAfterFlushReleasesSeenAndFiresRow : OpenClaim := { program := "qxb6616008a", sum := "e3b60eec9a336bdb245d723045e2168f090db906bc332c00d0d11cebdbdf14f5", func := "example.com/cohort/cohort/zzlaws_pkg_storage_b1.FnRevealAfterFlushReleasesSeenAndFires", spec := "fnRevealAfterFlushReleasesSeenAndFires", unfollowed := true, recurses := true, plainKeys := false, apart := false }
def FnRevealAfterFlushReleasesSeenAndFiresSaid : Prop := fnRevealAfterFlushReleasesSeenAndFiresRow.holds Try.pinned (OpenSpec.ofChange fnRevealAfterFlushReleasesSeenAndFiresSpec)

/-- ITS FALSE NEIGHBOUR: 'it returns false'. Refute it at one input. -/
def fnRevealAfterFlushReleasesSeenAndFiresWrong : ChangeSpec := { name := "fnRevealAfterFlushReleasesSeenAndFires", fn := fun _ => fun
  | [d1, d2, d3, d4, d5] => { results := [.lit (.bool false)], args := [d1, d2, d3, d4, d5] }
  | _ => none }
def FnRevealAfterFlushReleasesSeenAndFiresWrongFalsely : Prop := fnRevealAfterFlushReleasesSeenAndFiresRow.holds Try.pinned (OpenSpec.ofChange fnRevealAfterFlushReleasesSeenAndFiresWrong)

/-- 'zzlaws_pkg_storage_b1.FnRevealInTwoFlushesAgreesWithOne': WHATEVER THE INPUT: true; the input reads as it did. -/
def fnRevealInTwoFlushesAgreesWithOneSpec : ChangeSpec := { name := "fnRevealInTwoFlushesAgreesWithOne", fn := fun _ => fun
  | [d1, d2, d3, d4, d5, d6, d7] => { results := [.lit (.bool true)], args := [d1, d2, d3, d4, d5, d6, d7] }
  | _ => none }
def fnRevealInTwoFlushesAgreesWithOneRow : OpenClaim := { program := "qxb6616008a", sum := "e3b60eec9a336bdb245d723045e2168f090db906bc332c00d0d11cebdbdf14f5", func := "example.com/cohort/cohort/zzlaws_pkg_storage_b1.FnRevealInTwoFlushesAgreesWithOne", spec := "fnRevealInTwoFlushesAgreesWithOne", unfollowed := true, recurses := true, plainKeys := false, apart := false }
def FnRevealInTwoFlushesAgreesWithOneSaid : Prop := fnRevealInTwoFlushesAgreesWithOneRow.holds Try.pinned (OpenSpec.ofChange fnRevealInTwoFlushesAgreesWithOneSpec)

/-- ITS FALSE NEIGHBOUR: 'it returns false'. Refute it at one input. -/
def fnRevealInTwoFlushesAgreesWithOneWrong : ChangeSpec := { name := "fnRevealInTwoFlushesAgreesWithOne", fn := fun _ => fun
  | [d1, d2, d3, d4, d5, d6, d7] => { results := [.lit (.bool false)], args := [d1, d2, d3, d4, d5, d6, d7] }
  | _ => none }
def FnRevealInTwoFlushesAgreesWithOneWrongFalsely : Prop := fnRevealInTwoFlushesAgreesWithOneRow.holds Try.pinned (OpenSpec.ofChange fnRevealInTwoFlushesAgreesWithOneWrong)

/-- 'zzlaws_pkg_storage_b1.FnNextDirFreshStoreGivesRunsOfAHundred': WHATEVER THE INPUT: true; the input reads as it did. -/
def fnNextDirFreshStoreGivesRunsOfAHundredSpec : ChangeSpec := { name := "fnNextDirFreshStoreGivesRunsOfAHundred", fn := fun _ => fun
  | [d1, d2] => { results := [.lit (.bool true)], args := [d1, d2] }
  | _ => none }
def fnNextDirFreshStoreGivesRunsOfAHundredRow : OpenClaim := { program := "qxb6616008a", sum := "e3b60eec9a336bdb245d723045e2168f090db906bc332c00d0d11cebdbdf14f5", func := "example.com/cohort/cohort/zzlaws_pkg_storage_b1.FnNextDirFreshStoreGivesRunsOfAHundred", spec := "fnNextDirFreshStoreGivesRunsOfAHundred", inPlace := ["sync/atomic.StoreUint64", "sync/atomic.AddUint64", "sync/atomic.LoadUint64"], plainKeys := false, apart := false }
def FnNextDirFreshStoreGivesRunsOfAHundredSaid : Prop := fnNextDirFreshStoreGivesRunsOfAHundredRow.holds Try.pinned (OpenSpec.ofChange fnNextDirFreshStoreGivesRunsOfAHundredSpec)

/-- ITS FALSE NEIGHBOUR: 'it returns false'. Refute it at one input. -/
def fnNextDirFreshStoreGivesRunsOfAHundredWrong : ChangeSpec := { name := "fnNextDirFreshStoreGivesRunsOfAHundred", fn := fun _ => fun
  | [d1, d2] => { results := [.lit (.bool false)], args := [d1, d2] }
  | _ => none }
def FnNextDirFreshStoreGivesRunsOfAHundredWrongFalsely : Prop := fnNextDirFreshStoreGivesRunsOfAHundredRow.holds Try.pinned (OpenSpec.ofChange fnNextDirFreshStoreGivesRunsOfAHundredWrong)

/-- 'zzlaws_pkg_storage_b1.FnNextDirStepsAtEveryHundredthAndShiftsWithFirst': WHATEVER THE INPUT: true; the input reads as it did. -/
def fnNextDirStepsAtEveryHundredthAndShiftsWithFirstSpec : ChangeSpec := { name := "fnNextDirStepsAtEveryHundredthAndShiftsWithFirst", fn := fun _ => fun
  | [d1, d2, d3] => { results := [.lit (.bool true)], args := [d1, d2, d3] }
  | _ => none }
def fnNextDirStepsAtEveryHundredthAndShiftsWithFirstRow : OpenClaim := { program := "qxb6616008a", sum := "e3b60eec9a336bdb245d723045e2168f090db906bc332c00d0d11cebdbdf14f5", func := "example.com/cohort/cohort/zzlaws_pkg_storage_b1.FnNextDirStepsAtEveryHundredthAndShiftsWithFirst", spec := "fnNextDirStepsAtEveryHundredthAndShiftsWithFirst", inPlace := ["sync/atomic.StoreUint64", "sync/atomic.AddUint64", "sync/atomic.LoadUint64"], plainKeys := false, apart := false }
def FnNextDirStepsAtEveryHundredthAndShiftsWithFirstSaid : Prop := fnNextDirStepsAtEveryHundredthAndShiftsWithFirstRow.holds Try.pinned (OpenSpec.ofChange fnNextDirStepsAtEveryHundredthAndShiftsWithFirstSpec)

/-- ITS FALSE NEIGHBOUR: 'it returns false'. Refute it at one input. -/
def fnNextDirStepsAtEveryHundredthAndShiftsWithFirstWrong : ChangeSpec := { name := "fnNextDirStepsAtEveryHundredthAndShiftsWithFirst", fn := fun _ => fun
  | [d1, d2, d3] => { results := [.lit (.bool false)], args := [d1, d2, d3] }
  | _ => none }
def FnNextDirStepsAtEveryHundredthAndShiftsWithFirstWrongFalsely : Prop := fnNextDirStepsAtEveryHundredthAndShiftsWithFirstRow.holds Try.pinned (OpenSpec.ofChange fnNextDirStepsAtEveryHundredthAndShiftsWithFirstWrong)

end Rows
end Go.Proofs.Qxb6616008a
