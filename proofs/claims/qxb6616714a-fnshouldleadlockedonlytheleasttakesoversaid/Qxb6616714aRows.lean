/-
  No cell of these rows narrows 'for every input' (looked for: loops, veiled, ifaces, maps, wideKeys, modest, calm, conditions, laid).
  DERIVED. THE GIVEN ROWS OF THIS SEAT. 6 by the template 'for every input the law returns true; each argument reads behind the call as it read before'; 0 by the template 'total and deterministic' (their statements: Qxb6616714aTotals.lean).
  GIVEN WITH THE SEED: the statements are not yours to turn. If you find one false, say at which input.
  Laid BY PROGRAM, IN A SANDBOX (cutbox-rows.mjs): the forced cells as the released guide's own fill.sh prints them over the translation 18bc3b5a8792aa39… (all of the seat's roots in one cut). By AI agents, Wed Nov 11 2026. No macro, syntax, notation, axiom, sorry.
-/
import Derived.Test.Qxb6616714aChecked
import GoSem.Claim
import GoSem.ClaimJoined
import GoSem.ClaimMapViews
import Derived.JoinedTies
import Derived.KernelRfl
namespace Go.Proofs.Qxb6616714a
/- THE CELL 'sum', in the pinned program and in every row, IS THE sha256 OF THE DUMP (.gsa) THAT Qxb6616714aProg.lean LOADS. Nothing in Lean hashes anything: it is a label: what it is worth is what the hold of that sum in a sandbox is worth. -/
noncomputable def Try.pinned : Pinned := { name := "qxb6616714a", sum := "18bc3b5a8792aa395ed7562e13ca7c3cdd5e565ceb1e32c99c402c8ad35c9a45", checked := Try.checked }
namespace Rows
def none {H : Type} : Left H := { results := [], args := [] }

/-- 'zzlaws_pkg_replica_b1.FnShouldLeadLockedOnlyTheLeastTakesOver': WHATEVER THE INPUT: true; the input reads as it did. -/
def fnShouldLeadLockedOnlyTheLeastTakesOverSpec : ChangeSpec := { name := "fnShouldLeadLockedOnlyTheLeastTakesOver", fn := fun _ => fun
  | [d1, d2, d3, d4, d5, d6, d7, d8, d9] => { results := [.lit (.bool true)], args := [d1, d2, d3, d4, d5, d6, d7, d8, d9] }
  | _ => none }
def fnShouldLeadLockedOnlyTheLeastTakesOverRow : OpenClaim := { program := "qxb6616714a", sum := "18bc3b5a8792aa395ed7562e13ca7c3cdd5e565ceb1e32c99c402c8ad35c9a45", func := "example.com/holdfast/holdfast/zzlaws_pkg_replica_b1.FnShouldLeadLockedOnlyTheLeastTakesOver", spec := "fnShouldLeadLockedOnlyTheLeastTakesOver", plainKeys := false, apart := false }
def FnShouldLeadLockedOnlyTheLeastTakesOverSaid : Prop := fnShouldLeadLockedOnlyTheLeastTakesOverRow.holds Try.pinned (OpenSpec.ofChange fnShouldLeadLockedOnlyTheLeastTakesOverSpec)

/-- ITS FALSE NEIGHBOUR: 'it returns false'. Refute it at one input. -/
def fnShouldLeadLockedOnlyTheLeastTakesOverWrong : ChangeSpec := { name := "fnShouldLeadLockedOnlyTheLeastTakesOver", fn := fun _ => fun
  | [d1, d2, d3, d4, d5, d6, d7, d8, d9] => { results := [.lit (.bool false)], args := [d1, d2, d3, d4, d5, d6, d7, d8, d9] }
  | _ => none }
def FnShouldLeadLockedOnlyTheLeastTakesOverWrongFalsely : Prop := fnShouldLeadLockedOnlyTheLeastTakesOverRow.holds Try.pinned (OpenSpec.ofChange fnShouldLeadLockedOnlyTheLeastTakesOverWrong)

/-- 'zzlaws_pkg_replica_b1.FnReadSnapshotEncodeReadsBackAndIsInjective': WHATEVER THE INPUT: true; the input reads as it did. -/
def fnReadSnapshotEncodeReadsBackAndIsInjectiveSpec : ChangeSpec := { name := "fnReadSnapshotEncodeReadsBackAndIsInjective", fn := fun _ => fun
  | [d1, d2, d3, d4] => { results := [.lit (.bool true)], args := [d1, d2, d3, d4] }
  | _ => none }
def fnReadSnapshotEncodeReadsBackAndIsInjectiveRow : OpenClaim := { program := "qxb6616714a", sum := "18bc3b5a8792aa395ed7562e13ca7c3cdd5e565ceb1e32c99c402c8ad35c9a45", func := "example.com/holdfast/holdfast/zzlaws_pkg_replica_b1.FnReadSnapshotEncodeReadsBackAndIsInjective", spec := "fnReadSnapshotEncodeReadsBackAndIsInjective", plainKeys := false, apart := false }
def FnReadSnapshotEncodeReadsBackAndIsInjectiveSaid : Prop := fnReadSnapshotEncodeReadsBackAndIsInjectiveRow.holds Try.pinned (OpenSpec.ofChange fnReadSnapshotEncodeReadsBackAndIsInjectiveSpec)

/-- ITS FALSE NEIGHBOUR: 'it returns false'. Refute it at one input. -/
def fnReadSnapshotEncodeReadsBackAndIsInjectiveWrong : ChangeSpec := { name := "fnReadSnapshotEncodeReadsBackAndIsInjective", fn := fun _ => fun
  | [d1, d2, d3, d4] => { results := [.lit (.bool false)], args := [d1, d2, d3, d4] }
  | _ => none }
def FnReadSnapshotEncodeReadsBackAndIsInjectiveWrongFalsely : Prop := fnReadSnapshotEncodeReadsBackAndIsInjectiveRow.holds Try.pinned (OpenSpec.ofChange fnReadSnapshotEncodeReadsBackAndIsInjectiveWrong)

/-- 'zzlaws_pkg_replica_b1.FnReadSnapshotEncodeFieldsStandApart': WHATEVER THE INPUT: true; the input reads as it did. -/
def fnReadSnapshotEncodeFieldsStandApartSpec : ChangeSpec := { name := "fnReadSnapshotEncodeFieldsStandApart", fn := fun _ => fun
  | [d1, d2, d3, d4] => { results := [.lit (.bool true)], args := [d1, d2, d3, d4] }
  | _ => none }
def fnReadSnapshotEncodeFieldsStandApartRow : OpenClaim := { program := "qxb6616714a", sum := "18bc3b5a8792aa395ed7562e13ca7c3cdd5e565ceb1e32c99c402c8ad35c9a45", func := "example.com/holdfast/holdfast/zzlaws_pkg_replica_b1.FnReadSnapshotEncodeFieldsStandApart", spec := "fnReadSnapshotEncodeFieldsStandApart", plainKeys := false, apart := false }
def FnReadSnapshotEncodeFieldsStandApartSaid : Prop := fnReadSnapshotEncodeFieldsStandApartRow.holds Try.pinned (OpenSpec.ofChange fnReadSnapshotEncodeFieldsStandApartSpec)

/-- ITS FALSE NEIGHBOUR: 'it returns false'. Refute it at one input. -/
def fnReadSnapshotEncodeFieldsStandApartWrong : ChangeSpec := { name := "fnReadSnapshotEncodeFieldsStandApart", fn := fun _ => fun
  | [d1, d2, d3, d4] => { results := [.lit (.bool false)], args := [d1, d2, d3, d4] }
  | _ => none }
def FnReadSnapshotEncodeFieldsStandApartWrongFalsely : Prop := fnReadSnapshotEncodeFieldsStandApartRow.holds Try.pinned (OpenSpec.ofChange fnReadSnapshotEncodeFieldsStandApartWrong)

/-- 'zzlaws_pkg_replica_b1.FnForwardedEncodeReadsBackToItsAnswers': WHATEVER THE INPUT: true; the input reads as it did. -/
def fnForwardedEncodeReadsBackToItsAnswersSpec : ChangeSpec := { name := "fnForwardedEncodeReadsBackToItsAnswers", fn := fun _ => fun
  | [d] => { results := [.lit (.bool true)], args := [d] }
  | _ => none }
def fnForwardedEncodeReadsBackToItsAnswersRow : OpenClaim := { program := "qxb6616714a", sum := "18bc3b5a8792aa395ed7562e13ca7c3cdd5e565ceb1e32c99c402c8ad35c9a45", func := "example.com/holdfast/holdfast/zzlaws_pkg_replica_b1.FnForwardedEncodeReadsBackToItsAnswers", spec := "fnForwardedEncodeReadsBackToItsAnswers", plainKeys := false, apart := false }
def FnForwardedEncodeReadsBackToItsAnswersSaid : Prop := fnForwardedEncodeReadsBackToItsAnswersRow.holds Try.pinned (OpenSpec.ofChange fnForwardedEncodeReadsBackToItsAnswersSpec)

/-- ITS FALSE NEIGHBOUR: 'it returns false'. Refute it at one input. -/
def fnForwardedEncodeReadsBackToItsAnswersWrong : ChangeSpec := { name := "fnForwardedEncodeReadsBackToItsAnswers", fn := fun _ => fun
  | [d] => { results := [.lit (.bool false)], args := [d] }
  | _ => none }
def FnForwardedEncodeReadsBackToItsAnswersWrongFalsely : Prop := fnForwardedEncodeReadsBackToItsAnswersRow.holds Try.pinned (OpenSpec.ofChange fnForwardedEncodeReadsBackToItsAnswersWrong)

/-- 'zzlaws_pkg_replica_b1.FnForwardedEncodeSplitsAtAnyCut': WHATEVER THE INPUT: true; the input reads as it did. -/
def fnForwardedEncodeSplitsAtAnyCutSpec : ChangeSpec := { name := "fnForwardedEncodeSplitsAtAnyCut", fn := fun _ => fun
  | [d1, d2] => { results := [.lit (.bool true)], args := [d1, d2] }
  | _ => none }
def fnForwardedEncodeSplitsAtAnyCutRow : OpenClaim := { program := "qxb6616714a", sum := "18bc3b5a8792aa395ed7562e13ca7c3cdd5e565ceb1e32c99c402c8ad35c9a45", func := "example.com/holdfast/holdfast/zzlaws_pkg_replica_b1.FnForwardedEncodeSplitsAtAnyCut", spec := "fnForwardedEncodeSplitsAtAnyCut", plainKeys := false, apart := false }
def FnForwardedEncodeSplitsAtAnyCutSaid : Prop := fnForwardedEncodeSplitsAtAnyCutRow.holds Try.pinned (OpenSpec.ofChange fnForwardedEncodeSplitsAtAnyCutSpec)

/-- ITS FALSE NEIGHBOUR: 'it returns false'. Refute it at one input. -/
def fnForwardedEncodeSplitsAtAnyCutWrong : ChangeSpec := { name := "fnForwardedEncodeSplitsAtAnyCut", fn := fun _ => fun
  | [d1, d2] => { results := [.lit (.bool false)], args := [d1, d2] }
  | _ => none }
def FnForwardedEncodeSplitsAtAnyCutWrongFalsely : Prop := fnForwardedEncodeSplitsAtAnyCutRow.holds Try.pinned (OpenSpec.ofChange fnForwardedEncodeSplitsAtAnyCutWrong)

/-- 'zzlaws_pkg_replica_b1.FnNewDuesMarksAreItsOwn': WHATEVER THE INPUT: true; the input reads as it did. -/
def fnNewDuesMarksAreItsOwnSpec : ChangeSpec := { name := "fnNewDuesMarksAreItsOwn", fn := fun _ => fun
  | [d1, d2] => { results := [.lit (.bool true)], args := [d1, d2] }
  | _ => none }
def fnNewDuesMarksAreItsOwnRow : OpenClaim := { program := "qxb6616714a", sum := "18bc3b5a8792aa395ed7562e13ca7c3cdd5e565ceb1e32c99c402c8ad35c9a45", func := "example.com/holdfast/holdfast/zzlaws_pkg_replica_b1.FnNewDuesMarksAreItsOwn", spec := "fnNewDuesMarksAreItsOwn", plainKeys := false, apart := false }
def FnNewDuesMarksAreItsOwnSaid : Prop := fnNewDuesMarksAreItsOwnRow.holds Try.pinned (OpenSpec.ofChange fnNewDuesMarksAreItsOwnSpec)

/-- ITS FALSE NEIGHBOUR: 'it returns false'. Refute it at one input. -/
def fnNewDuesMarksAreItsOwnWrong : ChangeSpec := { name := "fnNewDuesMarksAreItsOwn", fn := fun _ => fun
  | [d1, d2] => { results := [.lit (.bool false)], args := [d1, d2] }
  | _ => none }
def FnNewDuesMarksAreItsOwnWrongFalsely : Prop := fnNewDuesMarksAreItsOwnRow.holds Try.pinned (OpenSpec.ofChange fnNewDuesMarksAreItsOwnWrong)

end Rows
end Go.Proofs.Qxb6616714a
