/-
  No cell of these rows narrows 'for every input' (looked for: loops, veiled, ifaces, maps, wideKeys, modest, calm, conditions, laid).
  DERIVED. THE GIVEN ROWS OF THIS SEAT. 4 by the template 'for every input the law returns true; each argument reads behind the call as it read before'; 0 by the template 'total and deterministic' (their statements: Qxb6616716aTotals.lean).
  GIVEN WITH THE SEED: the statements are not yours to turn. If you find one false, say at which input.
  Laid BY PROGRAM, IN A SANDBOX (cutbox-rows.mjs): the forced cells as the released guide's own fill.sh prints them over the translation c79d89d822f30054… (all of the seat's roots in one cut). By AI agents, Wed Nov 11 2026. No macro, syntax, notation, axiom, sorry.
-/
import Derived.Test.Qxb6616716aChecked
import GoSem.Claim
import GoSem.ClaimJoined
import GoSem.ClaimMapViews
import Derived.JoinedTies
import Derived.KernelRfl
namespace Go.Proofs.Qxb6616716a
/- THE CELL 'sum', in the pinned program and in every row, IS THE sha256 OF THE DUMP (.gsa) THAT Qxb6616716aProg.lean LOADS. Nothing in Lean hashes anything: it is a label: what it is worth is what the hold of that sum in a sandbox is worth. -/
noncomputable def Try.pinned : Pinned := { name := "qxb6616716a", sum := "c79d89d822f3005405dd4d7ebcc1b68c951f13748bad5c76f1cab7fbccf54275", checked := Try.checked }
namespace Rows
def none {H : Type} : Left H := { results := [], args := [] }

/-- 'zzlaws_root_b1.FnStopScriptKeepsQueue': WHATEVER THE INPUT: true; the input reads as it did. -/
def fnStopScriptKeepsQueueSpec : ChangeSpec := { name := "fnStopScriptKeepsQueue", fn := fun _ => fun
  | [d1, d2] => { results := [.lit (.bool true)], args := [d1, d2] }
  | _ => none }
def fnStopScriptKeepsQueueRow : OpenClaim := { program := "qxb6616716a", sum := "c79d89d822f3005405dd4d7ebcc1b68c951f13748bad5c76f1cab7fbccf54275", func := "example.com/plumbline/plumbline/zzlaws_root_b1.FnStopScriptKeepsQueue", spec := "fnStopScriptKeepsQueue", apart := false }
def FnStopScriptKeepsQueueSaid : Prop := fnStopScriptKeepsQueueRow.holds Try.pinned (OpenSpec.ofChange fnStopScriptKeepsQueueSpec)

/-- ITS FALSE NEIGHBOUR: 'it returns false'. Refute it at one input. -/
def fnStopScriptKeepsQueueWrong : ChangeSpec := { name := "fnStopScriptKeepsQueue", fn := fun _ => fun
  | [d1, d2] => { results := [.lit (.bool false)], args := [d1, d2] }
  | _ => none }
def FnStopScriptKeepsQueueWrongFalsely : Prop := fnStopScriptKeepsQueueRow.holds Try.pinned (OpenSpec.ofChange fnStopScriptKeepsQueueWrong)

/-- 'zzlaws_root_b1.FnStopIsAsNeverSet': WHATEVER THE INPUT: true; the input reads as it did. -/
def fnStopIsAsNeverSetSpec : ChangeSpec := { name := "fnStopIsAsNeverSet", fn := fun _ => fun
  | [d1, d2] => { results := [.lit (.bool true)], args := [d1, d2] }
  | _ => none }
def fnStopIsAsNeverSetRow : OpenClaim := { program := "qxb6616716a", sum := "c79d89d822f3005405dd4d7ebcc1b68c951f13748bad5c76f1cab7fbccf54275", func := "example.com/plumbline/plumbline/zzlaws_root_b1.FnStopIsAsNeverSet", spec := "fnStopIsAsNeverSet", apart := false }
def FnStopIsAsNeverSetSaid : Prop := fnStopIsAsNeverSetRow.holds Try.pinned (OpenSpec.ofChange fnStopIsAsNeverSetSpec)

/-- ITS FALSE NEIGHBOUR: 'it returns false'. Refute it at one input. -/
def fnStopIsAsNeverSetWrong : ChangeSpec := { name := "fnStopIsAsNeverSet", fn := fun _ => fun
  | [d1, d2] => { results := [.lit (.bool false)], args := [d1, d2] }
  | _ => none }
def FnStopIsAsNeverSetWrongFalsely : Prop := fnStopIsAsNeverSetRow.holds Try.pinned (OpenSpec.ofChange fnStopIsAsNeverSetWrong)

/-- 'zzlaws_root_b1.FnUpPushesMakeSortingHeap': WHATEVER THE INPUT: true; the input reads as it did. -/
def fnUpPushesMakeSortingHeapSpec : ChangeSpec := { name := "fnUpPushesMakeSortingHeap", fn := fun _ => fun
  | [d] => { results := [.lit (.bool true)], args := [d] }
  | _ => none }
def fnUpPushesMakeSortingHeapRow : OpenClaim := { program := "qxb6616716a", sum := "c79d89d822f3005405dd4d7ebcc1b68c951f13748bad5c76f1cab7fbccf54275", func := "example.com/plumbline/plumbline/zzlaws_root_b1.FnUpPushesMakeSortingHeap", spec := "fnUpPushesMakeSortingHeap", apart := false }
def FnUpPushesMakeSortingHeapSaid : Prop := fnUpPushesMakeSortingHeapRow.holds Try.pinned (OpenSpec.ofChange fnUpPushesMakeSortingHeapSpec)

/-- ITS FALSE NEIGHBOUR: 'it returns false'. Refute it at one input. -/
def fnUpPushesMakeSortingHeapWrong : ChangeSpec := { name := "fnUpPushesMakeSortingHeap", fn := fun _ => fun
  | [d] => { results := [.lit (.bool false)], args := [d] }
  | _ => none }
def FnUpPushesMakeSortingHeapWrongFalsely : Prop := fnUpPushesMakeSortingHeapRow.holds Try.pinned (OpenSpec.ofChange fnUpPushesMakeSortingHeapWrong)

/-- 'zzlaws_root_b1.FnUpRescheduleEarlier': WHATEVER THE INPUT: true; the input reads as it did. -/
def fnUpRescheduleEarlierSpec : ChangeSpec := { name := "fnUpRescheduleEarlier", fn := fun _ => fun
  | [d1, d2, d3] => { results := [.lit (.bool true)], args := [d1, d2, d3] }
  | _ => none }
def fnUpRescheduleEarlierRow : OpenClaim := { program := "qxb6616716a", sum := "c79d89d822f3005405dd4d7ebcc1b68c951f13748bad5c76f1cab7fbccf54275", func := "example.com/plumbline/plumbline/zzlaws_root_b1.FnUpRescheduleEarlier", spec := "fnUpRescheduleEarlier", apart := false }
def FnUpRescheduleEarlierSaid : Prop := fnUpRescheduleEarlierRow.holds Try.pinned (OpenSpec.ofChange fnUpRescheduleEarlierSpec)

/-- ITS FALSE NEIGHBOUR: 'it returns false'. Refute it at one input. -/
def fnUpRescheduleEarlierWrong : ChangeSpec := { name := "fnUpRescheduleEarlier", fn := fun _ => fun
  | [d1, d2, d3] => { results := [.lit (.bool false)], args := [d1, d2, d3] }
  | _ => none }
def FnUpRescheduleEarlierWrongFalsely : Prop := fnUpRescheduleEarlierRow.holds Try.pinned (OpenSpec.ofChange fnUpRescheduleEarlierWrong)

end Rows
end Go.Proofs.Qxb6616716a
