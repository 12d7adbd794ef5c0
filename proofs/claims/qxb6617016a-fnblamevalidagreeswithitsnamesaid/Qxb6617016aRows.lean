/-
  No cell of these rows narrows 'for every input' (looked for: loops, veiled, ifaces, maps, wideKeys, modest, calm, conditions, laid).
  DERIVED. THE GIVEN ROWS OF THIS SEAT. 1 by the template 'for every input the law returns true; each argument reads behind the call as it read before'; 0 by the template 'total and deterministic' (their statements: Qxb6617016aTotals.lean).
  GIVEN WITH THE SEED: the statements are not yours to turn. If you find one false, say at which input.
  Laid BY PROGRAM, IN A SANDBOX (cutbox-rows.mjs): the forced cells as the released guide's own fill.sh prints them over the translation 147d19b8e3930b7e… (all of the seat's roots in one cut). By AI agents, Wed Nov 11 2026. No macro, syntax, notation, axiom, sorry.
-/
import Derived.Test.Qxb6617016aChecked
import GoSem.Claim
import GoSem.ClaimJoined
import GoSem.ClaimMapViews
import Derived.JoinedTies
import Derived.KernelRfl
namespace Go.Proofs.Qxb6617016a
/- THE CELL 'sum', in the pinned program and in every row, IS THE sha256 OF THE DUMP (.gsa) THAT Qxb6617016aProg.lean LOADS. Nothing in Lean hashes anything: it is a label: what it is worth is what the hold of that sum in a sandbox is worth. -/
noncomputable def Try.pinned : Pinned := { name := "qxb6617016a", sum := "147d19b8e3930b7e17bd25d71c80d62b913ce9011539f4426b594497e884bff5", checked := Try.checked }
namespace Rows
def none {H : Type} : Left H := { results := [], args := [] }

/-- 'zzlaws_root_b1.FnBlameValidAgreesWithItsName': WHATEVER THE INPUT: true; the input reads as it did. -/
def fnBlameValidAgreesWithItsNameSpec : ChangeSpec := { name := "fnBlameValidAgreesWithItsName", fn := fun _ => fun
  | [d] => { results := [.lit (.bool true)], args := [d] }
  | _ => none }
def fnBlameValidAgreesWithItsNameRow : OpenClaim := { program := "qxb6617016a", sum := "147d19b8e3930b7e17bd25d71c80d62b913ce9011539f4426b594497e884bff5", func := "example.com/failure-codes/failure-codes/zzlaws_root_b1.FnBlameValidAgreesWithItsName", spec := "fnBlameValidAgreesWithItsName", apart := false }
def FnBlameValidAgreesWithItsNameSaid : Prop := fnBlameValidAgreesWithItsNameRow.holds Try.pinned (OpenSpec.ofChange fnBlameValidAgreesWithItsNameSpec)

/-- ITS FALSE NEIGHBOUR: 'it returns false'. Refute it at one input. -/
def fnBlameValidAgreesWithItsNameWrong : ChangeSpec := { name := "fnBlameValidAgreesWithItsName", fn := fun _ => fun
  | [d] => { results := [.lit (.bool false)], args := [d] }
  | _ => none }
def FnBlameValidAgreesWithItsNameWrongFalsely : Prop := fnBlameValidAgreesWithItsNameRow.holds Try.pinned (OpenSpec.ofChange fnBlameValidAgreesWithItsNameWrong)

end Rows
end Go.Proofs.Qxb6617016a
