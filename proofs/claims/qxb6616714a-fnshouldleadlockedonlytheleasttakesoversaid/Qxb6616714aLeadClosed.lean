import Derived.Test.Qxb6616714aRows
import Derived.WalkKit
import Derived.ProofKit
namespace Go.Proofs.Qxb6616714a
-- the closed facts of the row, each by itself (the kernel gives its memory back behind each)
set_option maxHeartbeats 8000000 in
theorem closed3 : joinedFacts Try.prog 3 Try.f3 Rows.fnShouldLeadLockedOnlyTheLeastTakesOverSpec Rows.fnShouldLeadLockedOnlyTheLeastTakesOverRow = true := by
  unfold joinedFacts
  simp only [Bool.and_eq_true]
  repeat' apply And.intro
  all_goals as_aux_lemma => kernel_rfl
end Go.Proofs.Qxb6616714a
