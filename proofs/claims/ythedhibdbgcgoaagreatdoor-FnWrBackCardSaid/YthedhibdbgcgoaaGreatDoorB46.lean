/-
  The closed facts of FnWrBack's row, each as a lemma of its own.
  (No condition beyond those that each theorem states.)
-/
import Derived.Test.YthedhibdbgcgoaaGreatDoorCards
import Derived.Test.YthedhibdbgcgoaaGreatDoorTie
import Derived.JoinedCond
import Derived.ProofKit
namespace Go.Proofs.YthedhibdbgcgoaaGreatDoor.fnWrBack

theorem and_i {a b : Bool} (ha : a = true) (hb : b = true) : (a && b) = true := by rw [ha, hb]; rfl

set_option maxRecDepth 100000 in
set_option maxHeartbeats 4000000 in
theorem closed : joinedFacts Tryz.pinned.checked.prog 3 Tryz.f3 (OpenSpec.ofChange Rows.fnWrBackSpec).bare Rows.fnWrBackRow = true := by
  unfold joinedFacts
  refine and_i (and_i (and_i (and_i (and_i (and_i (and_i (and_i (and_i (and_i (and_i (and_i (and_i (and_i (and_i (and_i (and_i (and_i (and_i (and_i (and_i (and_i (and_i (and_i (and_i (and_i (and_i (and_i (and_i (and_i (and_i ?_ ?_) ?_) ?_) ?_) ?_) ?_) ?_) ?_) ?_) ?_) ?_) ?_) ?_) ?_) ?_) ?_) ?_) ?_) ?_) ?_) ?_) ?_) ?_) ?_) ?_) ?_) ?_) ?_) ?_) ?_) ?_
  all_goals as_aux_lemma => kernel_rfl
end Go.Proofs.YthedhibdbgcgoaaGreatDoor.fnWrBack
