/-
  The closed facts of FnRoTwice's row, each as a lemma of its own.
  (No condition beyond those that each theorem states.)
-/
import Derived.Test.YthmhnknkidkdlaaGreatDoorCards
import Derived.Test.YthmhnknkidkdlaaGreatDoorTie
import Derived.JoinedCond
import Derived.ProofKit
namespace Go.Proofs.YthmhnknkidkdlaaGreatDoor.fnRoTwice

theorem and_i {a b : Bool} (ha : a = true) (hb : b = true) : (a && b) = true := by rw [ha, hb]; rfl

set_option maxRecDepth 100000 in
set_option maxHeartbeats 4000000 in
theorem closed : joinedFacts Tryz.pinned.checked.prog 3 Tryz.f3 (OpenSpec.ofChange Rows.fnRoTwiceSpec).bare Rows.fnRoTwiceRow = true := by
  unfold joinedFacts
  refine and_i (and_i (and_i (and_i (and_i (and_i (and_i (and_i (and_i (and_i (and_i (and_i (and_i (and_i (and_i (and_i (and_i (and_i (and_i (and_i (and_i (and_i (and_i (and_i (and_i (and_i (and_i (and_i (and_i (and_i (and_i ?_ ?_) ?_) ?_) ?_) ?_) ?_) ?_) ?_) ?_) ?_) ?_) ?_) ?_) ?_) ?_) ?_) ?_) ?_) ?_) ?_) ?_) ?_) ?_) ?_) ?_) ?_) ?_) ?_) ?_) ?_) ?_
  all_goals as_aux_lemma => kernel_rfl
end Go.Proofs.YthmhnknkidkdlaaGreatDoor.fnRoTwice
