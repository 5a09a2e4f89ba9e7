/- The closed facts of laws.FnPackOther's row. -/
import Derived.Test.YtohdpnoinfnmiaaGreatDoorCards
import Derived.Test.YtohdpnoinfnmiaaGreatDoorTie
import Derived.WalkKit
import Derived.ProofKit
import Derived.OpenShut
import Derived.Deep.DeepHandedRow
namespace Go.Proofs.YtohdpnoinfnmiaaGreatDoor.fnPackOther
open Go.ChangeShapes Go.WideShapes Go.ChangeAt Go.RowKit
set_option maxHeartbeats 40000000 in
theorem closed : joinedFacts Tryz.pinned.checked.prog 3 Tryz.f3 (OpenSpec.ofChange Rows.fnPackOtherSpec).bare Rows.fnPackOtherRow = true := by
  unfold joinedFacts
  simp only [Bool.and_eq_true]
  repeat' apply And.intro
  all_goals as_aux_lemma => kernel_rfl
end Go.Proofs.YtohdpnoinfnmiaaGreatDoor.fnPackOther
