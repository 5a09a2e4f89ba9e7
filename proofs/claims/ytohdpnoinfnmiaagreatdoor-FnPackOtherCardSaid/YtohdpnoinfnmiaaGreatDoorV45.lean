/- The closed facts of laws.FnPackOther's card. -/
import Derived.Test.YtohdpnoinfnmiaaGreatDoorCards
import Derived.Test.YtohdpnoinfnmiaaGreatDoorTie
import Derived.WalkKit
import Derived.ProofKit
import Derived.OpenShut
import Derived.Deep.DeepHandedRow
namespace Go.Proofs.YtohdpnoinfnmiaaGreatDoor.fnPackOther
open Go.ChangeShapes Go.WideShapes Go.ChangeAt Go.RowKit
theorem named3 : Tryz.pinned.checked.prog.funcNamed Rows.fnPackOtherRow.func = some 3 := by kernel_rfl
theorem inst3 : Tryz.f3.isInstance Tryz.pinned.checked.prog Rows.fnPackOtherRow.origin Rows.fnPackOtherRow.targs := of_decide_eq_true (by kernel_rfl)
theorem wrap3 : Tryz.f3.isWrapper Tryz.pinned.checked.prog Rows.fnPackOtherRow.wrapper Rows.fnPackOtherRow.mainSum := by unfold Func.isWrapper; first | (rw [if_pos (by decide +kernel)]; kernel_rfl) | (rw [if_neg (by decide +kernel)]; exact ⟨rfl, rfl⟩)
theorem wfb : Rows.fnPackOtherRow.wfByText (OpenSpec.ofChange Rows.fnPackOtherSpec) = true := by kernel_rfl
theorem goes : false = Rows.fnPackOtherRow.goesBy Tryz.pinned.checked.prog := by kernel_rfl
theorem main3 : Tryz.pinned.checked.prog.mainIs = some ((true : Bool), "dbbb6ad0158da4f1343345514940716f6356770c5d9b4292b6d8d778e3b4bf78".toList) := by kernel_rfl
theorem looks3 : true = Tryz.pinned.checked.prog.looks [] := by kernel_rfl
end Go.Proofs.YtohdpnoinfnmiaaGreatDoor.fnPackOther
