/- laws.FnPackOther: for every input the call returns true, and each argument and each named variable reads behind it as before; under the row's own conditions (no argument holds a cycle, the listed variables read as listed, which the card ties to the program's text). -/
import Derived.Test.YtohdpnoinfnmiaaGreatDoorCards
import Derived.Test.YtohdpnoinfnmiaaGreatDoorTie
import Derived.Test.YtohdpnoinfnmiaaGreatDoorV42
import Derived.Test.YtohdpnoinfnmiaaGreatDoorV43
import Derived.Test.YtohdpnoinfnmiaaGreatDoorV44
import Derived.Test.YtohdpnoinfnmiaaGreatDoorV45
import Derived.WalkKit
import Derived.ProofKit
import Derived.OpenShut
import Derived.Deep.DeepHandedRow
import Derived.Deep.DeepWitnessRowRef
namespace Go.Proofs.YtohdpnoinfnmiaaGreatDoor.fnPackOther
open Go.ChangeShapes Go.WideShapes Go.ChangeAt Go.RowKit
theorem reads_some (os : Os) {H : Type} (enc : TypeId × Value → H) : (DataW.whole enc Tryz.prog ((laidWorld os).forCall (fun _ _ => 0) ⟨#[], #[.slice none 0 0, .int .i64 0, .int .u8 0], []⟩).memory Tryz.f3.params.toList Rows.fnPackOtherSpec.vars false (#[.slice none 0 0, .int .i64 0, .int .u8 0] : Array Value).toList 8).isSome = true := by kernel_rfl
theorem witness_row (os : Os) {H : Type} (enc : TypeId × Value → H) :
    (OpenSpec.ofChange Rows.fnPackOtherSpec).preRow enc Tryz.prog Tryz.f3 Rows.fnPackOtherRow.domain false Rows.fnPackOtherRow.laid ((laidWorld os).forCall (fun _ _ => 0) ⟨#[], #[.slice none 0 0, .int .i64 0, .int .u8 0], []⟩).memory #[.slice none 0 0, .int .i64 0, .int .u8 0] :=
  OpenSpec.preRow_of_cond 8 (Option.some_get (reads_some os enc)).symm (by kernel_rfl) (fun k hk => by cases hk) (by kernel_rfl) (laid_met os _)
set_option maxRecDepth 100000 in
theorem lifted (os : Os) (started : os.Started) (H : Type) (enc : TypeId × Value → H) (F : Stop.Interp) :
    ReturnsInHanded {} Tryz.checked os 3 .any ((OpenSpec.ofChange Rows.fnPackOtherSpec).preRow enc Tryz.prog Tryz.f3 Rows.fnPackOtherRow.domain false Rows.fnPackOtherRow.laid) (((OpenSpec.ofChange Rows.fnPackOtherSpec).at F).post enc Tryz.prog Tryz.f3 false true false false) := by
  refine returnsInHanded_of_row (C := Tryz.checked) (s := OpenSpec.ofChange Rows.fnPackOtherSpec) own started (by kernel_rfl) Tryz.func3
    (witness_row_atRef (enc := enc) (C := Tryz.checked) false (laidWorld os) #[.slice none 0 0, .int .i64 0, .int .u8 0] rfl (by kernel_rfl) (by kernel_rfl) (by kernel_rfl) (witness_row os enc)) ?_
  intro W base args ds gs before hval hW _ _ _ hL _ _
  exact contract H enc W base args ds gs before hval hW hL
theorem said : Rows.FnPackOtherSaid :=
  OpenClaim.holds_of_cond 3 Tryz.f3 rfl rfl rfl rfl rfl rfl rfl ⟨rfl, rfl, rfl, rfl, rfl⟩ rfl rfl rfl rfl rfl named3 Tryz.func3 closed inst3 wrap3
    (fun os started H enc _ F => by rw [OpenClaim.pre_eq_preRow]; exact lifted os started H enc F)
theorem plain (f : FuncId) (fn : Func) (hf : Tryz.pinned.checked.prog.funcNamed "loop.example/pub-g01474/laws.FnPackOther" = some f) (hfn : Tryz.pinned.checked.prog.funcs[f]? = some fn) :
    true = Tryz.pinned.checked.prog.looks [] ∧ ∀ (j : Nat) t, fn.params[j]? = some t → Tryz.pinned.checked.prog.wantsStandIn t = false := by
  obtain rfl : f = 3 := (Option.some.inj (named3.symm.trans hf)).symm
  obtain rfl : fn = Tryz.f3 := (Option.some.inj (Tryz.func3.symm.trans hfn)).symm
  refine ⟨looks3, fun j t ht => ?_⟩
  rw [Tryz.params3] at ht
  rcases (by simpa using Array.mem_of_getElem? ht : t = 22 ∨ t = 3 ∨ t = 5) with rfl | rfl | rfl
  · exact (show Tryz.prog.wantsStandIn 22 = false by kernel_rfl)
  · exact (show Tryz.prog.wantsStandIn 3 = false by kernel_rfl)
  · exact (show Tryz.prog.wantsStandIn 5 = false by kernel_rfl)
/-- The card. -/
theorem card : Rows.FnPackOtherCardSaid :=
  Claim7.holds_tied_plain_at .later [] _ _ _ _ said (fun _ h => by cases h) wfb (fun _ h => by cases h) fnPackOther_row_tie rfl ⟨rfl, rfl⟩ main3 rfl plain goes
end Go.Proofs.YtohdpnoinfnmiaaGreatDoor.fnPackOther
