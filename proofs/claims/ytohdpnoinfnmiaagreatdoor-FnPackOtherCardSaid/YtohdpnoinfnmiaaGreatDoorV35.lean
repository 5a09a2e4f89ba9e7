/- laws.packGood ends, and what it says where it says yes. -/
import Derived.Test.YtohdpnoinfnmiaaGreatDoorV33
import Derived.Test.YtohdpnoinfnmiaaGreatDoorV34
namespace Go.Proofs.YtohdpnoinfnmiaaGreatDoor
open Go.RowKit U
open Go.Proofs.YtohdpnoinfnmiaaGreatDoorW.PrintWords (Aside0 Kd nums Drawn0 ReadsInt nums_append below_then pw_below_drewN below_alloc add_plain)
open Go.Proofs.YtohdpnoinfnmiaaGreatDoorW.PrintMore
open PFnPackOther
set_option maxHeartbeats 4000000 in
set_option maxRecDepth 100000 in
theorem f5_any (A0 : Option Addr) (c0 : Nat) (l0 : List S39) (w : World) (hr0 : Kd.C k39 w A0 l0.length l0) (hl0 : l0.length ≤ 2147483647) :
    Calls Tryz.prog 5 #[.slice A0 l0.length c0] w fun e w' => ∃ b : Bool, e = .returned (.bool b) ∧ Upd [] w w' ∧ (b = true → l0.length ≤ 40 ∧ ∃ os, objsFrom [] l0 = some os) := by
  have HR0 := Aside0.mk hr0
  have HL := Aside0.mk hl0
  clear hr0 hl0
  go_enter Tryz.func5, Tryz.ntmps5
  go_wp2_with (go_at_call 11; refine Held1.out ?_)
  refine Held1.mk ?_
  refine (f11_any A0 c0 l0 w HR0.out HL.out).mono ?_
  rintro e w1 (⟨h, rfl, u⟩ | ⟨os, v, h, rfl, hO⟩)
  · have HU := Aside0.mk u
    clear u h
    go_wp2
    go_ret
    exact ⟨false, rfl, HU.out, fun h => by cases h⟩
  · obtain ⟨A, c, rfl, _, hC⟩ := Kd.N_reads hO.row
    have HC := Aside0.mk hC
    have HU := Aside0.mk (Upd.of_below hO.below [])
    have HS := Aside0.mk h
    have HOK := Aside0.mk (objs_ok l0 [] os (by simp) h)
    clear hO hC h
    have ho40 : l0.length ≤ 40 → os.length ≤ 40 := fun h => by have h1 := HOK.out.2; simp at h1; omega
    have HO40 := Aside0.mk ho40
    clear ho40
    by_cases hl : l0.length ≤ 40
    · have hl' : decide ((l0.length : Int) ≤ 40) = true := decide_eq_true (by omega)
      have HL40 := Aside0.mk hl
      clear hl
      go_wp2_with (go_at_call 12; refine (f12_any A c os w1 HC.out (HO40.out HL40.out) HOK.out.1).mono ?_; rintro e w2 ⟨b, rfl, U2⟩; have U2 := Aside0.mk U2)
      go_ret
      exact ⟨b, rfl, HU.out.trans U2.out, fun _ => ⟨HL40.out, os, HS.out⟩⟩
    · have hl' : decide ((l0.length : Int) ≤ 40) = false := decide_eq_false (by omega)
      clear hl
      go_wp2
      go_ret
      exact ⟨false, rfl, HU.out, fun h => by cases h⟩
end Go.Proofs.YtohdpnoinfnmiaaGreatDoor
