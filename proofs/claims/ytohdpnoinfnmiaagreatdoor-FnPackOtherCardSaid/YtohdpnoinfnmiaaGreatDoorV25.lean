/- spec.Crc32 ends. -/
import Derived.Test.YtohdpnoinfnmiaaGreatDoorPFnPackOtherx2
import Derived.Test.YtohdpnoinfnmiaaGreatDoorU
namespace Go.Proofs.YtohdpnoinfnmiaaGreatDoor
open Go.RowKit U
open Go.Proofs.YtohdpnoinfnmiaaGreatDoorW.PrintWords
open Go.Proofs.YtohdpnoinfnmiaaGreatDoorW.PrintMore
set_option maxHeartbeats 8000000 in
set_option maxRecDepth 100000 in
theorem f21_any (A0 : Option Addr) (c0 : Nat) (l0 : List Int) (w : World) (hr0 : Kd.C (Kd.int .u8) w A0 l0.length l0) (hc0 : l0.length ≤ c0) :
    Calls Tryz.prog 21 #[.slice A0 l0.length c0] w fun e w' => ∃ r, e = .returned (.int .u32 r) ∧ Drawn0 w w' := by
  have HR0 := Aside0.mk hr0
  have HC0 := Aside0.mk hc0
  have hl := Kd.C_max hr0
  clear hr0 hc0
  go_enter Tryz.func21, Tryz.ntmps21
  go_wp2
  go_loopw [3, 9] (fun v3 v9 w' => ∃ (x3 : Int) (k : Nat), k ≤ l0.length ∧ v3 = .int .u32 x3 ∧ v9 = .int .i64 k ∧ Drawn0 w w') (fun _ v9 _ => l0.length - (intOf v9).toNat)
  case atStart => exact ⟨_, 0, Nat.zero_le _, rfl, rfl, Drawn0.refl w⟩
  case round =>
    obtain ⟨x3, k, hk, rfl, rfl, ⟨m, rfl⟩⟩ := hrel
    by_cases hkl : (k : Int) < (l0.length : Int)
    · obtain ⟨ad, e, hx⟩ := Kd.at_int HR0.out (k : Int) (by omega) hkl
      cases e
      simp only [Int.toNat_natCast] at hx
      go_wp2
      go_loopw [3, 17] (fun v3 v17 w' => ∃ (y3 : Int) (j : Nat), j ≤ 8 ∧ v3 = .int .u32 y3 ∧ v17 = .int .i64 j ∧ Drawn0 w w') (fun _ v17 _ => 8 - (intOf v17).toNat)
      case atStart => exact ⟨_, 0, Nat.zero_le _, rfl, rfl, (Drawn0.refl w).step m⟩
      case round =>
        obtain ⟨y3, j, hj, rfl, rfl, ⟨m2, rfl⟩⟩ := hrel
        by_cases hj8 : (j : Int) < 8
        · go_wp2
          all_goals
            go_roundw
            case rel => exact ⟨_, j + 1, by omega, rfl, by simp, (Drawn0.refl w).step m2⟩
            case measure => simp [intOf]; omega
        · go_wp2
          go_roundw
          case rel => exact ⟨_, k + 1, by omega, rfl, by simp, (Drawn0.refl w).step m2⟩
          case measure => simp [intOf]; omega
    · go_wp2
      go_ret
      exact ⟨⟨_, rfl⟩, (Drawn0.refl w).step m⟩
end Go.Proofs.YtohdpnoinfnmiaaGreatDoor
