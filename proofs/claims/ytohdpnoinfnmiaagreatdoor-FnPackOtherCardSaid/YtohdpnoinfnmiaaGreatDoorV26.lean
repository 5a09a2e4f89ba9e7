/- spec.Decimal ends. -/
import Derived.Test.YtohdpnoinfnmiaaGreatDoorPFnPackOtherx2
import Derived.Test.YtohdpnoinfnmiaaGreatDoorU
import Derived.Laws.Cover4
namespace Go.Proofs.YtohdpnoinfnmiaaGreatDoor
open Go.RowKit U
open Go.Proofs.YtohdpnoinfnmiaaGreatDoorW.PrintWords
open Go.Proofs.YtohdpnoinfnmiaaGreatDoorW.PrintMore
theorem tdiv_step (n : Int) (d : Nat) (h0 : 0 ≤ n) (hm : n ≤ 9223372036854775807) (h1 : n < 10 ^ (d + 2)) : 0 ≤ n / 10 ∧ n / 10 < 10 ^ (d + 1) ∧ n / 10 ≤ 9223372036854775807 := by
  refine ⟨by omega, ?_, by omega⟩
  have : (10 : Int) ^ (d + 2) = 10 ^ (d + 1) * 10 := by rw [Int.pow_succ]
  rw [this] at h1
  omega
set_option maxRecDepth 100000 in
theorem f41_any (d : Nat) : ∀ (n : Int) (w : World), 0 ≤ n → n ≤ 9223372036854775807 → n < 10 ^ (d + 1) → d < 20 → Calls Tryz.prog 41 #[.int .i64 n] w fun e w' => ∃ s : ByteArray, e = .returned (.string s) ∧ s.size ≤ 4 * (d + 1) ∧ w' = w := by
  induction d with
  | zero =>
    intro n w h0 _ h1 _
    have h1 : n < 10 := by simpa using h1
    go_enter Tryz.func41, Tryz.ntmps41
    go_wp2
    go_ret
    exact ⟨_, rfl, encode_size_le _, rfl⟩
  | succ d ih =>
    intro n w h0 hm h1 h2
    by_cases h : n < 10
    · go_enter Tryz.func41, Tryz.ntmps41
      go_wp2
      go_ret
      have := encode_size_le (48 + n)
      exact ⟨_, rfl, by omega, rfl⟩
    · obtain ⟨q1, q2, q3⟩ := tdiv_step n d h0 hm h1
      have KEY := Aside0.mk (ih (n / 10) w q1 q3 q2 (by omega))
      clear q1 q2 q3 h1 ih
      have en := encode_size_le (48 + n % 10)
      go_enter Tryz.func41, Tryz.ntmps41
      go_wp2_with (go_at_call 41; refine KEY.out.mono ?_; rintro e w1 ⟨s, rfl, hs, rfl⟩)
      go_ret
      exact ⟨_, rfl, by simp only [ByteArray.size_append]; omega, rfl⟩
end Go.Proofs.YtohdpnoinfnmiaaGreatDoor
