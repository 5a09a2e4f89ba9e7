/- The printed functions of the reference come to an end. -/
import Derived.Test.YtohdpnoinfnmiaaGreatDoorPFnPackOtherx3
import Derived.Test.YtohdpnoinfnmiaaGreatDoorP4
namespace Go.Proofs.YtohdpnoinfnmiaaGreatDoor
open Go.RowKit
open Go.Proofs.YtohdpnoinfnmiaaGreatDoorW.PrintWords
open Go.Proofs.YtohdpnoinfnmiaaGreatDoorW.PrintMore
open PFnPackOther
theorem w64 (x : Int) (h0 : -9223372036854775808 ≤ x) (h1 : x ≤ 9223372036854775807) : wrap64 x = x := by unfold wrap64; omega
theorem fits8_some (s : S105) : ∃ b, laws_zzFits8.f s.f0 s.f1 s.f2 s.f3 s.f4 = some b := by
  unfold laws_zzFits8.f
  split <;> exact ⟨_, rfl⟩
theorem fits7_l (xs : List S105) (hm : xs.length ≤ 9223372036854775807) : ∀ (d i : Nat), i + d = xs.length → ∃ b, Ev (fun k => laws_zzFits7.l0 k xs (xs.length : Int) i) b := by
  intro d
  induction d with
  | zero =>
    intro i hi
    refine ⟨true, 1, fun k hk => ?_⟩
    obtain ⟨k, rfl⟩ : ∃ m, k = m + 1 := ⟨k - 1, by omega⟩
    simp only [laws_zzFits7.l0]
    rw [if_neg (by omega)]
  | succ d ih =>
    intro i hi
    obtain ⟨b, hb⟩ := fits8_some (rd_T105 xs i)
    cases b
    · refine ⟨false, 1, fun k hk => ?_⟩
      obtain ⟨k, rfl⟩ : ∃ m, k = m + 1 := ⟨k - 1, by omega⟩
      simp only [laws_zzFits7.l0]
      rw [if_pos (by omega), if_pos (by omega), if_pos (by omega), hb]
      rfl
    · obtain ⟨r, K, hK⟩ := ih (i + 1) (by omega)
      refine ⟨r, K + 1, fun k hk => ?_⟩
      obtain ⟨k, rfl⟩ : ∃ m, k = m + 1 := ⟨k - 1, by omega⟩
      simp only [laws_zzFits7.l0]
      rw [if_pos (by omega), if_pos (by omega), if_pos (by omega), hb]
      simp only [Option.bind_some, if_true]
      rw [w64 _ (by omega) (by omega)]
      exact hK k (by omega)
theorem fits7_ev (xs : List S105) (hm : xs.length ≤ 9223372036854775807) : ∃ b, Ev (fun k => laws_zzFits7.f k xs) b := by
  by_cases h : (xs.length : Int) > 2147483647
  · exact ⟨false, 0, fun k _ => by simp only [laws_zzFits7.f]; rw [if_pos h]⟩
  · obtain ⟨b, K, hK⟩ := fits7_l xs hm xs.length 0 (by omega)
    exact ⟨b, K, fun k hk => by simp only [laws_zzFits7.f]; rw [if_neg h]; exact hK k hk⟩
theorem fits26_ev (e : S39) (hm : e.f3.length ≤ 9223372036854775807) : ∃ b, Ev (fun k => laws_zzFits26.f k e.f0 e.f1 e.f2 e.f3) b := by
  by_cases h : (e.f1.length : Int) > 2147483647
  · exact ⟨false, 0, fun k _ => by simp only [laws_zzFits26.f]; rw [if_pos h]⟩
  · obtain ⟨b, K, hK⟩ := fits7_ev e.f3 hm
    refine ⟨b, K, fun k hk => ?_⟩
    have hk2 : laws_zzFits7.f k e.f3 = some b := hK k hk
    simp only [laws_zzFits26.f]
    rw [if_neg h, hk2]
    cases b <;> rfl
theorem fits25_l (xs : List S39) (hm : xs.length ≤ 9223372036854775807) (hf : ∀ e ∈ xs, e.f3.length ≤ 9223372036854775807) : ∀ (d i : Nat), i + d = xs.length → ∃ b, Ev (fun k => laws_zzFits25.l0 k xs (xs.length : Int) i) b := by
  intro d
  induction d with
  | zero =>
    intro i hi
    refine ⟨true, 1, fun k hk => ?_⟩
    obtain ⟨k, rfl⟩ : ∃ m, k = m + 1 := ⟨k - 1, by omega⟩
    simp only [laws_zzFits25.l0]
    rw [if_neg (by omega)]
  | succ d ih =>
    intro i hi
    have hmem : rd_T39 xs i ∈ xs := by
      unfold rd_T39
      rw [List.getD_eq_getElem?_getD, List.getElem?_eq_getElem (by omega)]
      exact List.getElem_mem _
    obtain ⟨b, K1, hK1⟩ := fits26_ev (rd_T39 xs i) (hf _ hmem)
    cases b
    · refine ⟨false, K1 + 1, fun k hk => ?_⟩
      obtain ⟨k, rfl⟩ : ∃ m, k = m + 1 := ⟨k - 1, by omega⟩
      have hk1 : laws_zzFits26.f k (rd_T39 xs i).f0 (rd_T39 xs i).f1 (rd_T39 xs i).f2 (rd_T39 xs i).f3 = some false := hK1 k (by omega)
      simp only [laws_zzFits25.l0]
      rw [if_pos (by omega), if_pos (by omega), if_pos (by omega), hk1]
      rfl
    · obtain ⟨r, K, hK⟩ := ih (i + 1) (by omega)
      refine ⟨r, K + K1 + 1, fun k hk => ?_⟩
      obtain ⟨k, rfl⟩ : ∃ m, k = m + 1 := ⟨k - 1, by omega⟩
      have hk1 : laws_zzFits26.f k (rd_T39 xs i).f0 (rd_T39 xs i).f1 (rd_T39 xs i).f2 (rd_T39 xs i).f3 = some true := hK1 k (by omega)
      simp only [laws_zzFits25.l0]
      rw [if_pos (by omega), if_pos (by omega), if_pos (by omega), hk1]
      simp only [Option.bind_some, if_true]
      rw [w64 _ (by omega) (by omega)]
      exact hK k (by omega)
theorem fits25_ev (xs : List S39) (hm : xs.length ≤ 9223372036854775807) (hf : ∀ e ∈ xs, e.f3.length ≤ 9223372036854775807) : ∃ b k, laws_zzFits25.f k xs = some b ∧ (b = true → xs.length ≤ 2147483647) := by
  by_cases h : (xs.length : Int) > 2147483647
  · exact ⟨false, 0, by simp only [laws_zzFits25.f]; rw [if_pos h], fun h => by cases h⟩
  · obtain ⟨b, K, hK⟩ := fits25_l xs hm hf xs.length 0 (by omega)
    exact ⟨b, K, by simp only [laws_zzFits25.f]; rw [if_neg h]; exact hK K (Nat.le_refl _), fun _ => by omega⟩
/-- One instruction is good. -/
def good1 (s : S105) (base : List Int) : Bool := (spec_GoodStep.f s.f0 s.f1 s.f2 s.f3 s.f4 base).getD false
theorem good1_some (s : S105) (base : List Int) : spec_GoodStep.f s.f0 s.f1 s.f2 s.f3 s.f4 base = some (good1 s base) := by
  unfold good1 spec_GoodStep.f
  repeat' split
  all_goals rfl
/-- All are, and few. -/
def goodS (steps : List S105) (base : List Int) : Bool := steps.all (good1 · base) && (decide (0 < steps.length) && (decide (steps.length ≤ 500) && decide (base.length ≤ 1000000)))
theorem goodS_l (steps : List S105) (base : List Int) (hm : steps.length ≤ 9223372036854775807) : ∀ (d i : Nat), i + d = steps.length → Ev (fun k => spec_GoodSteps.l0 k steps base steps (steps.length : Int) i) ((steps.drop i).all (good1 · base) && (decide (0 < steps.length) && (decide (steps.length ≤ 500) && decide (base.length ≤ 1000000)))) := by
  intro d
  induction d with
  | zero =>
    intro i hi
    refine ⟨1, fun k hk => ?_⟩
    obtain ⟨k, rfl⟩ : ∃ m, k = m + 1 := ⟨k - 1, by omega⟩
    simp only [spec_GoodSteps.l0]
    rw [if_neg (by omega), List.drop_eq_nil_of_le (by omega)]
    by_cases h1 : 0 < steps.length
    · rw [if_pos (by omega)]
      by_cases h2 : steps.length ≤ 500
      · rw [if_pos (by omega)]
        simp [h1, h2]
        omega
      · rw [if_neg (by omega)]
        simp [h2]
    · rw [if_neg (by omega)]
      simp [h1]
  | succ d ih =>
    intro i hi
    have hd : steps.drop i = rd_T105 steps i :: steps.drop (i + 1) := by
      unfold rd_T105
      rw [List.getD_eq_getElem?_getD, Int.toNat_natCast, List.getElem?_eq_getElem (by omega)]
      exact List.drop_eq_getElem_cons (by omega)
    have hg := good1_some (rd_T105 steps i) base
    obtain ⟨K, hK⟩ := ih (i + 1) (by omega)
    refine ⟨K + 1, fun k hk => ?_⟩
    obtain ⟨k, rfl⟩ : ∃ m, k = m + 1 := ⟨k - 1, by omega⟩
    simp only [spec_GoodSteps.l0]
    rw [if_pos (by omega), if_pos (by omega), if_pos (by omega), hg, hd]
    simp only [Option.bind_some, List.all_cons]
    cases hq : good1 (rd_T105 steps i) base
    · simp
    · simp only [if_true, Bool.true_and]
      rw [w64 _ (by omega) (by omega)]
      exact hK k (by omega)
theorem goodS_ev (steps : List S105) (base : List Int) (hm : steps.length ≤ 9223372036854775807) : ∃ k, spec_GoodSteps.f k steps base = some (goodS steps base) := by
  obtain ⟨K, hK⟩ := goodS_l steps base hm steps.length 0 (by omega)
  exact ⟨K, hK K (Nat.le_refl _)⟩
end Go.Proofs.YtohdpnoinfnmiaaGreatDoor
