/- The printed functions of the reference come to an end: what instructions make, and their bytes. -/
import Derived.Test.YtohdpnoinfnmiaaGreatDoorV28
namespace Go.Proofs.YtohdpnoinfnmiaaGreatDoor
open Go.RowKit
open Go.Proofs.YtohdpnoinfnmiaaGreatDoorW.PrintWords
open Go.Proofs.YtohdpnoinfnmiaaGreatDoorW.PrintMore
open PFnPackOther
theorem good1_copy (s : S105) (base : List Int) (hb : base.length ≤ 9223372036854775807) (hc : s.f0 = true) (h : good1 s base = true) : 0 ≤ s.f1 ∧ 1 ≤ s.f2 ∧ s.f2 < 16777216 ∧ s.f1 + s.f2 ≤ base.length := by
  have h1 := good1_some s base
  rw [h] at h1
  unfold spec_GoodStep.f at h1
  rw [if_pos hc] at h1
  by_cases c1 : s.f1 ≥ 0
  · rw [if_pos c1] at h1
    by_cases c2 : s.f2 ≥ 1
    · rw [if_pos c2] at h1
      by_cases c3 : s.f2 < 16777216
      · rw [if_pos c3] at h1
        by_cases c4 : s.f1 < (base.length : Int)
        · rw [if_pos c4, w64 _ (by omega) (by omega)] at h1
          have h2 := of_decide_eq_true (Option.some.inj h1)
          exact ⟨c1, c2, c3, by omega⟩
        · rw [if_neg c4] at h1
          simp at h1
      · rw [if_neg c3] at h1
        simp at h1
    · rw [if_neg c2] at h1
      simp at h1
  · rw [if_neg c1] at h1
    simp at h1
theorem good1_ins (s : S105) (base : List Int) (hc : s.f0 = false) (h : good1 s base = true) : 1 ≤ s.f3.length ∧ s.f3.length ≤ 127 := by
  have h1 := good1_some s base
  rw [h] at h1
  unfold spec_GoodStep.f at h1
  rw [if_neg (by simp [hc])] at h1
  by_cases c1 : (s.f3.length : Int) ≥ 1
  · rw [if_pos c1] at h1
    have h2 := of_decide_eq_true (Option.some.inj h1)
    omega
  · rw [if_neg c1] at h1
    simp at h1
/-- What one instruction makes. -/
def piece (base : List Int) (s : S105) : List Int := if s.f0 = true then (base.take (s.f1 + s.f2).toNat).drop s.f1.toNat else s.f3
/-- What all make. -/
def madeL (base : List Int) (steps : List S105) : List Int := (steps.map (piece base)).flatten
theorem piece_le (base : List Int) (s : S105) (hb : base.length ≤ 9223372036854775807) (h : good1 s base = true) : (piece base s).length ≤ 16777216 := by
  unfold piece
  by_cases hc : s.f0 = true
  · rw [if_pos hc]
    have := good1_copy s base hb hc h
    simp
    omega
  · rw [if_neg hc]
    have := good1_ins s base (by simpa using hc) h
    omega
theorem rd_drop (steps : List S105) (i : Nat) (hi : i < steps.length) : steps.drop i = rd_T105 steps i :: steps.drop (i + 1) := by
  unfold rd_T105
  rw [List.getD_eq_getElem?_getD, Int.toNat_natCast, List.getElem?_eq_getElem hi]
  exact List.drop_eq_getElem_cons hi
theorem rd_mem (steps : List S105) (i : Nat) (hi : i < steps.length) : rd_T105 steps i ∈ steps := by
  unfold rd_T105
  rw [List.getD_eq_getElem?_getD, Int.toNat_natCast, List.getElem?_eq_getElem hi]
  exact List.getElem_mem _
theorem madeL_l (base : List Int) (steps : List S105) (hb : base.length ≤ 9223372036854775807) (hm : steps.length ≤ 500) (hg : ∀ s ∈ steps, good1 s base = true) : ∀ (d i : Nat) (acc : List Int), i + d = steps.length → acc.length ≤ i * 16777216 → Ev (fun k => spec_Made.l0 k base acc steps (steps.length : Int) i) (acc ++ ((steps.drop i).map (piece base)).flatten) := by
  intro d
  induction d with
  | zero =>
    intro i acc hi ha
    refine ⟨1, fun k hk => ?_⟩
    obtain ⟨k, rfl⟩ : ∃ m, k = m + 1 := ⟨k - 1, by omega⟩
    simp only [spec_Made.l0]
    rw [if_neg (by omega), List.drop_eq_nil_of_le (by omega)]
    simp
  | succ d ih =>
    intro i acc hi ha
    have hgi := hg _ (rd_mem steps i (by omega))
    have hp := piece_le base _ hb hgi
    rw [rd_drop steps i (by omega)]
    obtain ⟨K, hK⟩ := ih (i + 1) (acc ++ piece base (rd_T105 steps i)) (by omega) (by simp; omega)
    refine ⟨K + 1, fun k hk => ?_⟩
    obtain ⟨k, rfl⟩ : ∃ m, k = m + 1 := ⟨k - 1, by omega⟩
    have hk1 := hK k (by omega)
    simp only [spec_Made.l0]
    rw [if_pos (by omega), if_pos (by omega), if_pos (by omega)]
    by_cases hc : (rd_T105 steps i).f0 = true
    · obtain ⟨q1, q2, q3, q4⟩ := good1_copy _ base hb hc hgi
      have hpc : piece base (rd_T105 steps i) = (base.take ((rd_T105 steps i).f1 + (rd_T105 steps i).f2).toNat).drop (rd_T105 steps i).f1.toNat := by unfold piece; rw [if_pos hc]
      rw [hpc] at hp hk1
      rw [if_pos hc, if_pos q1, w64 ((rd_T105 steps i).f1 + (rd_T105 steps i).f2) (by omega) (by omega), if_pos (by omega), if_pos (by omega), if_pos (by omega), w64 _ (by omega) (by omega)]
      simp only [List.map_cons, List.flatten_cons, hpc, ← List.append_assoc]
      exact hk1
    · have hpc : piece base (rd_T105 steps i) = (rd_T105 steps i).f3 := by unfold piece; rw [if_neg hc]
      rw [hpc] at hp hk1
      rw [if_neg hc, if_pos (by omega), w64 _ (by omega) (by omega)]
      simp only [List.map_cons, List.flatten_cons, hpc, ← List.append_assoc]
      exact hk1
theorem madeL_ev (base : List Int) (steps : List S105) (h : goodS steps base = true) : Ev (fun k => spec_Made.f k base steps) (madeL base steps) := by
  simp only [goodS, Bool.and_eq_true, List.all_eq_true, decide_eq_true_eq] at h
  obtain ⟨K, hK⟩ := madeL_l base steps (by omega) (by omega) h.1 steps.length 0 [] (by omega) (by simp)
  exact ⟨K, fun k hk => by have := hK k hk; simp only [List.drop_zero, List.nil_append] at this; exact this⟩
/-! ### the bytes of an instruction -/
theorem step_l (x3 : Int) (a0 : Bool) (a1 a2 : Int) (l3 : List Int) (a4 : Int) : ∀ (d n : Nat) (x4 : Int) (x5 : List Int), n + d = 7 → x5.length ≤ n → ∃ r, Ev (fun k => spec_StepBytes.l0 k x3 x4 x5 n a0 a1 a2 l3 a4) r ∧ r.length ≤ 8 := by
  intro d
  induction d with
  | zero =>
    intro n x4 x5 hn hl
    refine ⟨[x4] ++ x5, ⟨1, fun k hk => ?_⟩, by simp; omega⟩
    obtain ⟨k, rfl⟩ : ∃ m, k = m + 1 := ⟨k - 1, by omega⟩
    simp only [spec_StepBytes.l0]
    rw [if_neg (by omega)]
    simp only [Option.bind_some]
    rw [if_pos (by simp; omega)]
  | succ d ih =>
    intro n x4 x5 hn hl
    have w1 : wrap64 (8 * (n : Int)) = 8 * n := w64 _ (by omega) (by omega)
    have w2 : wrap64 ((n : Int) + 1) = ((n + 1 : Nat) : Int) := w64 _ (by omega) (by omega)
    have w3 : wrap64 ((n : Int) - 4) = (n : Int) - 4 := w64 _ (by omega) (by omega)
    have w4 : wrap64 (8 * ((n : Int) - 4)) = 8 * ((n : Int) - 4) := w64 _ (by omega) (by omega)
    have go : ∀ (y4 : Int) (y5 : List Int), y5.length ≤ n + 1 → ∀ b : Nat → Option (List Int), (∀ k, b (k + 1) = spec_StepBytes.l0 k x3 y4 y5 ((n + 1 : Nat) : Int) a0 a1 a2 l3 a4) → ∃ r, Ev b r ∧ r.length ≤ 8 := by
      intro y4 y5 h5 b hb
      obtain ⟨r, ⟨K, hK⟩, hr⟩ := ih (n + 1) y4 y5 (by omega) h5
      refine ⟨r, ⟨K + 1, fun k hk => ?_⟩, hr⟩
      obtain ⟨k, rfl⟩ : ∃ m, k = m + 1 := ⟨k - 1, by omega⟩
      rw [hb]
      exact hK k (by omega)
    by_cases c4 : (n : Int) ≥ 4
    · by_cases c0 : (shr .i64 x3 (8 * ((n : Int) - 4))) % 256 = 0
      · by_cases c1 : (Go.bits .and .i64 (shr .i64 a4 n) 1) = 1
        · exact go (Go.bits .or .u8 x4 (shl .u8 1 n)) (x5 ++ [(shr .i64 x3 (8 * ((n : Int) - 4))) % 256]) (by simp; omega) _ (fun k => by simp only [spec_StepBytes.l0]; rw [if_pos (by omega), w1, if_pos (by omega), if_pos c4, w3, w4, if_pos (by omega), if_pos c0, if_pos (by omega), if_pos c1, if_pos (by omega), w2])
        · exact go x4 x5 (by omega) _ (fun k => by simp only [spec_StepBytes.l0]; rw [if_pos (by omega), w1, if_pos (by omega), if_pos c4, w3, w4, if_pos (by omega), if_pos c0, if_pos (by omega), if_neg c1, w2])
      · exact go (Go.bits .or .u8 x4 (shl .u8 1 n)) (x5 ++ [(shr .i64 x3 (8 * ((n : Int) - 4))) % 256]) (by simp; omega) _ (fun k => by simp only [spec_StepBytes.l0]; rw [if_pos (by omega), w1, if_pos (by omega), if_pos c4, w3, w4, if_pos (by omega), if_neg c0, if_pos (by omega), if_pos (by omega), w2])
    · by_cases c0 : (shr .i64 a1 (8 * (n : Int))) % 256 = 0
      · by_cases c1 : (Go.bits .and .i64 (shr .i64 a4 n) 1) = 1
        · exact go (Go.bits .or .u8 x4 (shl .u8 1 n)) (x5 ++ [(shr .i64 a1 (8 * (n : Int))) % 256]) (by simp; omega) _ (fun k => by simp only [spec_StepBytes.l0]; rw [if_pos (by omega), w1, if_pos (by omega), if_neg c4, if_pos c0, if_pos (by omega), if_pos c1, if_pos (by omega), w2])
        · exact go x4 x5 (by omega) _ (fun k => by simp only [spec_StepBytes.l0]; rw [if_pos (by omega), w1, if_pos (by omega), if_neg c4, if_pos c0, if_pos (by omega), if_neg c1, w2])
      · exact go (Go.bits .or .u8 x4 (shl .u8 1 n)) (x5 ++ [(shr .i64 a1 (8 * (n : Int))) % 256]) (by simp; omega) _ (fun k => by simp only [spec_StepBytes.l0]; rw [if_pos (by omega), w1, if_pos (by omega), if_neg c4, if_neg c0, if_pos (by omega), if_pos (by omega), w2])
theorem step_ev (s : S105) (hl : s.f0 = false → s.f3.length ≤ 127) : ∃ r, Ev (fun k => spec_StepBytes.f k s.f0 s.f1 s.f2 s.f3 s.f4) r ∧ r.length ≤ 128 := by
  have go : ∀ x, ∃ r, Ev (fun k => spec_StepBytes.j0 k x s.f0 s.f1 s.f2 s.f3 s.f4) r ∧ r.length ≤ 128 := by
    intro x
    obtain ⟨r, ⟨K, hK⟩, hr⟩ := step_l x s.f0 s.f1 s.f2 s.f3 s.f4 7 0 128 [] (by omega) (by simp)
    refine ⟨r, ⟨K + 1, fun k hk => ?_⟩, by omega⟩
    obtain ⟨k, rfl⟩ : ∃ m, k = m + 1 := ⟨k - 1, by omega⟩
    simp only [spec_StepBytes.j0]
    exact hK k (by omega)
  by_cases hc : s.f0 = true
  · by_cases h2 : s.f2 = 65536
    · obtain ⟨r, ⟨K, hK⟩, hr⟩ := go 0
      exact ⟨r, ⟨K, fun k hk => by simp only [spec_StepBytes.f]; rw [if_pos hc, if_pos h2]; exact hK k hk⟩, hr⟩
    · obtain ⟨r, ⟨K, hK⟩, hr⟩ := go s.f2
      exact ⟨r, ⟨K, fun k hk => by simp only [spec_StepBytes.f]; rw [if_pos hc, if_neg h2]; exact hK k hk⟩, hr⟩
  · have hl2 := hl (by simpa using hc)
    refine ⟨[(s.f3.length : Int) % 256] ++ s.f3, ⟨0, fun k hk => ?_⟩, by simp; omega⟩
    simp only [spec_StepBytes.f]
    rw [if_neg hc]
    simp only [Option.bind_some]
    rw [if_pos (by simp; omega)]
end Go.Proofs.YtohdpnoinfnmiaaGreatDoor
