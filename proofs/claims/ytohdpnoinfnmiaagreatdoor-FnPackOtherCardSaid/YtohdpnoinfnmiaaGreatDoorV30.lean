/- The printed functions of the reference come to an end: sizes, deltas, heads, streams, names. -/
import Derived.Test.YtohdpnoinfnmiaaGreatDoorV29
namespace Go.Proofs.YtohdpnoinfnmiaaGreatDoor
open Go.RowKit
open Go.Proofs.YtohdpnoinfnmiaaGreatDoorW.PrintWords
open Go.Proofs.YtohdpnoinfnmiaaGreatDoorW.PrintMore
open PFnPackOther
theorem p128 (m : Nat) : (128 : Int) ^ (m + 1) = 128 ^ m * 128 := Int.pow_succ ..
theorem size7_l : ∀ (m : Nat) (x : Int) (acc : List Int), 0 ≤ x → x ≤ 9223372036854775807 → x < 128 ^ (m + 1) → acc.length + m ≤ 100 → ∃ r, Ev (fun k => spec_Size7.l0 k x acc) r ∧ r.length ≤ acc.length + m + 1 := by
  intro m
  induction m with
  | zero =>
    intro x acc h0 _ h1 ha
    refine ⟨acc ++ [x % 256], ⟨1, fun k hk => ?_⟩, by simp⟩
    obtain ⟨k, rfl⟩ : ∃ m, k = m + 1 := ⟨k - 1, by omega⟩
    simp only [spec_Size7.l0]
    rw [if_neg (by omega), if_pos (by omega)]
  | succ m ih =>
    intro x acc h0 hm h1 ha
    by_cases hx : x ≥ 128
    · have e : wrap64 (Int.tdiv x 128) = x / 128 := by rw [Int.tdiv_eq_ediv_of_nonneg h0]; exact w64 _ (by omega) (by omega)
      have hp := p128 (m + 1)
      obtain ⟨r, ⟨K, hK⟩, hr⟩ := ih (x / 128) (acc ++ [(wrap64 ((Int.tmod x 128) + 128)) % 256]) (by omega) (by omega) (by omega) (by simp; omega)
      refine ⟨r, ⟨K + 1, fun k hk => ?_⟩, by simp at hr; omega⟩
      obtain ⟨k, rfl⟩ : ∃ m, k = m + 1 := ⟨k - 1, by omega⟩
      simp only [spec_Size7.l0]
      rw [if_pos hx, if_pos (by omega), e]
      exact hK k (by omega)
    · refine ⟨acc ++ [x % 256], ⟨1, fun k hk => ?_⟩, by simp <;> omega⟩
      obtain ⟨k, rfl⟩ : ∃ m, k = m + 1 := ⟨k - 1, by omega⟩
      simp only [spec_Size7.l0]
      rw [if_neg hx, if_pos (by omega)]
theorem size7_ev (n : Nat) (hn : n ≤ 9223372036854775807) : ∃ r, Ev (fun k => spec_Size7.f k (n : Int)) r ∧ r.length ≤ 10 := by
  obtain ⟨r, h, hr⟩ := size7_l 8 n [] (by omega) (by omega) (by have : (128 : Int) ^ (8 + 1) = 9223372036854775808 := by decide
                                                                omega) (by simp)
  exact ⟨r, h, by simp at hr; omega⟩
theorem delta_l (steps : List S105) (base : List Int) (hm : steps.length ≤ 500) (hg : ∀ s ∈ steps, good1 s base = true) : ∀ (d i : Nat) (acc : List Int), i + d = steps.length → acc.length ≤ 20 + i * 128 → ∃ r, Ev (fun k => spec_Delta.l0 k acc steps (steps.length : Int) i) r ∧ r.length ≤ 20 + steps.length * 128 := by
  intro d
  induction d with
  | zero =>
    intro i acc hi ha
    refine ⟨acc, ⟨1, fun k hk => ?_⟩, by omega⟩
    obtain ⟨k, rfl⟩ : ∃ m, k = m + 1 := ⟨k - 1, by omega⟩
    simp only [spec_Delta.l0]
    rw [if_neg (by omega)]
  | succ d ih =>
    intro i acc hi ha
    obtain ⟨s, ⟨K1, hK1⟩, hs⟩ := step_ev (rd_T105 steps i) (fun hc => (good1_ins _ base hc (hg _ (rd_mem steps i (by omega)))).2)
    obtain ⟨r, ⟨K, hK⟩, hr⟩ := ih (i + 1) (acc ++ s) (by omega) (by simp; omega)
    refine ⟨r, ⟨K + K1 + 1, fun k hk => ?_⟩, hr⟩
    obtain ⟨k, rfl⟩ : ∃ m, k = m + 1 := ⟨k - 1, by omega⟩
    have hk1 : spec_StepBytes.f k (rd_T105 steps i).f0 (rd_T105 steps i).f1 (rd_T105 steps i).f2 (rd_T105 steps i).f3 (rd_T105 steps i).f4 = some s := hK1 k (by omega)
    simp only [spec_Delta.l0]
    rw [if_pos (by omega), if_pos (by omega), if_pos (by omega), hk1]
    simp only [Option.bind_some]
    rw [if_pos (by omega), w64 _ (by omega) (by omega)]
    exact hK k (by omega)
theorem delta_ev (base : List Int) (steps : List S105) (h : goodS steps base = true) : ∃ r k, spec_Delta.f k base steps = some r ∧ r.length ≤ 100000 := by
  obtain ⟨K2, hK2⟩ := madeL_ev base steps h
  simp only [goodS, Bool.and_eq_true, List.all_eq_true, decide_eq_true_eq] at h
  have hml : (madeL base steps).length ≤ 9223372036854775807 := by
    have : ∀ l : List S105, (∀ s ∈ l, good1 s base = true) → (madeL base l).length ≤ l.length * 16777216 := by
      intro l
      induction l with
      | nil => intro _; simp [madeL]
      | cons s l ih =>
        intro hl
        have h1 := ih (fun s hs => hl s (by simp [hs]))
        have h2 := piece_le base s (by omega) (hl s (by simp))
        simp only [madeL, List.map_cons, List.flatten_cons, List.length_append, List.length_cons] at h1 ⊢
        omega
    have := this steps h.1
    omega
  obtain ⟨a, ⟨K1, hK1⟩, ha⟩ := size7_ev base.length (by omega)
  obtain ⟨b, ⟨K3, hK3⟩, hb⟩ := size7_ev (madeL base steps).length hml
  obtain ⟨r, ⟨K, hK⟩, hr⟩ := delta_l steps base (by omega) h.1 steps.length 0 (a ++ b) (by omega) (by simp; omega)
  refine ⟨r, K + K1 + K2 + K3, ?_, by omega⟩
  have e1 : spec_Size7.f (K + K1 + K2 + K3) (base.length : Int) = some a := hK1 _ (by omega)
  have e2 : spec_Made.f (K + K1 + K2 + K3) base steps = some (madeL base steps) := hK2 _ (by omega)
  have e3 : spec_Size7.f (K + K1 + K2 + K3) ((madeL base steps).length : Int) = some b := hK3 _ (by omega)
  simp only [spec_Delta.f]
  rw [e1]
  simp only [Option.bind_some]
  rw [e2]
  simp only [Option.bind_some]
  rw [e3]
  simp only [Option.bind_some]
  rw [if_pos (by omega)]
  exact hK _ (by omega)
theorem head_l : ∀ (m : Nat) (x y : Int) (acc : List Int), 0 ≤ x → x ≤ 9223372036854775807 → x < 128 ^ m → acc.length + m ≤ 100 → ∃ r, Ev (fun k => spec_EntryHead.l0 k x y acc) r ∧ r.length ≤ acc.length + m + 1 := by
  intro m
  induction m with
  | zero =>
    intro x y acc h0 _ h1 ha
    refine ⟨acc ++ [y], ⟨1, fun k hk => ?_⟩, by simp⟩
    obtain ⟨k, rfl⟩ : ∃ m, k = m + 1 := ⟨k - 1, by omega⟩
    simp only [spec_EntryHead.l0]
    rw [if_neg (by omega), if_pos (by omega)]
  | succ m ih =>
    intro x y acc h0 hm h1 ha
    by_cases hx : x > 0
    · have e : wrap64 (Int.tdiv x 128) = x / 128 := by rw [Int.tdiv_eq_ediv_of_nonneg h0]; exact w64 _ (by omega) (by omega)
      have hp := p128 m
      obtain ⟨r, ⟨K, hK⟩, hr⟩ := ih (x / 128) ((Int.tmod x 128) % 256) (acc ++ [Go.bits .or .u8 y 128]) (by omega) (by omega) (by omega) (by simp; omega)
      refine ⟨r, ⟨K + 1, fun k hk => ?_⟩, by simp at hr; omega⟩
      obtain ⟨k, rfl⟩ : ∃ m, k = m + 1 := ⟨k - 1, by omega⟩
      simp only [spec_EntryHead.l0]
      rw [if_pos hx, if_pos (by omega), e]
      exact hK k (by omega)
    · refine ⟨acc ++ [y], ⟨1, fun k hk => ?_⟩, by simp <;> omega⟩
      obtain ⟨k, rfl⟩ : ∃ m, k = m + 1 := ⟨k - 1, by omega⟩
      simp only [spec_EntryHead.l0]
      rw [if_neg hx, if_pos (by omega)]
theorem head_ev (kind : Int) (n : Nat) (hn : n ≤ 9223372036854775807) : ∃ r k, spec_EntryHead.f k kind (n : Int) = some r ∧ r.length ≤ 10 := by
  have e : wrap64 (Int.tdiv (n : Int) 16) = (n : Int) / 16 := by rw [Int.tdiv_eq_ediv_of_nonneg (by omega)]; exact w64 _ (by omega) (by omega)
  obtain ⟨r, ⟨K, hK⟩, hr⟩ := head_l 9 ((n : Int) / 16) ((Go.bits .or .i64 (wrap64 (kind * 16)) (Int.tmod (n : Int) 16)) % 256) [] (by omega) (by omega) (by have : (128 : Int) ^ 9 = 9223372036854775808 := by decide
                                                                                                                                                            omega) (by simp)
  exact ⟨r, K, by simp only [spec_EntryHead.f]; rw [e]; exact hK K (Nat.le_refl _), by simp at hr; omega⟩
theorem back_l : ∀ (m : Nat) (x : Int) (acc : List Int), x ≤ 9223372036854775807 → x < 128 ^ m → acc.length + m ≤ 100 → ∃ r, Ev (fun k => spec_Back.l0 k x acc) r ∧ r.length ≤ acc.length + m := by
  intro m
  induction m with
  | zero =>
    intro x acc _ h1 ha
    refine ⟨acc, ⟨1, fun k hk => ?_⟩, by simp⟩
    obtain ⟨k, rfl⟩ : ∃ m, k = m + 1 := ⟨k - 1, by omega⟩
    simp only [spec_Back.l0]
    rw [if_neg (by simp at h1; omega)]
  | succ m ih =>
    intro x acc hm h1 ha
    by_cases hx : x > 0
    · have e0 : wrap64 (x - 1) = x - 1 := w64 _ (by omega) (by omega)
      have e : wrap64 (Int.tdiv (x - 1) 128) = (x - 1) / 128 := by rw [Int.tdiv_eq_ediv_of_nonneg (by omega)]; exact w64 _ (by omega) (by omega)
      have hp := p128 m
      obtain ⟨r, ⟨K, hK⟩, hr⟩ := ih ((x - 1) / 128) ([(wrap64 ((Int.tmod (x - 1) 128) + 128)) % 256] ++ acc) (by omega) (by omega) (by simp; omega)
      refine ⟨r, ⟨K + 1, fun k hk => ?_⟩, by simp at hr; omega⟩
      obtain ⟨k, rfl⟩ : ∃ m, k = m + 1 := ⟨k - 1, by omega⟩
      simp only [spec_Back.l0]
      rw [if_pos hx, e0, e]
      simp only [Option.bind_some]
      rw [if_pos (by simp; omega)]
      exact hK k (by omega)
    · refine ⟨acc, ⟨1, fun k hk => ?_⟩, by omega⟩
      obtain ⟨k, rfl⟩ : ∃ m, k = m + 1 := ⟨k - 1, by omega⟩
      simp only [spec_Back.l0]
      rw [if_neg hx]
theorem back_ev (n : Int) : ∃ r k, spec_Back.f k n = some r ∧ r.length ≤ 10 := by
  have hd : wrap64 (Int.tdiv n 128) ≤ 9223372036854775807 := by
    unfold wrap64
    omega
  obtain ⟨r, ⟨K, hK⟩, hr⟩ := back_l 9 (wrap64 (Int.tdiv n 128)) [(Int.tmod n 128) % 256] hd (by have : (128 : Int) ^ 9 = 9223372036854775808 := by decide
                                                                                                omega) (by simp)
  exact ⟨r, K, by simp only [spec_Back.f]; exact hK K (Nat.le_refl _), by simp at hr; omega⟩
theorem adler_l (xs : List Int) (hm : xs.length ≤ 9223372036854775807) : ∀ (d i : Nat) (a b : Int), i + d = xs.length → ∃ r, Ev (fun k => spec_Adler32.l0 k a b xs (xs.length : Int) i) r := by
  intro d
  induction d with
  | zero =>
    intro i a b hi
    refine ⟨Go.bits .or .u32 ((b * 65536) % 4294967296) a, 1, fun k hk => ?_⟩
    obtain ⟨k, rfl⟩ : ∃ m, k = m + 1 := ⟨k - 1, by omega⟩
    simp only [spec_Adler32.l0]
    rw [if_neg (by omega)]
  | succ d ih =>
    intro i a b hi
    obtain ⟨r, K, hK⟩ := ih (i + 1) (((a + ((rd xs i) % 4294967296)) % 4294967296) % 65521) (((b + (((a + ((rd xs i) % 4294967296)) % 4294967296) % 65521)) % 4294967296) % 65521) (by omega)
    refine ⟨r, K + 1, fun k hk => ?_⟩
    obtain ⟨k, rfl⟩ : ∃ m, k = m + 1 := ⟨k - 1, by omega⟩
    simp only [spec_Adler32.l0]
    rw [if_pos (by omega), if_pos (by omega), if_pos (by omega), w64 _ (by omega) (by omega)]
    exact hK k (by omega)
theorem stored_l (x0 : List Int) (hm : x0.length ≤ 1000000000000) : ∀ (d : Nat) (acc rest : List Int), rest.length ≤ d → acc.length + 2 * rest.length ≤ 10000000000000 → ∃ r, Ev (fun k => spec_Stored.l0 k x0 acc rest) r ∧ r.length ≤ acc.length + 2 * rest.length + 9 := by
  intro d
  induction d using Nat.strongRecOn with
  | _ d ih =>
    intro acc rest hd ha
    obtain ⟨s, Ka, hKa⟩ := adler_l x0 (by omega) x0.length 0 1 0 (by omega)
    by_cases hc : (mn (rest.length : Int) 65535) = (rest.length : Int)
    · have hl : rest.length ≤ 65535 := by unfold mn at hc; split at hc <;> omega
      refine ⟨(acc ++ [1, (rest.length : Int) % 256, ((rest.length : Int) / 256) % 256, (Go.bits .xor .i64 (-1) (rest.length : Int)) % 256, ((Go.bits .xor .i64 (-1) (rest.length : Int)) / 256) % 256] ++ rest) ++ [(s / 16777216) % 256, (s / 65536) % 256, (s / 256) % 256, s % 256], ⟨Ka + 2, fun k hk => ?_⟩, by simp; omega⟩
      obtain ⟨k, rfl⟩ : ∃ m, k = m + 1 + 1 := ⟨k - 2, by omega⟩
      have e1 : spec_Adler32.f k x0 = some s := hKa k (by omega)
      simp only [spec_Stored.l0]
      rw [if_pos hc, hc]
      simp only [spec_Stored.j1, Option.bind_some]
      rw [if_pos (by simp; omega), if_pos (by omega), if_pos (by omega)]
      simp only [Int.toNat_natCast, List.take_length]
      rw [if_pos (by simp; omega), if_pos trivial, e1]
      simp only [Option.bind_some, spec_Put32.f]
      rw [if_pos (by simp; omega)]
    · have hl : 65535 < rest.length := by unfold mn at hc; split at hc <;> omega
      have hmn : mn (rest.length : Int) 65535 = 65535 := by unfold mn; split <;> omega
      obtain ⟨r, ⟨K, hK⟩, hr⟩ := ih (rest.length - 65535) (by omega) (acc ++ [0, (65535 : Int) % 256, ((65535 : Int) / 256) % 256, (Go.bits .xor .i64 (-1) (65535 : Int)) % 256, ((Go.bits .xor .i64 (-1) (65535 : Int)) / 256) % 256] ++ rest.take 65535) (rest.drop 65535) (by simp) (by simp; omega)
      refine ⟨r, ⟨K + 2, fun k hk => ?_⟩, by simp at hr; omega⟩
      obtain ⟨k, rfl⟩ : ∃ m, k = m + 1 + 1 := ⟨k - 2, by omega⟩
      simp only [spec_Stored.l0]
      rw [if_neg hc, hmn]
      simp only [spec_Stored.j1, Option.bind_some]
      rw [if_pos (by simp; omega), if_pos (by omega), if_pos (by omega), if_pos (by simp; omega), if_neg (by omega)]
      exact hK k (by omega)
theorem stored_ev (xs : List Int) (hm : xs.length ≤ 1000000000000) : ∃ r k, spec_Stored.f k xs = some r ∧ r.length ≤ 2 * xs.length + 11 := by
  obtain ⟨r, ⟨K, hK⟩, hr⟩ := stored_l xs hm xs.length [120, 1] xs (Nat.le_refl _) (by simp; omega)
  exact ⟨r, K, hK K (Nat.le_refl _), by simp at hr; omega⟩
theorem hex_l (xs : List Int) (hm : xs.length ≤ 1000) (hb : ∀ x ∈ xs, 0 ≤ x ∧ x ≤ 255) : ∀ (d i : Nat) (acc : List Int), i + d = xs.length → acc.length ≤ 2 * i → ∃ r, Ev (fun k => spec_Hex.l0 k acc xs (xs.length : Int) i) r ∧ r.size ≤ 2 * xs.length := by
  intro d
  induction d with
  | zero =>
    intro i acc hi ha
    refine ⟨strOfNums acc, ⟨1, fun k hk => ?_⟩, ?_⟩
    · obtain ⟨k, rfl⟩ : ∃ m, k = m + 1 := ⟨k - 1, by omega⟩
      simp only [spec_Hex.l0]
      rw [if_neg (by omega)]
    · show (strOfNums acc).data.size ≤ _
      simp [strOfNums]
      omega
  | succ d ih =>
    intro i acc hi ha
    have hx : 0 ≤ rd xs i ∧ rd xs i ≤ 255 := by
      unfold rd
      rw [List.getD_eq_getElem?_getD, Int.toNat_natCast, List.getElem?_eq_getElem (by omega)]
      exact hb _ (List.getElem_mem _)
    have hand : 0 ≤ Go.bits .and .u8 (rd xs i) 15 ∧ Go.bits .and .u8 (rd xs i) 15 < 16 := by
      have : ∀ n : Fin 256, 0 ≤ Go.bits .and .u8 ((n.val : Nat) : Int) 15 ∧ Go.bits .and .u8 ((n.val : Nat) : Int) 15 < 16 := by decide +kernel
      have h := this ⟨(rd xs i).toNat, by omega⟩
      simpa [show (((rd xs i).toNat : Nat) : Int) = rd xs i from by omega] using h
    obtain ⟨r, ⟨K, hK⟩, hr⟩ := ih (i + 1) (acc ++ [bt (⟨#[48, 49, 50, 51, 52, 53, 54, 55, 56, 57, 97, 98, 99, 100, 101, 102]⟩ : ByteArray) ((rd xs i) / 16), bt (⟨#[48, 49, 50, 51, 52, 53, 54, 55, 56, 57, 97, 98, 99, 100, 101, 102]⟩ : ByteArray) (Go.bits .and .u8 (rd xs i) 15)]) (by omega) (by simp; omega)
    refine ⟨r, ⟨K + 1, fun k hk => ?_⟩, hr⟩
    obtain ⟨k, rfl⟩ : ∃ m, k = m + 1 := ⟨k - 1, by omega⟩
    simp only [spec_Hex.l0]
    rw [if_pos (by omega), if_pos (by omega), if_pos (by omega), if_pos (by omega), if_pos (by omega), if_pos hand.1, if_pos hand.2]
    simp only [Option.bind_some]
    rw [if_pos (by simp; omega), w64 _ (by omega) (by omega)]
    exact hK k (by omega)
theorem hex_ev (xs : List Int) (hm : xs.length ≤ 1000) (hb : ∀ x ∈ xs, 0 ≤ x ∧ x ≤ 255) : ∃ r k, spec_Hex.f k xs = some r ∧ r.size ≤ 2 * xs.length := by
  obtain ⟨r, ⟨K, hK⟩, hr⟩ := hex_l xs hm hb xs.length 0 [] (by omega) (by simp)
  exact ⟨r, K, hK K (Nat.le_refl _), hr⟩
theorem kind_ev (k : Int) (h0 : 1 ≤ k) (h1 : k ≤ 4) : ∃ s, spec_KindName.f k = some s ∧ s.size ≤ 6 := by
  have hc : k = 1 ∨ k = 2 ∨ k = 3 ∨ k = 4 := by omega
  rcases hc with rfl | rfl | rfl | rfl
  · exact ⟨_, rfl, by decide⟩
  · exact ⟨_, rfl, by decide⟩
  · exact ⟨_, rfl, by decide⟩
  · exact ⟨_, rfl, by decide⟩
end Go.Proofs.YtohdpnoinfnmiaaGreatDoor
