/- What a slice of entries holds, read off the row's data; and what the listed variables hold. -/
import Derived.Test.YtohdpnoinfnmiaaGreatDoorA3
import Derived.Deep.Slices
import Derived.Deep.SlicePairs
import Derived.Deep.DeepHandedRow
import Derived.Deep.DeepWitnessRowRef
import Derived.Lib.LaidIn
import Derived.LaidSub
import Derived.MakeChecks
import Derived.Stop.LaidErr
namespace Go.Proofs.YtohdpnoinfnmiaaGreatDoor
open Go.RowKit U Go.Deep
open Go.Proofs.YtohdpnoinfnmiaaGreatDoorW.PrintWords (Aside0 Kd nums)
open Go.Proofs.YtohdpnoinfnmiaaGreatDoorW.PrintMore
open PFnPackOther
section
variable {H : Type} {enc : TypeId × Value → H} {W : World} {base : Nat} {sp : Nat → Bool} {held : Bool}
theorem list_of {α : Type} {P : Nat → α → Prop} : ∀ n : Nat, (∀ i, i < n → ∃ a, P i a) → ∃ xs : List α, xs.length = n ∧ ∀ j p, xs[j]? = some p → P j p
  | 0, _ => ⟨[], rfl, fun j p h => by simp at h⟩
  | n + 1, h => by
    obtain ⟨xs, hl, hx⟩ := list_of n (fun i hi => h i (by omega))
    obtain ⟨a, ha⟩ := h n (by omega)
    refine ⟨xs ++ [a], by simp [hl], fun j p hp => ?_⟩
    rcases Nat.lt_or_ge j xs.length with hj | hj
    · rw [List.getElem?_append_left hj] at hp
      exact hx j p hp
    · rw [List.getElem?_append_right hj] at hp
      obtain ⟨h0, rfl⟩ : j - xs.length = 0 ∧ a = p := by
        cases hk : j - xs.length with
        | zero => rw [hk] at hp; simpa using hp
        | succ m => rw [hk] at hp; simp at hp
      have : j = n := by omega
      subst this
      exact ha
/-- A kind that every reading of a type opens into. -/
def Opens (H : Type) (enc : TypeId × Value → H) (W : World) (base : Nat) (sp : Nat → Bool) (held : Bool) {α : Type} (k : Kd α) (t : TypeId) : Prop :=
  ∀ (fuel : Nat) (cs : List Value) (x : DataW H × List MemPlace), DataW.trod enc Tryz.prog W base sp held fuel t cs = some x → ∃ a : α, k.K W a cs
theorem opens_int {t : TypeId} {k : IntKind} (ht : Tryz.prog.underlying t = some (.int k)) : Opens H enc W base sp held (Kd.int k) t := by
  intro fuel cs x h
  obtain ⟨n, rfl, _⟩ := DataW.trod_int ht h
  exact ⟨n, rfl⟩
theorem opens_bool {t : TypeId} (ht : Tryz.prog.underlying t = some .bool) : Opens H enc W base sp held Kd.bool t := by
  intro fuel cs x h
  obtain ⟨n, rfl, _⟩ := DataW.trod_bool ht h
  exact ⟨n, rfl⟩
theorem opens_slice {α : Type} {k : Kd α} {t e q : TypeId} (ht : Tryz.prog.underlying t = some (.slice e)) (hk : Opens H enc W base sp held k e) (hs : Tryz.prog.cellsOf e = k.sz) : Opens H enc W base sp held (Kd.slice q k) t := by
  intro fuel cs x h
  rcases open_slice ht h with ⟨rfl, _⟩ | ⟨a, len, cap, m, n, D, Pl, rfl, hb, hl, hm, hmm, _, hx⟩
  · exact ⟨[], none, 0, rfl, Nat.le_refl _, Kd.C_nil k W⟩
  · have hlm : len ≤ m := by rw [hmm]; split <;> omega
    obtain ⟨xs, hxl, hxs⟩ := list_of (P := fun i p => ∃ c, c.length = k.sz ∧ k.K W p c ∧ ∀ j u, c[j]? = some u → W.cell? (a.add (i * k.sz + j)) = some u) len (fun i hi => by
      obtain ⟨cs', hc, ht'⟩ := hx i (by omega)
      obtain ⟨_, hcl, hcell⟩ := World.cells?_some hc
      obtain ⟨v, hv⟩ := hk _ _ _ ht'
      rw [hs] at hcell hcl
      refine ⟨v, cs', hcl, hv, fun j u hj => ?_⟩
      have hjl : j < k.sz := by
        have := (List.getElem?_eq_some_iff.1 hj).1
        omega
      have h1 := hcell j hjl
      have h2 : (a.add (i * k.sz)).add j = a.add (i * k.sz + j) := Addr.add_add _ _ _
      exact ((congrArg W.cell? h2).symm.trans h1).trans hj)
    subst hxl
    have h9 : maxLen ≤ 9223372036854775807 := by decide
    exact ⟨xs, some a, cap, rfl, hl, rfl, Nat.le_trans (Nat.le_trans hl hm) h9, fun _ => ⟨a, rfl, hxs⟩⟩
theorem five {cs : List Value} (h : cs.length = 5) : ∃ a b c d e, cs = [a, b, c, d, e] := by
  match cs, h with
  | [a, b, c, d, e], _ => exact ⟨a, b, c, d, e, rfl⟩
theorem four {cs : List Value} (h : cs.length = 4) : ∃ a b c d, cs = [a, b, c, d] := by
  match cs, h with
  | [a, b, c, d], _ => exact ⟨a, b, c, d, rfl⟩
theorem cells3 : Tryz.prog.cellsOf 3 = 1 := by kernel_rfl
theorem cells4 : Tryz.prog.cellsOf 4 = 1 := by kernel_rfl
theorem cells5 : Tryz.prog.cellsOf 5 = 1 := by kernel_rfl
theorem cells25 : Tryz.prog.cellsOf 25 = 1 := by kernel_rfl
theorem cells37 : Tryz.prog.cellsOf 37 = 1 := by kernel_rfl
theorem cells39 : Tryz.prog.cellsOf 39 = 4 := by kernel_rfl
theorem cells105 : Tryz.prog.cellsOf 105 = 5 := by kernel_rfl
theorem opens105 : Opens H enc W base sp held k105 105 := by
  intro fuel cs x h
  obtain ⟨xs, n, _, _, hl, hxl, hf⟩ := DataW.trod_struct Tryz.underlying105 h
  rw [cells105] at hl
  obtain ⟨v0, v1, v2, v3, v4, rfl⟩ := five hl
  have e0 := hf 0 _ rfl
  have e1 := hf 1 _ rfl
  have e2 := hf 2 _ rfl
  have e3 := hf 3 _ rfl
  have e4 := hf 4 _ rfl
  have hx5 : xs.length = 5 := hxl
  rw [List.getElem?_eq_getElem (by omega)] at e0 e1 e2 e3 e4
  replace e0 : DataW.trod enc Tryz.prog W base sp held n 4 (List.take (Tryz.prog.cellsOf 4) [v0, v1, v2, v3, v4]) = some xs[0] := e0
  replace e1 : DataW.trod enc Tryz.prog W base sp held n 3 (List.take (Tryz.prog.cellsOf 3) [v1, v2, v3, v4]) = some xs[1] := e1
  replace e2 : DataW.trod enc Tryz.prog W base sp held n 3 (List.take (Tryz.prog.cellsOf 3) [v2, v3, v4]) = some xs[2] := e2
  replace e3 : DataW.trod enc Tryz.prog W base sp held n 25 (List.take (Tryz.prog.cellsOf 25) [v3, v4]) = some xs[3] := e3
  replace e4 : DataW.trod enc Tryz.prog W base sp held n 3 (List.take (Tryz.prog.cellsOf 3) [v4]) = some xs[4] := e4
  rw [cells4] at e0
  rw [cells3] at e1 e2 e4
  rw [cells25] at e3
  obtain ⟨a0, h0⟩ := opens_bool Tryz.underlying4 _ _ _ e0
  obtain ⟨a1, h1⟩ := opens_int Tryz.underlying3 _ _ _ e1
  obtain ⟨a2, h2⟩ := opens_int Tryz.underlying3 _ _ _ e2
  obtain ⟨a3, h3⟩ := opens_slice (q := 5) Tryz.underlying25 (opens_int Tryz.underlying5) cells5 _ _ _ e3
  obtain ⟨a4, h4⟩ := opens_int Tryz.underlying3 _ _ _ e4
  exact ⟨⟨a0, a1, a2, a3, a4⟩, [v0], [v1, v2, v3, v4], rfl, h0, [v1], [v2, v3, v4], rfl, h1, [v2], [v3, v4], rfl, h2, [v3], [v4], rfl, h3, h4⟩
theorem opens39 : Opens H enc W base sp held k39 39 := by
  intro fuel cs x h
  obtain ⟨xs, n, _, _, hl, hxl, hf⟩ := DataW.trod_struct Tryz.underlying39 h
  rw [cells39] at hl
  obtain ⟨v0, v1, v2, v3, rfl⟩ := four hl
  have e0 := hf 0 _ rfl
  have e1 := hf 1 _ rfl
  have e2 := hf 2 _ rfl
  have e3 := hf 3 _ rfl
  have hx5 : xs.length = 4 := hxl
  rw [List.getElem?_eq_getElem (by omega)] at e0 e1 e2 e3
  replace e0 : DataW.trod enc Tryz.prog W base sp held n 3 (List.take (Tryz.prog.cellsOf 3) [v0, v1, v2, v3]) = some xs[0] := e0
  replace e1 : DataW.trod enc Tryz.prog W base sp held n 25 (List.take (Tryz.prog.cellsOf 25) [v1, v2, v3]) = some xs[1] := e1
  replace e2 : DataW.trod enc Tryz.prog W base sp held n 3 (List.take (Tryz.prog.cellsOf 3) [v2, v3]) = some xs[2] := e2
  replace e3 : DataW.trod enc Tryz.prog W base sp held n 37 (List.take (Tryz.prog.cellsOf 37) [v3]) = some xs[3] := e3
  rw [cells3] at e0 e2
  rw [cells25] at e1
  rw [cells37] at e3
  obtain ⟨a0, h0⟩ := opens_int Tryz.underlying3 _ _ _ e0
  obtain ⟨a1, h1⟩ := opens_slice (q := 5) Tryz.underlying25 (opens_int Tryz.underlying5) cells5 _ _ _ e1
  obtain ⟨a2, h2⟩ := opens_int Tryz.underlying3 _ _ _ e2
  obtain ⟨a3, h3⟩ := opens_slice (q := 105) Tryz.underlying37 opens105 cells105 _ _ _ e3
  exact ⟨⟨a0, a1, a2, a3⟩, [v0], [v1, v2, v3], rfl, h0, [v1], [v2, v3], rfl, h1, [v2], [v3], rfl, h2, h3⟩
/-- A slice of entries. -/
theorem open22 {d : DataW H} {p : List MemPlace} {A : Option Addr} {n c : Nat} (h : DataW.Trod enc Tryz.prog W base sp held 22 (.slice A n c) d p) : ∃ l : List S39, n = l.length ∧ n ≤ c ∧ Kd.C k39 W A l.length l := by
  obtain ⟨fuel, hf⟩ := h
  obtain ⟨l, A', c', he, hl, hC⟩ := opens_slice (q := 39) Tryz.underlying22 opens39 cells39 _ _ _ hf
  simp [Value.cells] at he
  obtain ⟨rfl, rfl, rfl⟩ := he
  exact ⟨l, rfl, hl, hC⟩
end
end Go.Proofs.YtohdpnoinfnmiaaGreatDoor
