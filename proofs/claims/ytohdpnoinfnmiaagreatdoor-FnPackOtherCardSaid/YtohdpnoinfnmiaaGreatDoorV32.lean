/- spec.Objects: what it makes, as lists. -/
import Derived.Test.YtohdpnoinfnmiaaGreatDoorV31
namespace Go.Proofs.YtohdpnoinfnmiaaGreatDoor
open Go.RowKit U
open Go.Proofs.YtohdpnoinfnmiaaGreatDoorW.PrintWords
open Go.Proofs.YtohdpnoinfnmiaaGreatDoorW.PrintMore
open PFnPackOther
/-! #### struct type 50 -/
structure S50 where
  f0 : Int
  f1 : (List Int)
def z50 : S50 := ⟨(0 : Int), ([] : List Int)⟩
def k50 : Kd S50 := Kd.iso (Kd.pair (Kd.int .i64) (Kd.slice 5 (Kd.int .u8))) (fun x : S50 => (x.f0, x.f1))
theorem k50_heap : Kd.Heap k50 := Kd.heap_iso _ (Kd.heap_pair (Kd.heap_int .i64) (Kd.heap_slice 5 (Kd.heap_int .u8)))
theorem k50_open {w : World} {x : S50} {cs : List Value} (h : k50.K w x cs) : ∃ A1 c1, cs = [.int .i64 x.f0, .slice A1 x.f1.length c1] ∧ x.f1.length ≤ c1 ∧ (Kd.int .u8).C w A1 x.f1.length x.f1 := by
  obtain ⟨_, _, rfl, rfl, ⟨A1, c1, rfl, l1, g1⟩⟩ := h
  exact ⟨A1, c1, rfl, l1, g1⟩
theorem k50_openM {w : World} {base : Nat} {ok : Nat → Prop} {x : S50} {cs : List Value} (h : k50.M w base ok x cs) : ∃ v1, cs = [.int .i64 x.f0, v1] ∧ (Kd.int .u8).R 5 w base ok v1 x.f1 := by
  obtain ⟨_, _, rfl, rfl, ⟨v1, rfl, g1⟩⟩ := h
  exact ⟨v1, rfl, g1⟩
theorem k50_mk (w : World) (x : S50) {A1 : Option Addr} {c1 : Nat} (l1 : x.f1.length ≤ c1) (g1 : (Kd.int .u8).C w A1 x.f1.length x.f1) : k50.K w x [.int .i64 x.f0, .slice A1 x.f1.length c1] := ⟨[.int .i64 x.f0], [.slice A1 x.f1.length c1], rfl, rfl, ⟨A1, c1, rfl, l1, g1⟩⟩
theorem k50_mkM (w : World) (base : Nat) (ok : Nat → Prop) (x : S50) {v1 : Value} (g1 : (Kd.int .u8).R 5 w base ok v1 x.f1) : k50.M w base ok x [.int .i64 x.f0, v1] := ⟨[.int .i64 x.f0], [v1], rfl, rfl, ⟨v1, rfl, g1⟩⟩
theorem k50_openF {W : World} {ok : Nat → Prop} {x : S50} {cs : List Value} (h : Kd.FK k50 W ok x cs) : ∃ A1 c1, cs = [.int .i64 x.f0, .slice A1 x.f1.length c1] ∧ x.f1.length ≤ c1 ∧ Kd.F (Kd.int .u8) W ok A1 x.f1.length x.f1 := by
  obtain ⟨A1, c1, rfl, l1, _⟩ := k50_open (Kd.FK_now h)
  exact ⟨A1, c1, rfl, l1, (fun W' hW => by obtain ⟨A1_, c1_, he, l1_, g1_⟩ := k50_open (h W' hW); injection (Option.some.inj (show some (Value.slice A1 x.f1.length c1) = some (Value.slice A1_ x.f1.length c1_) from congrArg (fun l => l[1]?) he)) with ha_ _ _; rw [ha_]; exact g1_)⟩
theorem k50_mkF (W : World) (ok : Nat → Prop) (x : S50) {A1 : Option Addr} {c1 : Nat} (l1 : x.f1.length ≤ c1) (g1 : Kd.F (Kd.int .u8) W ok A1 x.f1.length x.f1) : Kd.FK k50 W ok x [.int .i64 x.f0, .slice A1 x.f1.length c1] := fun W2 hW => k50_mk W2 x l1 (g1 W2 hW)
def rd_T50 (xs : List S50) (i : Int) : S50 := xs.getD i.toNat z50
theorem at_T50 {w : World} {A : Option Addr} {n : Nat} {xs : List S50} (h : Kd.C k50 w A n xs) (i : Int) (h0 : 0 ≤ i) (h1 : i < n) : ∃ ad A1 c1, A = some ad ∧ w.cell? (ad.add (i.toNat * 2)) = some (.int .i64 (rd_T50 xs i).f0) ∧ w.cell? ⟨(ad.add (i.toNat * 2)).block, (ad.add (i.toNat * 2)).off + 1, none⟩ = some (.slice A1 (rd_T50 xs i).f1.length c1) ∧ (rd_T50 xs i).f1.length ≤ c1 ∧ (Kd.int .u8).C w A1 (rd_T50 xs i).f1.length (rd_T50 xs i).f1 := by
  obtain ⟨ad, c, e, _, hK, hc0⟩ := Kd.C_get h z50 i h0 h1
  have hc : ∀ j u, c[j]? = some u → w.cell? (ad.add (i.toNat * 2 + j)) = some u := hc0
  obtain ⟨A1, c1, rfl, l1, g1⟩ := k50_open hK
  exact ⟨ad, A1, c1, e, hc 0 _ rfl, by rw [← add_field _ _ 1 (by omega)]; exact hc 1 _ rfl, l1, g1⟩


/-- What one entry makes, behind those before it. -/
def stepO (acc : List S50) (e : S39) : Option S50 :=
  if 1 ≤ e.f0 ∧ e.f0 ≤ 4 then (if e.f1.length > 1000000 then none else some ⟨e.f0, e.f1⟩)
  else if e.f0 = 6 ∨ e.f0 = 7 then
    (if e.f2 < 0 ∨ (acc.length : Int) ≤ e.f2 then none
     else if (rd_T50 acc e.f2).f1.length = 0 then none
     else if goodS e.f3 (rd_T50 acc e.f2).f1 = false then none
     else if (madeL (rd_T50 acc e.f2).f1 e.f3).length > 1000000 then none
     else some ⟨(rd_T50 acc e.f2).f0, madeL (rd_T50 acc e.f2).f1 e.f3⟩)
  else none
def objsFrom : List S50 → List S39 → Option (List S50)
  | acc, [] => some acc
  | acc, e :: r => match stepO acc e with
    | none => none
    | some o => objsFrom (acc ++ [o]) r
theorem objs_none {acc : List S50} {e : S39} {r : List S39} (h : stepO acc e = none) : objsFrom acc (e :: r) = none := by simp [objsFrom, h]
theorem objs_some {acc : List S50} {e : S39} {r : List S39} {o : S50} (h : stepO acc e = some o) : objsFrom acc (e :: r) = objsFrom (acc ++ [o]) r := by simp [objsFrom, h]
theorem rd_drop39 (xs : List S39) (i : Nat) (hi : i < xs.length) : xs.drop i = rd_T39 xs i :: xs.drop (i + 1) := by
  unfold rd_T39
  rw [List.getD_eq_getElem?_getD, Int.toNat_natCast, List.getElem?_eq_getElem hi]
  exact List.drop_eq_getElem_cons hi
/-- Kinds from 1 to 4, and no more than a million bytes. -/
def okO (o : S50) : Prop := 1 ≤ o.f0 ∧ o.f0 ≤ 4 ∧ o.f1.length ≤ 1000000
theorem rd50_mem (xs : List S50) (i : Int) (h0 : 0 ≤ i) (h1 : i < xs.length) : rd_T50 xs i ∈ xs := by
  unfold rd_T50
  rw [List.getD_eq_getElem?_getD, List.getElem?_eq_getElem (by omega)]
  exact List.getElem_mem _
theorem stepO_ok {acc : List S50} {e : S39} {o : S50} (ha : ∀ x ∈ acc, okO x) (h : stepO acc e = some o) : okO o := by
  unfold stepO at h
  split at h
  · rename_i hk
    split at h
    · cases h
    · cases h
      exact ⟨hk.1, hk.2, by simp only []; omega⟩
  · split at h
    · split at h
      · cases h
      · rename_i hb
        split at h
        · cases h
        · split at h
          · cases h
          · split at h
            · cases h
            · cases h
              have := ha _ (rd50_mem acc e.f2 (by omega) (by omega))
              exact ⟨this.1, this.2.1, by simp only []; omega⟩
    · cases h
theorem objs_ok : ∀ (r : List S39) (acc os : List S50), (∀ x ∈ acc, okO x) → objsFrom acc r = some os → (∀ x ∈ os, okO x) ∧ os.length = acc.length + r.length
  | [], acc, os, ha, h => by
    simp only [objsFrom] at h
    cases h
    exact ⟨ha, by simp⟩
  | e :: r, acc, os, ha, h => by
    cases hs : stepO acc e with
    | none => rw [objs_none hs] at h; cases h
    | some o =>
      rw [objs_some hs] at h
      have := objs_ok r (acc ++ [o]) os (fun x hx => by
        rcases List.mem_append.1 hx with hx | hx
        · exact ha x hx
        · simp only [List.mem_singleton] at hx
          subst hx
          exact stepO_ok ha hs) h
      exact ⟨this.1, by have := this.2; simp at this ⊢; omega⟩
end Go.Proofs.YtohdpnoinfnmiaaGreatDoor
