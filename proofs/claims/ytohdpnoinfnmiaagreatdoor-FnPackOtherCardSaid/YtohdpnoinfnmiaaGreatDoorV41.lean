/- The listed variables: what they hold. -/
import Derived.Test.YtohdpnoinfnmiaaGreatDoorV39
import Derived.Deep.Slices
import Derived.Deep.SlicePairs
import Derived.LaidSub
import Derived.MakeChecks
import Derived.Stop.LaidErr
namespace Go.Proofs.YtohdpnoinfnmiaaGreatDoor
open Go.RowKit U Go.Deep
theorem es_star : "*" ++ "errors.errorString" = "*errors.errorString" := by decide
theorem err_of {P : Program} {n nm : String} {text : List UInt8} {W : World} {g : Nat} {ti tp te ts : TypeId} {ms : Array (String × TypeId)} {f : Field}
    (h : laidMet P [(n, .iface nm (.ptr (.agg [.lit (.string text)])))] W)
    (hg : P.globalNamed n = some g) (ht : (P.globals[g]?).map (·.type) = some ti) (hi : P.underlying ti = some (.interface ms)) (hrow : ∀ u, P.typeName? 3 u = some nm → u = tp)
    (hp : P.underlying tp = some (.pointer te)) (he : P.underlying te = some (.struct #[f])) (hft : f.type = ts) (hfo : f.offset = 0) (hs : P.underlying ts = some .string) (hc : P.cellsOf te = 1) (hcs : P.cellsOf ts = 1) :
    ∃ a : Addr, W.cell? ⟨g, 0, none⟩ = some (.iface tp (.pointer (some a))) ∧ ∃ c t, W.heap[a.block]? = some (.cells c t (0, 0)) := by
  obtain ⟨ps, ⟨g0, t0, cs0, f0, p0, q0, hg0, ht0, hv0, hd0, _, e0⟩, _, hrows⟩ := h
  obtain rfl := Option.some.inj (hg.symm.trans hg0)
  obtain rfl := Option.some.inj (ht.symm.trans ht0)
  subst e0
  obtain ⟨l0⟩ := cs0
  have ok0 : ∀ u v, l0 = [.iface u v] → Value.okWide P W .any 0 u v := fun u v e => by
    subst e
    exact (hrows g 0 (by simp [MemPlace.row])).2 u v (by simpa using World.var?_cell hg hv0 0)
  obtain ⟨a0, s0, rfl, hc0, hs0, hz0, hp0⟩ := errorString_of_trod hi hrow hp he hft hfo hs hc hcs hd0 ok0
  subst hp0
  exact ⟨a0, by simpa using World.var?_cell hg hv0 0, (hrows a0.block a0.off (by simp [MemPlace.row])).1⟩
theorem row272 (u : TypeId) (h : Tryz.prog.typeName? 3 u = some "*errors.errorString") : u = 272 :=
  typeName_ptr_named (nm := "errors.errorString") (by rw [es_star]; kernel_rfl) (by kernel_rfl) (by decide) u (by rw [es_star]; exact h)
theorem cells274 : Tryz.prog.cellsOf 274 = 1 := by kernel_rfl
theorem cells9 : Tryz.prog.cellsOf 9 = 1 := by kernel_rfl
/-- A listed error. -/
theorem er_of {n : String} {text : List UInt8} {W : World} {g : Nat} (h : laidMet Tryz.prog [(n, .iface "*errors.errorString" (.ptr (.agg [.lit (.string text)])))] W)
    (hg : Tryz.prog.globalNamed n = some g) (ht : (Tryz.prog.globals[g]?).map (·.type) = some 64) : ∃ a, Er W g a := by
  obtain ⟨a, hc, hb⟩ := err_of h hg ht Tryz.underlying64 row272 Tryz.underlying272 Tryz.underlying274 rfl rfl Tryz.underlying9 cells274 cells9
  exact ⟨a, hc, hb⟩
theorem cells5' : Tryz.prog.cellsOf 5 = 1 := by kernel_rfl
theorem cells310 : Tryz.prog.cellsOf 310 = 2 := by kernel_rfl
theorem cells103 : Tryz.prog.cellsOf 103 = 1 := by kernel_rfl
theorem add_lit (b o n : Nat) : (⟨b, o, none⟩ : Addr).add n = ⟨b, o + n, none⟩ := by
  unfold Addr.add
  by_cases h : n = 0 <;> simp [h]
/-- One mask and one shift. -/
theorem pair_at {W : World} {b o n m : Nat} {x y : Int} {V0 V1 : Nat → Value} {D0 D1 : Nat → DataW Unit} {P0 P1 : Nat → List MemPlace} {sp : Nat → Bool} {t0 t1 : TypeId} (h0 : Tryz.prog.underlying t0 = some (.int .u8)) (h1 : Tryz.prog.underlying t1 = some (.int .u64))
    (hx : ∀ i, i < m → W.cell? ((⟨b, o, none⟩ : Addr).add (i * 2)) = some (V0 i) ∧ W.cell? ((⟨b, o, none⟩ : Addr).add (i * 2 + 1)) = some (V1 i) ∧
        DataW.trod (fun _ => ()) Tryz.prog W 0 sp false n t0 [V0 i] = some (D0 i, P0 i) ∧ DataW.trod (fun _ => ()) Tryz.prog W 0 sp false n t1 [V1 i] = some (D1 i, P1 i))
    (i : Nat) (hi : i < m) (hd : DataW.agg [D0 i, D1 i] = .agg [.lit (.int .u8 x), .lit (.int .u64 y)]) :
    W.cell? ⟨b, o + 2 * i, none⟩ = some (.int .u8 x) ∧ W.cell? ⟨b, o + (2 * i + 1), none⟩ = some (.int .u64 y) := by
  obtain ⟨c0, c1, r0, r1⟩ := hx i hi
  obtain ⟨n0, e0, x0, _⟩ := DataW.trod_int h0 r0
  obtain ⟨n1, e1, x1, _⟩ := DataW.trod_int h1 r1
  simp only [Prod.mk.injEq] at x0 x1
  rw [x0.1, x1.1] at hd
  simp only [DataW.agg.injEq, List.cons.injEq, DataW.lit.injEq, Lit.int.injEq, and_true, true_and] at hd
  obtain ⟨rfl, rfl⟩ := hd
  rw [List.cons.injEq] at e0 e1
  rw [e0.1] at c0
  rw [e1.1] at c1
  refine ⟨?_, ?_⟩
  · rw [add_lit] at c0
    rw [← c0, Nat.mul_comm]
  · rw [add_lit] at c1
    rw [← c1, Nat.mul_comm 2 i]
/-- A listed slice of masks and shifts. -/
theorem pairs_of {n : String} {xs : List (Int × Int)} {W : World} {g : Nat} (h : laidMet Tryz.prog [(n, .slice (xs.map fun z => .agg [.lit (.int .u8 z.1), .lit (.int .u64 z.2)]) [])] W) (hne : xs ≠ [])
    (hg : Tryz.prog.globalNamed n = some g) (ht : (Tryz.prog.globals[g]?).map (·.type) = some 308) :
    ∃ t o cap, W.cell? ⟨g, 0, none⟩ = some (.slice (some ⟨t, o, none⟩) xs.length cap) ∧ ∀ (i : Nat) z, xs[i]? = some z → W.cell? ⟨t, o + 2 * i, none⟩ = some (.int .u8 z.1) ∧ W.cell? ⟨t, o + (2 * i + 1), none⟩ = some (.int .u64 z.2) := by
  obtain ⟨ps, ⟨g0, t0, cs0, f0, p0, q0, hg0, ht0, hv0, hd0, _, e0⟩, _, _⟩ := h
  have eg : g0 = g := Option.some.inj (hg0.symm.trans hg)
  subst eg
  have et : t0 = 308 := Option.some.inj (ht0.symm.trans ht)
  subst et
  obtain ⟨l0⟩ := cs0
  rcases open_slice_pairs Tryz.underlying308 Tryz.underlying310 cells310 rfl rfl cells5' cells103 hd0 with ⟨_, hx⟩ | ⟨a, len, cap, m, k, V0, V1, D0, D1, P0, P1, hcs, _, hl, _, hm, hx, hi⟩
  · have := congrArg Prod.fst hx
    cases this
  · have hs := congrArg Prod.fst hx
    simp only [DataW.slice.injEq] at hs
    obtain ⟨hs, _⟩ := hs
    have hlen : xs.length = len := by simpa using congrArg List.length hs
    have hm' : m = cap := by simpa using hm
    have hcell0 := World.var?_cell hg hv0 0
    have hl0 : l0 = [.slice (some a) len cap] := hcs
    subst hl0
    have hpos : 0 < xs.length := List.length_pos_iff.2 hne
    have h0 := (hi 0 (by omega)).1
    have hsp : a.spot = none := by
      have := World.cell?_spot h0
      unfold Addr.add at this
      simpa using this
    obtain ⟨b, o, sp⟩ := a
    obtain rfl : sp = none := hsp
    refine ⟨b, o, cap, ?_, fun i z hz => ?_⟩
    · rw [hlen]; exact hcell0
    · have hil : i < xs.length := (List.getElem?_eq_some_iff.1 hz).1
      refine pair_at Tryz.underlying5 Tryz.underlying103 hi i (by omega) ?_
      have h3 := congrArg (fun l => l[i]?) hs
      simp only [List.getElem?_map, hz, Option.map_some, List.getElem?_range (show i < len by omega)] at h3
      exact (Option.some.inj h3).symm
end Go.Proofs.YtohdpnoinfnmiaaGreatDoor
