/- laws.packApart ends. -/
import Derived.Test.YtohdpnoinfnmiaaGreatDoorV32
import Derived.Maps.OwnSet
namespace Go.Proofs.YtohdpnoinfnmiaaGreatDoor
open Go.RowKit U
open Go.Maps
open Go.Proofs.YtohdpnoinfnmiaaGreatDoorW.PrintWords (Aside0 Kd nums Drawn0 ReadsInt nums_append below_then pw_below_drewN below_alloc add_plain)
open Go.Proofs.YtohdpnoinfnmiaaGreatDoorW.PrintMore
open PFnPackOther
theorem f37_any (A0 : Option Addr) (n0 c0 : Nat) (l0 : List Int) (A1 : Option Addr) (n1 c1 : Nat) (l1 : List Int) (w : World) (hr0 : Kd.C (Kd.int .u8) w A0 n0 l0) (hc0 : n0 ≤ c0) (hr1 : Kd.C (Kd.int .u8) w A1 n1 l1) (hc1 : n1 ≤ c1) :
    Calls Tryz.prog 37 #[.slice A0 n0 c0, .slice A1 n1 c1] w fun e w' => ∃ b, e = .returned (.bool b) ∧ Upd [] w w' := by
  obtain rfl : l0.length = n0 := hr0.1
  obtain rfl : l1.length = n1 := hr1.1
  refine (laws_deltaSame.calls A0 c0 l0 A1 c1 l1 _ w hr0 hc0 hr1 hc1 rfl).mono ?_
  rintro e w' ⟨rfl, m, rfl⟩
  exact ⟨_, rfl, (Upd.refl _ _).drewN _⟩
/-- An object's value, its content readable. -/
def GoodV (w : World) (v : Value) : Prop := ∃ kd A n c xs, v = .agg #[.int .i64 kd, .slice A n c] ∧ n ≤ c ∧ Kd.C (Kd.int .u8) w A n xs
open Classical in
/-- How the map's elements read. -/
noncomputable def gR (w : World) (v : Value) : Option (DataW Unit × List MemPlace) := if GoodV w v then some (.agg [], []) else none
theorem gR_some {w : World} {v : Value} (h : GoodV w v) : gR w v = some (.agg [], []) := by simp [gR, h]
theorem gR_inv {w : World} {v : Value} {z : DataW Unit × List MemPlace} (h : gR w v = some z) : GoodV w v := by
  unfold gR at h
  split at h
  · assumption
  · cases h
theorem goodV_zero (w : World) : GoodV w (.agg #[.int .i64 0, .slice none 0 0]) := ⟨0, none, 0, 0, [], rfl, Nat.le_refl _, rfl, by omega, fun h => by omega⟩
theorem zero50 (w : World) : (zeroValue 50).run Tryz.prog w = .ok (.agg #[.int .i64 0, .slice none 0 0]) w := by kernel_rfl
theorem map_upd0 {w w' : World} {b n : Nat} {w0 : World} {D : DataW Unit} (h : w.ownsMap Tryz.prog 9 (gR w0) b n D) (u : Upd [] w w') : w'.ownsMap Tryz.prog 9 (gR w0) b n D := h.kept (row := none) ⟨u.os, u.tape, u.output, u.size, fun i hi _ => u.block i hi (by simp)⟩ (by simp)
theorem law9 : Keyed Tryz.prog 9 := string_keyed Tryz.underlying9
set_option maxHeartbeats 16000000 in
set_option maxRecDepth 100000 in
theorem f12_any (A0 : Option Addr) (c0 : Nat) (l0 : List S50) (w : World) (hr0 : Kd.C k50 w A0 l0.length l0) (hl0 : l0.length ≤ 40) (hok : ∀ x ∈ l0, okO x) :
    Calls Tryz.prog 12 #[.slice A0 l0.length c0] w fun e w' => ∃ b, e = .returned (.bool b) ∧ Upd [] w w' := by
  have HR0 := Aside0.mk hr0
  have HL := Aside0.mk hl0
  have HOK := Aside0.mk hok
  have hl1 : (l0.length : Int) ≤ 40 := by omega
  clear hr0 hl0 hok
  have hmm := @run_makeMap Tryz.prog
  go_enter Tryz.func12, Tryz.ntmps12
  go_wp2
  go_loopw [12] (fun v12 wr => ∃ (k : Nat) (D : DataW Unit), v12 = .int .i64 k ∧ k ≤ l0.length ∧ Aside0 (wr.ownsMap Tryz.prog 9 (gR w) w.heap.size k D) ∧ Aside0 (Upd [] w wr)) (fun v12 _ => l0.length - (intOf v12).toNat)
  case atStart => exact ⟨0, _, rfl, by omega, ⟨World.ownsMap_made _ _ _ _⟩, ⟨(Upd.refl [] w).alloc _⟩⟩
  case round =>
    obtain ⟨k, D, rfl, hk, HM, HU⟩ := hrel
    by_cases hkl : (k : Int) < (l0.length : Int)
    · obtain ⟨ad, A1, c1, e, q0, q1, l1, g1⟩ := at_T50 HR0.out (k : Int) (by omega) hkl
      cases e
      have hob := HOK.out _ (rd50_mem l0 (k : Int) (by omega) hkl)
      simp only [Int.toNat_natCast] at q0 q1
      obtain ⟨ob, hobq⟩ : ∃ ob, ob = rd_T50 l0 (k : Int) := ⟨_, rfl⟩
      rw [← hobq] at q0 q1 l1 g1 hob
      replace q0 := (HU.out.to_below.cell (World.block_lt_of_cell? w _ q0)).trans q0
      replace q1 := (HU.out.to_below.cell (World.block_lt_of_cell? w _ q1)).trans q1
      have HG := Aside0.mk g1
      have HO := Aside0.mk hob
      have L1 := Aside0.mk l1
      have NV := Aside0.mk (show GoodV w (.agg #[.int .i64 ob.f0, .slice A1 ob.f1.length c1]) from ⟨_, _, _, _, ob.f1, rfl, l1, g1⟩)
      clear g1 hob l1 hobq
      go_wp2_with (first
        | (go_at_call 36; refine (f36_any ob.f0 A1 c1 ob.f1 _ HO.out.1 HO.out.2.1 (Kd.C_below HG.out (HU.out.alloc (.cells #[.int .i64 ob.f0, .slice A1 ob.f1.length c1] 50)).to_below) (by have := HO.out.2.2; omega)).mono ?_; rintro e w2 ⟨s, rfl, hs, U2⟩; have HS := Aside0.mk hs; have U2 := Aside0.mk U2)
        | (at_lookup; refine Held1.out ?_))
      refine Held1.mk ?_
      have uE := (Upd.refl [] wr).alloc (.cells #[.int .i64 ob.f0, .slice A1 ob.f1.length c1] 50)
      have hM2 := map_upd0 (map_upd0 HM.out uE) U2.out
      have hE := U2.out.keep (U.blk_new wr (.cells #[.int .i64 ob.f0, .slice A1 ob.f1.length c1] 50)) (by simp)
      have hU3 := (HU.out.trans uE).trans U2.out
      have HM2 := Aside0.mk hM2
      have HU3 := Aside0.mk hU3
      have HE := Aside0.mk hE
      clear uE hM2 hE hU3 HM U2 q0 q1
      refine wpList_lookup_own_ok w2 rfl _ _ 98 rfl 9 50 law9 Tryz.underlying98 (gR w) (zero50 w2) (.agg []) [] (gR_some (goodV_zero w)) w.heap.size k D rfl HM2.out (.string s) _ rfl (Go.WideMaps.keyOf_string_mk Tryz.underlying9 (by have := HS.out; simp only [maxLen]; omega)) ?_
      intro v ps hv
      obtain ⟨kd2, A2, n2, c2, xs2, rfl, l2, g2⟩ := gR_inv hv
      clear hv
      have G2 := Aside0.mk g2
      have L2 := Aside0.mk l2
      have c6 := blk_cells (U.blk_old HE.out (.cells #[.int .i64 kd2, .slice A2 n2 c2] 50))
      clear g2 l2
      generalize Maps.has D (.string s.data.toList) = bh
      cases bh
      · go_wp2_with (at_mapUpdate; refine Held1.out ?_)
        refine Held1.mk ?_
        have hM3 := map_upd0 HM2.out ((Upd.refl [] w2).alloc (.cells #[.int .i64 kd2, .slice A2 n2 c2] 50))
        refine wpList_mapUpdate_own _ rfl _ _ _ 98 rfl 9 50 law9 Tryz.underlying98 (gR w) w.heap.size k D rfl hM3 (by simp only [maxLen]; omega) (.string s) (.agg #[.int .i64 ob.f0, .slice A1 ob.f1.length c1]) _ rfl rfl (Go.WideMaps.keyOf_string_mk Tryz.underlying9 (by have := HS.out; simp only [maxLen]; omega)) (.agg []) [] (gR_some NV.out) ?_
        intro w5 hM5 hg5
        have HM5 := Aside0.mk hM5
        have HU5 := Aside0.mk (((HU3.out.alloc (.cells #[.int .i64 kd2, .slice A2 n2 c2] 50)).grown hg5 (fun j hj => by cases hj; exact .inr (Nat.le_refl _))))
        clear hM5 hM3 hg5 c6
        go_wp2
        exact ⟨⟨k + 1, _, by simp, by omega, HM5, HU5⟩, by simp [intOf]; omega⟩
      · by_cases hkd : kd2 = ob.f0
        · subst hkd
          go_wp2_with (go_at_call 37; refine Held1.out ?_)
          refine Held1.mk ?_
          refine (f37_any A2 n2 c2 xs2 A1 ob.f1.length c1 ob.f1 _ (Kd.C_below G2.out (HU3.out.alloc (.cells #[.int .i64 ob.f0, .slice A2 n2 c2] 50)).to_below) L2.out (Kd.C_below HG.out (HU3.out.alloc (.cells #[.int .i64 ob.f0, .slice A2 n2 c2] 50)).to_below) L1.out).mono ?_
          rintro e w6 ⟨b6, rfl, U6⟩
          have c7 := blk_cells (U6.keep (U.blk_old HE.out (.cells #[.int .i64 ob.f0, .slice A2 n2 c2] 50)) (by simp))
          have hM3 := map_upd0 HM2.out (((Upd.refl [] w2).alloc (.cells #[.int .i64 ob.f0, .slice A2 n2 c2] 50)).trans U6)
          have HM3 := Aside0.mk hM3
          have HU6 := Aside0.mk ((HU3.out.alloc (.cells #[.int .i64 ob.f0, .slice A2 n2 c2] 50)).trans U6)
          clear c6 hM3 U6
          cases b6
          · go_wp2
            go_ret
            exact ⟨false, rfl, HU6.out⟩
          · go_wp2_with (at_mapUpdate; refine Held1.out ?_)
            refine Held1.mk ?_
            refine wpList_mapUpdate_own _ rfl _ _ _ 98 rfl 9 50 law9 Tryz.underlying98 (gR w) w.heap.size k D rfl HM3.out (by simp only [maxLen]; omega) (.string s) (.agg #[.int .i64 ob.f0, .slice A1 ob.f1.length c1]) _ rfl rfl (Go.WideMaps.keyOf_string_mk Tryz.underlying9 (by have := HS.out; simp only [maxLen]; omega)) (.agg []) [] (gR_some NV.out) ?_
            intro w5 hM5 hg5
            have HM5 := Aside0.mk hM5
            have HU5 := Aside0.mk ((HU6.out.grown hg5 (fun j hj => by cases hj; exact .inr (Nat.le_refl _))))
            clear hM5 hg5 c7
            go_wp2
            exact ⟨⟨k + 1, _, by simp, by omega, HM5, HU5⟩, by simp [intOf]; omega⟩
        · go_wp2
          go_ret
          exact ⟨false, rfl, HU3.out.alloc _⟩
    · go_wp2
      go_ret
      exact ⟨.inr rfl, HU.out⟩
end Go.Proofs.YtohdpnoinfnmiaaGreatDoor
