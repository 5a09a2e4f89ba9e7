/- laws.FnPackOther: the walk. -/
import Derived.Test.YtohdpnoinfnmiaaGreatDoorA2
import Derived.Test.YtohdpnoinfnmiaaGreatDoorA3
import Derived.Test.YtohdpnoinfnmiaaGreatDoorV37
import Derived.Test.YtohdpnoinfnmiaaGreatDoorV38
namespace Go.Proofs.YtohdpnoinfnmiaaGreatDoor
open Go.RowKit U
open Go.Proofs.YtohdpnoinfnmiaaGreatDoorW.PrintWords (Aside0 Kd nums Drawn0 ReadsInt nums_append below_then pw_below_drewN below_alloc add_plain own_nil)
open Go.Proofs.YtohdpnoinfnmiaaGreatDoorW.PrintMore
open PFnPackOther
/-- What the package's variables hold. -/
structure Vars (w : World) (t o cap t' o' cap' : Nat) (a0 a2 a3 a4 a8 : Addr) : Prop where
  T : Tabs w t o cap t' o' cap'
  e0 : Er w 0 a0
  e2 : Er w 2 a2
  e3 : Er w 3 a3
  e4 : Er w 4 a4
  e8 : Er w 8 a8
theorem Vars.upd {w w' : World} {t o cap t' o' cap' : Nat} {a0 a2 a3 a4 a8 : Addr} (h : Vars w t o cap t' o' cap' a0 a2 a3 a4 a8) (u : Upd [] w w') : Vars w' t o cap t' o' cap' a0 a2 a3 a4 a8 :=
  ⟨h.T.upd u (by simp) (by simp) (by simp) (by simp), h.e0.upd u (by simp) (by simp), h.e2.upd u (by simp) (by simp), h.e3.upd u (by simp) (by simp), h.e4.upd u (by simp) (by simp), h.e8.upd u (by simp) (by simp)⟩
theorem idx8 (pl : Int) : ∃ i : Nat, i < 8 ∧ (wrap64 (pl.tmod 8 + 8)).tmod 8 = (i : Int) := by
  have h1 : -8 < pl.tmod 8 := by
    have := Int.lt_tmod_of_pos pl (b := 8) (by omega)
    omega
  have h2 := Int.tmod_lt_of_pos pl (b := 8) (by omega)
  have hw : wrap64 (pl.tmod 8 + 8) = pl.tmod 8 + 8 := by unfold wrap64; omega
  rw [hw, Int.tmod_eq_emod_of_nonneg (by omega)]
  exact ⟨((pl.tmod 8 + 8) % 8).toNat, by omega, by omega⟩
theorem f8_n (A : Option Addr) (n c0 : Nat) (bs : List Int) (w : World) (a2 a3 : Addr) (h2 : Er w 2 a2) (h3 : Er w 3 a3) (hlm : n < 140737488355328) (hc0 : n ≤ c0) (hn : bs.length = n) (hC : Kd.C (Kd.int .u8) w A bs.length bs) (hbad : BadHead bs) :
    Calls Tryz.prog 8 #[.slice A n c0] w fun e w' => e = .returned (.tuple #[.int .u32 0, .int .u32 0, .slice none 0 0, .string ⟨#[]⟩, .bool false]) ∧ Upd [] w w' := by
  subst hn
  exact f8_bad A c0 bs w 272 272 _ _ h2.cell h3.cell hlm hc0 hC hbad
theorem f9_n (A : Option Addr) (n c0 : Nat) (bs : List Int) (w : World) (a0 a2 a3 a4 a8 : Addr) (h0 : Er w 0 a0) (h2 : Er w 2 a2) (h3 : Er w 3 a3) (h4 : Er w 4 a4) (h8 : Er w 8 a8) (hlm : n < 140737488355328) (hc0 : n ≤ c0) (hn : bs.length = n) (hC : Kd.C (Kd.int .u8) w A bs.length bs) (hbad : BadHead bs) :
    Calls Tryz.prog 9 #[.slice A n c0] w fun e w' => e = .returned (.tuple #[.slice none 0 0, .string ⟨#[]⟩, .bool false]) ∧ Upd [] w w' := by
  subst hn
  exact f9_bad A c0 bs w a0 a2 a3 a4 a8 h0 h2 h3 h4 h8 hlm hc0 hC hbad
theorem f4_any (A0 : Option Addr) (c0 : Nat) (l0 : List S39) (w : World) (hr0 : Kd.C k39 w A0 l0.length l0) (hc0 : l0.length ≤ c0) :
    Calls Tryz.prog 4 #[.slice A0 l0.length c0] w fun e w' => ∃ b : Bool, e = .returned (.bool b) ∧ Upd [] w w' ∧ (b = true → l0.length ≤ 2147483647) := by
  have hf : ∀ e ∈ l0, e.f3.length ≤ 9223372036854775807 := by
    intro e he
    obtain ⟨i, hi, rfl⟩ := List.getElem_of_mem he
    obtain ⟨ad, A1, c1, A3, c3, _, _, _, _, _, _, _, _, g3⟩ := at_T39 hr0 (i : Int) (by omega) (by omega)
    have h1 := Kd.C_max g3
    have h2 : rd_T39 l0 (i : Int) = l0[i] := by
      unfold rd_T39
      rw [List.getD_eq_getElem?_getD, Int.toNat_natCast, List.getElem?_eq_getElem hi]
      rfl
    rwa [h2] at h1
  obtain ⟨b, k, hk, hb⟩ := fits25_ev l0 (Kd.C_max hr0) hf
  exact (laws_zzFits25.calls k A0 c0 l0 b w hr0 hc0 hk).mono fun _ _ h => ⟨b, h.1, .of_below h.2 [], hb⟩
set_option maxHeartbeats 8000000 in
set_option maxRecDepth 100000 in
theorem f3_any (A0 : Option Addr) (c0 : Nat) (l0 : List S39) (pl y : Int) (w : World) (t o cap t' o' cap' : Nat) (a0 a2 a3 a4 a8 : Addr) (hr0 : Kd.C k39 w A0 l0.length l0) (hc0 : l0.length ≤ c0) (hy0 : 0 ≤ y) (hy1 : y ≤ 255) (hV : Vars w t o cap t' o' cap' a0 a2 a3 a4 a8) :
    Calls Tryz.prog 3 #[.slice A0 l0.length c0, .int .i64 pl, .int .u8 y] w fun e w' => e = .returned (.bool true) ∧ Upd [] w w' := by
  have HR0 := Aside0.mk hr0
  have HC0 := Aside0.mk hc0
  have HY := Aside0.mk (And.intro hy0 hy1)
  have HV := Aside0.mk hV
  clear hr0 hc0 hV hy0 hy1
  go_enter Tryz.func3, Tryz.ntmps3
  go_wp2_with (go_at_call 4; refine Held1.out ?_)
  refine Held1.mk ?_
  refine (f4_any A0 c0 l0 w HR0.out HC0.out).mono ?_
  rintro e w1 ⟨b, rfl, U1, hb⟩
  have HU1 := Aside0.mk U1
  have HB1 := Aside0.mk hb
  clear U1 hb
  cases b
  · go_wp2
    go_ret
    exact ⟨rfl, HU1.out⟩
  · go_wp2_with (go_at_call 5; refine Held1.out ?_)
    refine Held1.mk ?_
    refine (f5_any A0 c0 l0 w1 (Kd.C_below HR0.out HU1.out.to_below) (HB1.out trivial)).mono ?_
    rintro e w2 ⟨b, rfl, U2, hb⟩
    have HU2 := Aside0.mk (HU1.out.trans U2)
    have HB2 := Aside0.mk hb
    clear U2 hb HU1 HB1
    cases b
    · go_wp2_with (go_at_call 6; refine (f6_works t o cap t' o' cap' _ (HV.out.upd HU2.out).T).mono ?_; rintro e w3 ⟨rfl, U3⟩; have U3 := Aside0.mk U3)
      go_ret
      exact ⟨rfl, HU2.out.trans U3.out⟩
    · by_cases hy : y = 0
      · have hy' : (y == 0) = true := by simp [hy]
        clear hy
        go_wp2_with (go_at_call 6; refine (f6_works t o cap t' o' cap' _ (HV.out.upd HU2.out).T).mono ?_; rintro e w3 ⟨rfl, U3⟩; have U3 := Aside0.mk U3)
        go_ret
        exact ⟨rfl, HU2.out.trans U3.out⟩
      · have hy' : (y == 0) = false := by simp [hy]
        have HYN := Aside0.mk hy
        obtain ⟨hl40, os, hos⟩ := HB2.out rfl
        have HL40 := Aside0.mk hl40
        have HOS := Aside0.mk hos
        clear hy hl40 hos HB2
        go_wp2_with (go_at_call 7; refine Held1.out ?_)
        refine Held1.mk ?_
        refine (f7_any A0 c0 l0 os w2 (Kd.C_below HR0.out HU2.out.to_below) HL40.out HOS.out).mono ?_
        rintro e w3 ⟨g, cp, bs, pls, rfl, hO, hH⟩
        have HO := Aside0.mk hO
        have HH := Aside0.mk hH
        have HU3 := Aside0.mk (HU2.out.trans hO.upd)
        obtain ⟨⟨r, hr⟩, hlen⟩ := hH
        obtain ⟨i, hi8, hidx⟩ := idx8 pl
        have hb8 : 8 ≤ bs.length := by rw [hr]; simp
        obtain ⟨x, hx⟩ : ∃ x, bs[i]? = some x := ⟨_, List.getElem?_eq_getElem (by omega)⟩
        have hcell := hO.row.cells i (.int .u8 x) (by simp [nums, hx])
        have hfree := (hO.row.spare i (by have h1 := hO.row.le; simp [nums] at h1; omega)).2
        have hbad := bad_of r i hi8 y HY.out.1 HY.out.2 HYN.out
        have hgx : (80 :: 65 :: 67 :: 75 :: 0 :: 0 :: 0 :: 2 :: r : List Int).getD i 0 = x := by rw [List.getD_eq_getElem?_getD, ← hr, hx]; rfl
        rw [hgx, ← hr] at hbad
        have hrow := hO.row.set (i := i) (by simp [nums]; omega) (.int .u8 (xb x y))
        have hns : (nums .u8 bs).set i (.int .u8 (xb x y)) = nums .u8 (bs.set i (xb x y)) := by simp [nums, List.map_set]
        rw [hns] at hrow
        have hC5 := hrow.C (by simp; omega)
        have uS : Upd [g] w3 (w3.setCell ⟨g, i, none⟩ (.int .u8 (xb x y))) := (Upd.refl _ _).setCell (.inl (by simp)) _
        have HU4 := Aside0.mk (HU2.out.trans (hO.upd.andThen uS (fun z hz => .inr (by simp at hz; subst hz; exact hO.new))))
        have HC5 := Aside0.mk hC5
        have HBAD := Aside0.mk hbad
        have HCP := Aside0.mk (show bs.length ≤ cp ∧ bs.length ≤ 1000000000 from ⟨by have h1 := hO.row.le; simpa [nums] using h1, hlen⟩)
        have hib : (i : Int) < (bs.length : Int) := by omega
        have hS5 : (bs.set i (xb x y)).length = bs.length := by simp
        have HS5 := Aside0.mk hS5
        clear hr hlen hi8 hx hbad hgx hrow hns hC5 uS hb8 hO HU2 HU3 hS5
        have hxb : bits .xor .u8 x y = xb x y := rfl
        by_cases h7 : i = 7
        · subst h7
          by_cases h3 : xb x y = 3
          · have h3' : (xb x y == 3) = true := by simp [h3]
            clear h3
            go_wp2_with (go_at_call 6; refine (f6_works t o cap t' o' cap' _ (HV.out.upd HU4.out).T).mono ?_; rintro e w5 ⟨rfl, U5⟩; have U5 := Aside0.mk U5)
            go_ret
            exact ⟨rfl, HU4.out.trans U5.out⟩
          · have h3' : (xb x y == 3) = false := by simp [h3]
            clear h3
            go_wp2_with (go_at_call 8; refine Held1.out ?_)
            refine Held1.mk ?_
            refine (f8_n _ bs.length cp _ _ a2 a3 (HV.out.upd HU4.out).e2 (HV.out.upd HU4.out).e3 (by have := HCP.out; omega) HCP.out.1 HS5.out HC5.out HBAD.out).mono ?_
            rintro e w5 ⟨rfl, U5⟩
            have HU5 := Aside0.mk (HU4.out.trans U5)
            have HC6 := Aside0.mk (Kd.C_below HC5.out U5.to_below)
            clear U5
            go_wp2_with (go_at_call 9; refine Held1.out ?_)
            refine Held1.mk ?_
            refine (f9_n _ bs.length cp _ _ a0 a2 a3 a4 a8 (HV.out.upd HU5.out).e0 (HV.out.upd HU5.out).e2 (HV.out.upd HU5.out).e3 (HV.out.upd HU5.out).e4 (HV.out.upd HU5.out).e8 (by have := HCP.out; omega) HCP.out.1 HS5.out HC6.out HBAD.out).mono ?_
            rintro e w6 ⟨rfl, U6⟩
            have HU6 := Aside0.mk (HU5.out.trans U6)
            clear U6
            go_wp2_with (go_at_call 6; refine (f6_works t o cap t' o' cap' _ (HV.out.upd HU6.out).T).mono ?_; rintro e w7 ⟨rfl, U7⟩; have U7 := Aside0.mk U7)
            go_ret
            exact ⟨rfl, HU6.out.trans U7.out⟩
        · have h7' : ((i : Int) == 7) = false := beq_eq_false_iff_ne.mpr (by omega)
          clear h7
          go_wp2_with (go_at_call 8; refine Held1.out ?_)
          refine Held1.mk ?_
          refine (f8_n _ bs.length cp _ _ a2 a3 (HV.out.upd HU4.out).e2 (HV.out.upd HU4.out).e3 (by have := HCP.out; omega) HCP.out.1 HS5.out HC5.out HBAD.out).mono ?_
          rintro e w5 ⟨rfl, U5⟩
          have HU5 := Aside0.mk (HU4.out.trans U5)
          have HC6 := Aside0.mk (Kd.C_below HC5.out U5.to_below)
          clear U5
          go_wp2_with (go_at_call 9; refine Held1.out ?_)
          refine Held1.mk ?_
          refine (f9_n _ bs.length cp _ _ a0 a2 a3 a4 a8 (HV.out.upd HU5.out).e0 (HV.out.upd HU5.out).e2 (HV.out.upd HU5.out).e3 (HV.out.upd HU5.out).e4 (HV.out.upd HU5.out).e8 (by have := HCP.out; omega) HCP.out.1 HS5.out HC6.out HBAD.out).mono ?_
          rintro e w6 ⟨rfl, U6⟩
          have HU6 := Aside0.mk (HU5.out.trans U6)
          clear U6
          go_wp2_with (go_at_call 6; refine (f6_works t o cap t' o' cap' _ (HV.out.upd HU6.out).T).mono ?_; rintro e w7 ⟨rfl, U7⟩; have U7 := Aside0.mk U7)
          go_ret
          exact ⟨rfl, HU6.out.trans U7.out⟩
end Go.Proofs.YtohdpnoinfnmiaaGreatDoor
