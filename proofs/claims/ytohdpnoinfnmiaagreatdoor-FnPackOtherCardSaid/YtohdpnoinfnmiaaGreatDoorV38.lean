/- spec.Pack: what it makes begins as a pack does. -/
import Derived.Test.YtohdpnoinfnmiaaGreatDoorV36
import Derived.Test.YtohdpnoinfnmiaaGreatDoorV25
import Derived.Lib.SlBytesConst
namespace Go.Proofs.YtohdpnoinfnmiaaGreatDoor
open Go.RowKit U
open Go.Proofs.YtohdpnoinfnmiaaGreatDoorW.PrintWords (Aside0 Kd nums Drawn0 ReadsInt nums_append below_then pw_below_drewN below_alloc add_plain own_nil own_ne)
open Go.Proofs.YtohdpnoinfnmiaaGreatDoorW.PrintMore
open PFnPackOther
/-- The head, and not too long. -/
def Hd (bs : List Int) (n : Nat) : Prop := (∃ r, bs = 80 :: 65 :: 67 :: 75 :: 0 :: 0 :: 0 :: 2 :: r) ∧ bs.length ≤ n
theorem Hd.app {bs ys : List Int} {n m : Nat} (h : Hd bs n) (hm : ys.length ≤ m) : Hd (bs ++ ys) (n + m) := by
  obtain ⟨⟨r, rfl⟩, hl⟩ := h
  refine ⟨⟨r ++ ys, by simp⟩, ?_⟩
  rw [List.length_append]
  omega
theorem Hd.mono {bs : List Int} {n m : Nat} (h : Hd bs n) (hm : n ≤ m) : Hd bs m := ⟨h.1, Nat.le_trans h.2 hm⟩
theorem Upd.of_grown {W w1 : World} {row : Option Nat} (h : W.grownBy w1 row) : Upd row.toList W w1 :=
  ⟨h.os, h.tape, h.output, h.size, fun i hi hn => h.block i hi (fun e => hn (by subst e; simp))⟩
theorem f21_n (A : Option Addr) (n c : Nat) (xs : List Int) (w : World) (h : Kd.C (Kd.int .u8) w A n xs) (hc : n ≤ c) : Calls Tryz.prog 21 #[.slice A n c] w fun e w' => (∃ r, e = .returned (.int .u32 r)) ∧ Upd [] w w' := by
  obtain rfl : xs.length = n := h.1
  refine (f21_any A c xs w h hc).mono ?_
  rintro e w' ⟨r, rfl, m, rfl⟩
  exact ⟨⟨r, rfl⟩, (Upd.refl _ _).drewN _⟩
theorem C_none (A : Option Addr) (w : World) : Kd.C (Kd.int .u8) w A 0 [] := ⟨rfl, by omega, fun h => absurd h (Nat.lt_irrefl 0)⟩
set_option maxHeartbeats 16000000 in
set_option maxRecDepth 100000 in
theorem f7_any (A0 : Option Addr) (c0 : Nat) (l0 : List S39) (os : List S50) (w : World) (hr0 : Kd.C k39 w A0 l0.length l0) (hl0 : l0.length ≤ 40) (hos : objsFrom [] l0 = some os) :
    Calls Tryz.prog 7 #[.slice A0 l0.length c0] w fun e w' => ∃ g cap bs pl, e = .returned (.tuple #[.slice (some ⟨g,0,none⟩) bs.length cap, pl]) ∧ Own1 w w' g cap bs ∧ Hd bs 1000000000 := by
  have HR0 := Aside0.mk hr0
  have HL := Aside0.mk hl0
  have hl1 : (l0.length : Int) ≤ 40 := by omega
  have HOS := Aside0.mk hos
  have HOK := Aside0.mk (objs_ok l0 [] os (by simp) hos)
  have HEN := Aside0.mk (objs_entries l0 [] os hos).2
  clear hr0 hl0 hos
  go_enter Tryz.func7, Tryz.ntmps7
  go_wp2_with (go_at_call 11; refine Held1.out ?_)
  refine Held1.mk ?_
  refine (f11_any A0 c0 l0 w HR0.out (by have := HL.out; omega)).mono ?_
  rintro e w1 (⟨h, _, _⟩ | ⟨os2, v, h, rfl, hO⟩)
  · rw [HOS.out] at h
    cases h
  · obtain rfl : os2 = os := by
      rw [HOS.out] at h
      exact (Option.some.inj h).symm
    obtain ⟨AO, cO, rfl, _, hC⟩ := Kd.N_reads hO.row
    have HC := Aside0.mk hC
    have HU1 := Aside0.mk (Upd.of_below hO.below [])
    have HR1 := Aside0.mk (Kd.C_below HR0.out hO.below)
    clear hO hC h HR0
    have cc := Lib.run_convert_bytes_const (P := Tryz.prog) w1 25 5 #[.int .u8 80, .int .u8 65, .int .u8 67, .int .u8 75] 4 4 Tryz.underlying25 Tryz.underlying5
    simp only [List.size_toArray, List.length_cons, List.length_nil, Nat.reduceAdd] at cc
    go_wp2_with (first
      | (go_at_call 14; refine Held1.out ?_)
      | (at_builtin; refine Held1.out ?_))
    refine Held1.mk ?_
    refine (f14_any 2 _).mono ?_
    rintro e w2 ⟨A2, c2, rfl, R2, U2⟩
    have hO2 : Own1 w1 w2 w1.heap.size 4 [80, 65, 67, 75] := by
      have h0 : Own1 w1 (w1.alloc (.cells #[.int .u8 80, .int .u8 65, .int .u8 67, .int .u8 75] 5 (4, 5))) w1.heap.size 4 [80, 65, 67, 75] :=
        ⟨.of_block (U.blk_new _ _) (by simp [nums]) (by simp) (by simp [nums]) (.inl (Nat.le_refl _)), by simp, Nat.le_refl _, (Upd.refl [] w1).alloc _⟩
      exact h0.step U2 (by simp) (by simp)
    have HO2 := Aside0.mk hO2
    have R2 := Aside0.mk R2
    clear hO2 U2 cc
    go_wp2_with (at_builtin; refine Held1.out ?_)
    refine Held1.mk ?_
    refine append_o (w0 := w1) (by rfl) _ _ 25 (by rfl) Tryz.underlying25 info5 w1.heap.size 4 [80, 65, 67, 75] _ A2 4 c2 (by rfl) (by rfl) HO2.out R2.out (by simp) ?_
    intro g3 cap3 w3 hO3 _ _
    have hd3 : Hd ([80, 65, 67, 75] ++ [(2 : Int) / 16777216 % 256, (2 : Int) / 65536 % 256, (2 : Int) / 256 % 256, (2 : Int) % 256]) 8 := ⟨⟨[], by decide⟩, by simp⟩
    generalize [80, 65, 67, 75] ++ [(2 : Int) / 16777216 % 256, (2 : Int) / 65536 % 256, (2 : Int) / 256 % 256, (2 : Int) % 256] = b3 at *
    have HO3 := Aside0.mk hO3
    have HD3 := Aside0.mk hd3
    clear hO3 hd3 HO2 R2
    go_wp2_with (go_at_call 14; refine Held1.out ?_)
    refine Held1.mk ?_
    refine (f14_any _ _).mono ?_
    rintro e w4 ⟨A4, c4, rfl, R4, U4⟩
    have HO4 := Aside0.mk (HO3.out.step U4 (by simp) (by simp))
    have R4 := Aside0.mk R4
    clear HO3 U4
    go_wp2_with (at_builtin; refine Held1.out ?_)
    refine Held1.mk ?_
    refine append_o (w0 := w1) (by rfl) _ _ 25 (by rfl) Tryz.underlying25 info5 g3 cap3 b3 _ A4 4 c4 (by rfl) (by rfl) HO4.out R4.out (by have := HD3.out.2; omega) ?_
    intro g5 cap5 w5 hO5 _ _
    have hd5 := HD3.out.app (ys := [((l0.length : Int)) / 16777216 % 256, ((l0.length : Int)) / 65536 % 256, ((l0.length : Int)) / 256 % 256, ((l0.length : Int)) % 256]) (m := 4) (by simp)
    generalize b3 ++ [((l0.length : Int)) / 16777216 % 256, ((l0.length : Int)) / 65536 % 256, ((l0.length : Int)) / 256 % 256, ((l0.length : Int)) % 256] = b5 at *
    have HO5 := Aside0.mk hO5
    have HD5 := Aside0.mk hd5
    clear hO5 hd5 HO4 R4 HD3
    go_wp2
    go_loopw [6, 7, 29] (fun v6 v7 v29 wr => ∃ (k g cap : Nat) (bs : List Int), v29 = .int .i64 k ∧ v6 = .slice (some ⟨g,0,none⟩) bs.length cap ∧ k ≤ l0.length ∧ Aside0 (Own1 w1 wr g cap bs) ∧ Aside0 (Hd bs (12 + k * 3000000)) ∧ Aside0 (Plc w1 wr v7 k) ∧ Aside0 (∀ b, v7.ownBlock = some b → b ≠ g)) (fun _ _ v29 _ => l0.length - (intOf v29).toNat)
    case atStart => exact ⟨0, g5, cap5, b5, rfl, rfl, by omega, HO5, HD5, ⟨⟨[], own_nil _ _ _ _, by simp⟩⟩, ⟨by simp [Value.ownBlock]⟩⟩
    case round =>
      clear HO5 HD5
      obtain ⟨k, g, cap, bs, rfl, rfl, hk, HO, HD, HP, HN⟩ := hrel
      by_cases hkl : (k : Int) < (l0.length : Int)
      · obtain ⟨ad, A1, c1, A3, c3, e, q0, q1, q2, q3, l1, g1, l3, g3'⟩ := at_T39 HR1.out (k : Int) (by omega) hkl
        cases e
        have hen := HEN.out k (by omega)
        simp only [List.length_nil, Nat.zero_add] at hen
        simp only [Int.toNat_natCast] at q0 q1 q2 q3
        obtain ⟨ed, hedq⟩ : ∃ ed, ed = rd_T39 l0 (k : Int) := ⟨_, rfl⟩
        rw [← hedq] at q0 q1 q2 q3 l1 g1 l3 g3' hen
        clear hedq
        replace q0 := cell_upd0 q0 HO.out.upd
        replace q1 := cell_upd0 q1 HO.out.upd
        replace q2 := cell_upd0 q2 HO.out.upd
        replace q3 := cell_upd0 q3 HO.out.upd
        have L1 := Aside0.mk l1
        have L3 := Aside0.mk l3
        have G1 := Aside0.mk g1
        have G3 := Aside0.mk g3'
        clear l1 l3 g1 g3'
        rcases hen with hA | ⟨hB, hB2, hB3, hB4⟩
        · have f0 : decide ((4 : Int) < ed.f0) = false := decide_eq_false (by omega)
          have f6 : (ed.f0 == 6) = false := beq_eq_false_iff_ne.mpr (by omega)
          have f7 : (ed.f0 == 7) = false := beq_eq_false_iff_ne.mpr (by omega)
          have HT := Aside0.mk hA.2.2
          have LT := L1
          obtain ⟨wT, be, hWT, hbe, hPB, hE, uE⟩ : ∃ wT be, wr.alloc (.cells #[.int .i64 ed.f0, .slice A1 ed.f1.length c1, .int .i64 ed.f2, .slice A3 ed.f3.length c3] 39) = wT ∧ wr.heap.size = be ∧ wT.heap.size = be + 1 ∧ wT.heap[be]? = some (.cells #[.int .i64 ed.f0, .slice A1 ed.f1.length c1, .int .i64 ed.f2, .slice A3 ed.f3.length c3] 39 (0,0)) ∧ Upd [] wr wT :=
            ⟨_, _, rfl, rfl, by simp, U.blk_new _ _, (Upd.refl [] wr).alloc _⟩
          have HEb := Aside0.mk hE
          have HWT := Aside0.mk hWT
          have HBE := Aside0.mk hbe
          have HOT := Aside0.mk (HO.out.step uE (by simp) (by simp))
          have HPT := Aside0.mk (HP.out.upd uE (by simp))
          have HFT := Aside0.mk (Kd.F_below (Kd.C_F (Kd.heap_int .u8) G1.out) HOT.out.upd.to_below)
          have HOKT : Aside0 (∀ i, i < w1.heap.size → i < wT.heap.size ∧ i ≠ g) := ⟨fun i hi => ⟨Nat.lt_of_lt_of_le hi HOT.out.upd.size, by have := HO.out.new; omega⟩⟩
          have HPB0 := Aside0.mk hPB
          have HNE0 : Aside0 (be ≠ g ∧ be + 1 ≠ g) := ⟨by have := HO.out.lt; omega⟩
          clear hA hWT hbe hPB hE uE
          go_wp2_with (go_at_call 16; refine Held1.out ?_)
          rw [HWT.out, HBE.out]
          obtain ⟨pb, hpb⟩ : ∃ pb, be + 1 = pb := ⟨_, rfl⟩
          rw [hpb]
          have HPB : Aside0 (wT.heap.size = pb) := ⟨by rw [HPB0.out, hpb]⟩
          have HNE : Aside0 (be ≠ g ∧ pb ≠ g) := ⟨by rw [← hpb]; exact HNE0.out⟩
          clear hpb HPB0 HNE0 q0 q1 q2 q3 HWT HBE f0
          refine Held1.mk ?_
          refine (f16_any ed.f0 ed.f1.length (by have := HT.out; omega) _).mono ?_
          rintro e w11 ⟨A11, m11, c11, r11, rfl, hm11, R11, U11⟩
          have uP := (Upd.refl [] wT).alloc (.cells #[.int .i64 bs.length, .slice A1 ed.f1.length c1, .int .u32 0] 52)
          have HO11 := Aside0.mk (HOT.out.step (uP.trans U11) (by simp) (by simp))
          have HB11 := Aside0.mk ((uP.trans U11).keep HEb.out (by simp))
          have hq11 : (wT.alloc (.cells #[.int .i64 bs.length, .slice A1 ed.f1.length c1, .int .u32 0] 52)).heap[pb]? = some (.cells #[.int .i64 bs.length, .slice A1 ed.f1.length c1, .int .u32 0] 52 (0,0)) := by rw [← HPB.out]; exact U.blk_new _ _
          have HQ11 := Aside0.mk (U11.keep hq11 (by simp))
          have HP11 := Aside0.mk (HPT.out.upd (uP.trans U11) (by simp))
          have FT11 := Aside0.mk (Kd.F_below HFT.out (uP.trans U11).to_below)
          have R11 := Aside0.mk R11
          have HM11 := Aside0.mk hm11
          have HS11 := Aside0.mk (uP.trans U11).size
          clear uP hq11 U11 hm11
          have cE := blk_cells HB11.out
          have cQ := blk_cells HQ11.out
          go_wp2_with (at_builtin; refine Held1.out ?_)
          refine Held1.mk ?_
          refine append_o (w0 := w1) (by rfl) _ _ 25 (by rfl) Tryz.underlying25 info5 g cap bs r11 A11 m11 c11 (by rfl) (by rfl) HO11.out R11.out (by have := HD.out.2; have := HM11.out; have := HL.out; omega) ?_
          intro g12 cap12 w12 hO12 hU12 hg12
          have HG12 : Aside0 (g12 = g ∨ wT.heap.size ≤ g12) := ⟨hg12.imp id (fun h => Nat.le_trans HS11.out h)⟩
          have HO12 := Aside0.mk hO12
          have HB12 := Aside0.mk (hU12.keep HB11.out (by have := HNE.out.1; simpa using this))
          have HQ12 := Aside0.mk (hU12.keep HQ11.out (by have := HNE.out.2; simpa using this))
          have HP12 := Aside0.mk (HP11.out.upd hU12 (fun b hb => by have := HN.out b hb; simpa using this))
          have HN12 : Aside0 (∀ b, u7.ownBlock = some b → b ≠ g12) := ⟨fun b hb => by
            rcases hg12 with h | h
            · rw [h]; exact HN.out b hb
            · have := HP11.out.lt b hb; omega⟩
          have HNE12 : Aside0 (be ≠ g12 ∧ pb ≠ g12) := ⟨by
            have hb1 := lt_of_blk HB11.out
            have hb2 := lt_of_blk HQ11.out
            rcases hg12 with h | h
            · rw [h]; exact HNE.out
            · exact ⟨by omega, by omega⟩⟩
          have FT12 := Aside0.mk (Kd.F_step FT11.out (fun i hi hlt => hU12.block i hlt (by have := (HOKT.out i hi).2; simpa using this)))
          have HOKT12 : Aside0 (∀ i, i < w1.heap.size → i < wT.heap.size ∧ i ≠ g12) := ⟨fun i hi => by
            have h1 := HOKT.out i hi
            have h2 := HS11.out
            rcases hg12 with h | h
            · rw [h]; exact h1
            · exact ⟨h1.1, by omega⟩⟩
          have HD12 := Aside0.mk (HD.out.app (ys := r11) (m := 10) (by have := R11.out.1; have := HM11.out; omega))
          have HS12 := Aside0.mk (Nat.le_trans HS11.out hU12.size)
          have hlen12 : (bs ++ r11).length = bs.length + m11 := by have := R11.out.1; rw [List.length_append, this]
          have HLE12 : Aside0 (bs.length ≤ (bs ++ r11).length) := ⟨by simp⟩
          generalize bs ++ r11 = bs12 at *
          have HO12 := Aside0.mk HO12.out
          clear hO12 hU12 hg12 cE cQ hlen12 HO11 HB11 HQ11 HP11 FT11 R11 HM11
          have cE := blk_cells HB12.out
          have cQ := blk_cells HQ12.out

          go_wp2_with (go_at_call 20; refine Held1.out ?_)
          refine Held1.mk ?_
          refine (f20_any A1 c1 ed.f1 w12 (Kd.F_now FT12.out) LT.out HT.out).mono ?_
          rintro e w15 ⟨A15, m15, c15, r15, rfl, hm15, R15, U15⟩
          have HO15 := Aside0.mk (HO12.out.step U15 (by simp) (by simp))
          have HB15 := Aside0.mk (U15.keep HB12.out (by simp))
          have HQ15 := Aside0.mk (U15.keep HQ12.out (by simp))
          have HP15 := Aside0.mk (HP12.out.upd U15 (by simp))
          have R15 := Aside0.mk R15
          have HM15 := Aside0.mk hm15
          clear cE cQ U15 hm15
          go_wp2_with (at_builtin; refine Held1.out ?_)
          refine Held1.mk ?_
          refine append_o (w0 := w1) (by rfl) _ _ 25 (by rfl) Tryz.underlying25 info5 g12 cap12 bs12 r15 A15 m15 c15 (by rfl) (by rfl) HO15.out R15.out (by have := HD12.out.2; have := HM15.out; have := HL.out; omega) ?_
          intro g16 cap16 w16 hO16 hU16 hg16
          have HQ16 := Aside0.mk (hU16.keep HQ15.out (by have := HNE12.out.2; simpa using this))
          have HP16 := Aside0.mk (HP15.out.upd hU16 (fun b hb => by have := HN12.out b hb; simpa using this))
          have HN16 : Aside0 (∀ b, u7.ownBlock = some b → b ≠ g16) := ⟨fun b hb => by
            rcases hg16 with h | h
            · rw [h]; exact HN12.out b hb
            · have := HP15.out.lt b hb; omega⟩
          have HNQ16 : Aside0 (pb ≠ g16) := ⟨by
            have hb2 := lt_of_blk HQ15.out
            rcases hg16 with h | h
            · rw [h]; exact HNE12.out.2
            · omega⟩
          have HD16 := Aside0.mk (HD12.out.app (ys := r15) (m := 2000011) (by have := R15.out.1; have := HM15.out; omega))
          have HLE16 : Aside0 (bs.length ≤ (bs12 ++ r15).length) := ⟨by have := HLE12.out; simp; omega⟩
          have HO16 := Aside0.mk hO16
          generalize bs12 ++ r15 = bs16 at *
          clear hO16 hU16 hg16 HO15 HB15 HQ15 HP15 R15 HM15
          have cQ := blk_cells HQ16.out
          have hcp := HO16.out.row.le
          have hle16 : (bs.length : Int) ≤ (bs16.length : Int) := by have := HLE16.out; omega
          have hcp16 : bs16.length ≤ cap16 := by simpa [nums] using hcp
          clear hcp
          by_cases hcc : cap16 = bs.length
          · have h16 : bs16.length - bs.length = 0 := by have := HLE16.out; omega
            have H16 := Aside0.mk h16
            clear h16 hcp16
            subst hcc
            go_wp2_with (go_at_call 21; refine Held1.out ?_)
            refine Held1.mk ?_
            refine (f21_n _ _ _ [] w16 (by rw [H16.out]; exact C_none _ _) (by rw [H16.out]; exact Nat.zero_le _)).mono ?_
            rintro e w17 ⟨⟨crc, rfl⟩, U17⟩
            have hO17 := HO16.out.step U17 (by simp) (by simp)
            have hQ17 := U17.keep HQ16.out (by simp)
            have hP17 := HP16.out.upd U17 (by simp)
            have uS : Upd [pb] w17 (w17.setCell ⟨pb, 2, none⟩ (.int .u32 crc)) := (Upd.refl _ _).setCell (.inl (by simp)) _
            have HPBL : Aside0 (w1.heap.size ≤ pb) := ⟨by rw [← HPB.out]; exact HOT.out.upd.size⟩
            have HO18 := Aside0.mk (hO17.step uS (by have := HNQ16.out; simpa using this.symm) (fun x hx => by simp at hx; subst hx; exact HPBL.out))
            have HP18 := Aside0.mk (hP17.upd uS (fun b hb => by have h1 := HPT.out.lt b hb; have h2 := HPB.out; simp only [List.mem_singleton]; omega))
            have HQ17 := Aside0.mk hQ17
            clear cQ U17 hO17 hQ17 hP17 uS
            have cQ := blk_cells HQ17.out
            have zQ := blk_free HQ17.out
            go_wp2_with (at_builtin; refine Held1.out ?_)
            refine Held1.mk ?_
            refine plc_append (w0 := w1) (by rfl) _ _ (by rfl) u7 k _ _ _ (by rfl) (by rfl) (by rfl) _ ?hS (by rfl) HP18.out HO18.out.upd.to_below (by have := HL.out; omega) ?_
            case hS => exact size_setCell _ _ _
            intro v19 w19 hP19 _ hg19 hat19
            have HO19 := Aside0.mk (HO18.out.step (Upd.of_grown hg19) (fun hm => by
              have := Option.mem_toList.1 hm
              exact HN16.out _ this rfl) (fun x hx => HP18.out.base x (Option.mem_toList.1 hx)))
            have HP19 := Aside0.mk hP19
            have HN19 : Aside0 (∀ b, v19.ownBlock = some b → b ≠ g16) := ⟨fun b hb => by
              rcases hat19 with h | ⟨b2, h, hb2⟩
              · rw [h] at hb; exact HN16.out b hb
              · rw [h] at hb; cases hb; have := HO18.out.lt; omega⟩
            clear hP19 hg19 hat19 cQ zQ hle16
            go_wp2
            exact ⟨⟨k + 1, g16, bs.length, bs16, by simp, rfl, by omega, HO19, ⟨HD16.out.mono (by omega)⟩, HP19, HN19⟩, by simp [intOf]; omega⟩
          · have H16 := Aside0.mk hcp16
            go_wp2_with (go_at_call 21; refine Held1.out ?_)
            refine Held1.mk ?_
            refine (f21_n _ _ _ (bs16.drop bs.length) w16 (HO16.out.row.Cdrop (by have := HD16.out.2; have := HL.out; omega) bs.length) (by have := H16.out; omega)).mono ?_
            clear hcc hcp16
            rintro e w17 ⟨⟨crc, rfl⟩, U17⟩
            have hO17 := HO16.out.step U17 (by simp) (by simp)
            have hQ17 := U17.keep HQ16.out (by simp)
            have hP17 := HP16.out.upd U17 (by simp)
            have uS : Upd [pb] w17 (w17.setCell ⟨pb, 2, none⟩ (.int .u32 crc)) := (Upd.refl _ _).setCell (.inl (by simp)) _
            have HPBL : Aside0 (w1.heap.size ≤ pb) := ⟨by rw [← HPB.out]; exact HOT.out.upd.size⟩
            have HO18 := Aside0.mk (hO17.step uS (by have := HNQ16.out; simpa using this.symm) (fun x hx => by simp at hx; subst hx; exact HPBL.out))
            have HP18 := Aside0.mk (hP17.upd uS (fun b hb => by have h1 := HPT.out.lt b hb; have h2 := HPB.out; simp only [List.mem_singleton]; omega))
            have HQ17 := Aside0.mk hQ17
            clear cQ U17 hO17 hQ17 hP17 uS
            have cQ := blk_cells HQ17.out
            have zQ := blk_free HQ17.out
            go_wp2_with (at_builtin; refine Held1.out ?_)
            refine Held1.mk ?_
            refine plc_append (w0 := w1) (by rfl) _ _ (by rfl) u7 k _ _ _ (by rfl) (by rfl) (by rfl) _ ?hS (by rfl) HP18.out HO18.out.upd.to_below (by have := HL.out; omega) ?_
            case hS => exact size_setCell _ _ _
            intro v19 w19 hP19 _ hg19 hat19
            have HO19 := Aside0.mk (HO18.out.step (Upd.of_grown hg19) (fun hm => by
              have := Option.mem_toList.1 hm
              exact HN16.out _ this rfl) (fun x hx => HP18.out.base x (Option.mem_toList.1 hx)))
            have HP19 := Aside0.mk hP19
            have HN19 : Aside0 (∀ b, v19.ownBlock = some b → b ≠ g16) := ⟨fun b hb => by
              rcases hat19 with h | ⟨b2, h, hb2⟩
              · rw [h] at hb; exact HN16.out b hb
              · rw [h] at hb; cases hb; have := HO18.out.lt; omega⟩
            clear hP19 hg19 hat19 cQ zQ hle16
            go_wp2
            exact ⟨⟨k + 1, g16, cap16, bs16, by simp, rfl, by omega, HO19, ⟨HD16.out.mono (by omega)⟩, HP19, HN19⟩, by simp [intOf]; omega⟩
        · obtain ⟨e0, t1, e2, st⟩ := ed
          have hB0 : e0 = 6 ∨ e0 = 7 := hB
          have p0 : wr.cell? (ad.add (k * 4)) = some (.int .i64 e0) := q0
          have p1 : wr.cell? ⟨(ad.add (k * 4)).block, (ad.add (k * 4)).off + 1, none⟩ = some (.slice A1 t1.length c1) := q1
          have p2 : wr.cell? ⟨(ad.add (k * 4)).block, (ad.add (k * 4)).off + 2, none⟩ = some (.int .i64 e2) := q2
          have p3 : wr.cell? ⟨(ad.add (k * 4)).block, (ad.add (k * 4)).off + 3, none⟩ = some (.slice A3 st.length c3) := q3
          have hz2 : (0 : Int) ≤ e2 := hB2
          have hz3 : e2 < (k : Int) := hB3
          have hz4 : goodS st (rd_T50 os2 e2).f1 = true := hB4
          clear q0 q1 q2 q3 hB hB2 hB3 hB4
          obtain ⟨p, rfl⟩ : ∃ p : Nat, e2 = p := ⟨e2.toNat, by omega⟩
          have hpk : p < k := by omega
          have hpo : p < os2.length := by have h1 := HOK.out.2; simp at h1; omega
          obtain ⟨ad2, B1, d1, e5, r0, r1, m1, n1⟩ := at_T50 HC.out (p : Int) (by omega) (by omega)
          cases e5
          have hob := HOK.out.1 _ (rd50_mem os2 (p : Int) (by omega) (by omega))
          obtain ⟨ob, hobq⟩ : ∃ ob, ob = rd_T50 os2 (p : Int) := ⟨_, rfl⟩
          rw [← hobq] at r0 r1 m1 n1 hob hz4
          simp only [Int.toNat_natCast] at r0 r1
          have R0W := Aside0.mk r0
          have R1W := Aside0.mk r1
          clear hobq
          obtain ⟨gP, capP, xP0, hv7, _⟩ := HP.out.at (j := p) (by omega)
          subst hv7
          obtain ⟨wE, be, hWT, hbe, hPB, hE, uE⟩ : ∃ wT be, wr.alloc (.cells #[.int .i64 e0, .slice A1 t1.length c1, .int .i64 (p : Int), .slice A3 st.length c3] 39) = wT ∧ wr.heap.size = be ∧ wT.heap.size = be + 1 ∧ wT.heap[be]? = some (.cells #[.int .i64 e0, .slice A1 t1.length c1, .int .i64 (p : Int), .slice A3 st.length c3] 39 (0,0)) ∧ Upd [] wr wT :=
            ⟨_, _, rfl, rfl, by simp, U.blk_new _ _, (Upd.refl [] wr).alloc _⟩
          have HOE := Aside0.mk (HO.out.step uE (by simp) (by simp))
          have HPE := Aside0.mk (HP.out.upd uE (by simp))
          have HEE := Aside0.mk (drew_b hE)
          have HWT := Aside0.mk hWT
          have HBE := Aside0.mk hbe
          have HOBK := Aside0.mk hob
          have HZ4 := Aside0.mk hz4
          have M1 := Aside0.mk m1
          have R0E := Aside0.mk (cell_drew (cell_upd0 r0 HOE.out.upd))
          have R1E := Aside0.mk (cell_drew (cell_upd0 r1 HOE.out.upd))
          have N1E := Aside0.mk (Kd.C_below n1 (HOE.out.upd.drew).to_below)
          have N1 := Aside0.mk n1
          have G3E := Aside0.mk (Kd.C_below G3.out (HOE.out.upd.drew).to_below)
          have HGB := Aside0.mk (show g < be ∧ be < wE.heap.size from ⟨by have := HO.out.lt; omega, by omega⟩)
          have f0 : decide ((4 : Int) < e0) = true := decide_eq_true (by omega)
          have hB1 : (e0 == 6) = true ∨ ((e0 == 6) = false ∧ (e0 == 7) = true) := by
            rcases hB0 with rfl | rfl
            · exact .inl rfl
            · exact .inr ⟨rfl, rfl⟩
          have HB1 := Aside0.mk hB1
          have cE := blk_cells hE
          have r1E := R1E.out
          clear hWT hbe hPB hE uE hob hz4 m1 n1 r0 r1 hB0 hB1 hz2 hz3 HO HP
          go_wp2
          rw [HWT.out, HBE.out]
          clear p0 p1 p2 p3 f0
          go_region_held3 (fun w' => w'.cell? ⟨be, 2, none⟩ = some (.int .i64 (p : Int)) ∧ w'.cell? ⟨be, 3, none⟩ = some (.slice A3 st.length c3) ∧ w'.cell? ⟨(ad2.add (p * 2)).block, (ad2.add (p * 2)).off + 1, none⟩ = some (.slice B1 ob.f1.length d1)) (go_keep)
            ((go_at_call 15; refine (f15_any B1 d1 ob.f1 A3 c3 st _ N1E.out M1.out G3E.out L3.out HZ4.out).mono ?_; rintro e wT ⟨AT, cT, txt, rfl, lT, hrT, FT, UT⟩; have c8 := blk_cells (UT.keep HEE.out (by simp)); have r8 := cell_upd0 R1E.out UT; have UT := Aside0.mk UT; have LT := Aside0.mk lT; have FT := Aside0.mk FT; have HT := Aside0.mk (show txt.length ≤ 1000000 by omega)))
          rename_i hhq
          clear hhq cE r1E
          have UE2 := Aside0.mk (((Upd.refl [] wE).drew).trans UT.out)
          have HOT := Aside0.mk (HOE.out.step UE2.out (by simp) (by simp))
          have HPT := Aside0.mk (HPE.out.upd UE2.out (by simp))
          have HEb := Aside0.mk (UT.out.keep HEE.out (by simp))
          have HFT := Aside0.mk (Kd.F_bound FT.out)
          have HOKT : Aside0 (∀ i, (wE.drew.heap.size ≤ i ∧ i < wT.heap.size) → i < wT.heap.size ∧ i ≠ g) := ⟨fun i hi => ⟨hi.2, by have h1 := HGB.out; have h2 : wE.drew.heap.size = wE.heap.size := rfl; omega⟩⟩
          have HR0T := Aside0.mk (cell_upd0 R0E.out UT.out)
          have HR1T := Aside0.mk r8
          clear r8 lT hrT
          have c9 := blk_cells (U.blk_old HEb.out (.cells #[.int .i64 bs.length, .slice AT txt.length cT, .int .u32 0] 52))
          go_wp2_with (go_at_call 16; refine Held1.out ?_)
          obtain ⟨pb, hpb⟩ : ∃ pb, wT.heap.size = pb := ⟨_, rfl⟩
          rw [hpb]
          have HPB := Aside0.mk hpb
          have HNE : Aside0 (be ≠ g ∧ pb ≠ g) := ⟨by have h1 := HGB.out; have h2 := HOT.out.lt; omega⟩
          clear hpb c8 c9
          refine Held1.mk ?_
          refine (f16_any e0 txt.length (by have := HT.out; omega) _).mono ?_
          rintro e w11 ⟨A11, m11, c11, r11, rfl, hm11, R11, U11⟩
          have uP := (Upd.refl [] wT).alloc (.cells #[.int .i64 bs.length, .slice AT txt.length cT, .int .u32 0] 52)
          have HO11 := Aside0.mk (HOT.out.step (uP.trans U11) (by simp) (by simp))
          have HB11 := Aside0.mk ((uP.trans U11).keep HEb.out (by simp))
          have hq11 : (wT.alloc (.cells #[.int .i64 bs.length, .slice AT txt.length cT, .int .u32 0] 52)).heap[pb]? = some (.cells #[.int .i64 bs.length, .slice AT txt.length cT, .int .u32 0] 52 (0,0)) := by rw [← HPB.out]; exact U.blk_new _ _
          have HQ11 := Aside0.mk (U11.keep hq11 (by simp))
          have HP11 := Aside0.mk (HPT.out.upd (uP.trans U11) (by simp))
          have FT11 := Aside0.mk (Kd.F_below HFT.out (uP.trans U11).to_below)
          have R11 := Aside0.mk R11
          have HM11 := Aside0.mk hm11
          have HS11 := Aside0.mk (uP.trans U11).size
          clear uP hq11 U11 hm11
          have cE := blk_cells HB11.out
          have cQ := blk_cells HQ11.out
          go_wp2_with (at_builtin; refine Held1.out ?_)
          refine Held1.mk ?_
          refine append_o (w0 := w1) (by rfl) _ _ 25 (by rfl) Tryz.underlying25 info5 g cap bs r11 A11 m11 c11 (by rfl) (by rfl) HO11.out R11.out (by have := HD.out.2; have := HM11.out; have := HL.out; omega) ?_
          intro g12 cap12 w12 hO12 hU12 hg12
          have HG12 : Aside0 (g12 = g ∨ wT.heap.size ≤ g12) := ⟨hg12.imp id (fun h => Nat.le_trans HS11.out h)⟩
          have HO12 := Aside0.mk hO12
          have HB12 := Aside0.mk (hU12.keep HB11.out (by have := HNE.out.1; simpa using this))
          have HQ12 := Aside0.mk (hU12.keep HQ11.out (by have := HNE.out.2; simpa using this))
          have HP12 := Aside0.mk (HP11.out.upd hU12 (fun b hb => by have := HN.out b hb; simpa using this))
          have HN12 : Aside0 (∀ b, (Value.slice (some ⟨gP,0,none⟩) k capP).ownBlock = some b → b ≠ g12) := ⟨fun b hb => by
            rcases hg12 with h | h
            · rw [h]; exact HN.out b hb
            · have := HP11.out.lt b hb; omega⟩
          have HNE12 : Aside0 (be ≠ g12 ∧ pb ≠ g12) := ⟨by
            have hb1 := lt_of_blk HB11.out
            have hb2 := lt_of_blk HQ11.out
            rcases hg12 with h | h
            · rw [h]; exact HNE.out
            · exact ⟨by omega, by omega⟩⟩
          have FT12 := Aside0.mk (Kd.F_step FT11.out (fun i hi hlt => hU12.block i hlt (by have := (HOKT.out i hi).2; simpa using this)))
          have HOKT12 : Aside0 (∀ i, (wE.drew.heap.size ≤ i ∧ i < wT.heap.size) → i < wT.heap.size ∧ i ≠ g12) := ⟨fun i hi => by
            have h1 := HOKT.out i hi
            have h2 := HS11.out
            rcases hg12 with h | h
            · rw [h]; exact h1
            · exact ⟨h1.1, by omega⟩⟩
          have HD12 := Aside0.mk (HD.out.app (ys := r11) (m := 10) (by have := R11.out.1; have := HM11.out; omega))
          have HS12 := Aside0.mk (Nat.le_trans HS11.out hU12.size)
          have hlen12 : (bs ++ r11).length = bs.length + m11 := by have := R11.out.1; rw [List.length_append, this]
          have HLE12 : Aside0 (bs.length ≤ (bs ++ r11).length) := ⟨by simp⟩
          generalize bs ++ r11 = bs12 at *
          have HO12 := Aside0.mk HO12.out
          clear hO12 hU12 hg12 cE cQ hlen12 HO11 HB11 HQ11 HP11 FT11 R11 HM11
          have cE := blk_cells HB12.out
          have cQ := blk_cells HQ12.out
          rcases HB1.out with f6 | ⟨f6, f7⟩
          · obtain ⟨gP2, capP2, xP, hvP, hcP⟩ := HP12.out.at (j := p) (by omega)
            injection hvP with hvP1 _ hvP3
            injection hvP1 with hvP1
            injection hvP1 with hvP1 _ _
            subst hvP1 hvP3
            have HCP := Aside0.mk (cell_drew hcP)
            have HBd := Aside0.mk (drew_b HB12.out)
            have HQd := Aside0.mk (drew_b HQ12.out)
            have HOd := Aside0.mk (HO12.out.step ((Upd.refl [] w12).drew) (by simp) (by simp))
            go_wp2
            go_region_held3 (fun w' => w'.cell? ⟨pb, 0, none⟩ = some (.int .i64 bs.length) ∧ w'.cell? ⟨be, 2, none⟩ = some (.int .i64 (p : Int)) ∧ w'.cell? ⟨gP, p * 3, none⟩ = some (.int .i64 xP)) (go_keep)
              ((first
                | (go_at_call 17; refine (f17_any _ _).mono ?_; rintro e w13 ⟨A13, m13, c13, r13, rfl, hm13, R13, U13⟩; have cE3 := blk_cells (U13.keep HBd.out (by simp)); have cQ3 := blk_cells (U13.keep HQd.out (by simp)); have cP3 := cell_upd0 HCP.out U13; have HO13 := Aside0.mk (HOd.out.step U13 (by simp) (by simp)); have HU13 := Aside0.mk (((Upd.refl [] w12).drew).trans U13); have R13 := Aside0.mk R13; have HRX := Aside0.mk (show r13.length ≤ 20 by have := R13.out.1; omega); have HB13 := Aside0.mk (U13.keep HBd.out (by simp)); have HQ13 := Aside0.mk (U13.keep HQd.out (by simp)))
                | (refine step_append_o (w0 := w1) (by rfl) _ _ (by rfl) g12 cap12 bs12 r13 A13 m13 c13 (by rfl) (by rfl) HO13.out R13.out (by have h1 := HD12.out.2; have h2 := R13.out.1; have h3 := HRX.out; have h4 := HL.out; omega) ?_; intro g14 cap14 w14 hO14 hU14 hg14; have cE4 := blk_cells (hU14.keep HB13.out (by have := HNE12.out.1; simpa using this)); have cQ4 := blk_cells (hU14.keep HQ13.out (by have := HNE12.out.2; simpa using this)); have cP4 := (World.cell?_of_block (hU14.block gP (World.block_lt_of_cell? _ _ cP3) (by have := HN12.out gP rfl; simpa using this))).trans cP3; have HO14 := Aside0.mk hO14; have HU14 := Aside0.mk hU14; have HG14 := Aside0.mk hg14)))
            rename_i hhq
            clear hhq

            have hB13 := HU13.out.keep HB12.out (by simp)
            have hQ13 := HU13.out.keep HQ12.out (by simp)
            have hP13 := HP12.out.upd HU13.out (by simp)
            have hF13 := Kd.F_below FT12.out HU13.out.to_below
            have hs13 := Nat.le_trans HS12.out HU13.out.size
            have HB14 := Aside0.mk (HU14.out.keep hB13 (by have := HNE12.out.1; simpa using this))
            have HQ14 := Aside0.mk (HU14.out.keep hQ13 (by have := HNE12.out.2; simpa using this))
            have HP14 := Aside0.mk (hP13.upd HU14.out (fun b hb => by have := HN12.out b hb; simpa using this))
            have HN14 : Aside0 (∀ b, (Value.slice (some ⟨gP,0,none⟩) k capP).ownBlock = some b → b ≠ g14) := ⟨fun b hb => by
              rcases HG14.out with h | h
              · rw [h]; exact HN12.out b hb
              · have := hP13.lt b hb; omega⟩
            have HNE14 : Aside0 (be ≠ g14 ∧ pb ≠ g14) := ⟨by
              have hb1 := lt_of_blk hB13
              have hb2 := lt_of_blk hQ13
              rcases HG14.out with h | h
              · rw [h]; exact HNE12.out
              · exact ⟨by omega, by omega⟩⟩
            have FT14 := Aside0.mk (Kd.F_step hF13 (fun i hi hlt => HU14.out.block i hlt (by have := (HOKT12.out i hi).2; simpa using this)))
            have HLE14 : Aside0 (bs.length ≤ (bs12 ++ r13).length) := ⟨by have := HLE12.out; simp; omega⟩
            have HD14 := Aside0.mk (HD12.out.app (ys := r13) (m := 20) (by have := HRX.out; omega))
            have HO14b := Aside0.mk HO14.out
            rw [show bs12.length + r13.length = (bs12 ++ r13).length from by simp]
            generalize bs12 ++ r13 = bs14 at *
            have HO14 := HO14b
            clear hB13 hQ13 hP13 hF13 hs13 cE cQ
            have cE := blk_cells HB14.out
            have cQ := blk_cells HQ14.out

            go_wp2_with (go_at_call 20; refine Held1.out ?_)
            refine Held1.mk ?_
            refine (f20_any AT cT txt w14 (Kd.F_now FT14.out) LT.out HT.out).mono ?_
            rintro e w15 ⟨A15, m15, c15, r15, rfl, hm15, R15, U15⟩
            have HO15 := Aside0.mk (HO14.out.step U15 (by simp) (by simp))
            have HB15 := Aside0.mk (U15.keep HB14.out (by simp))
            have HQ15 := Aside0.mk (U15.keep HQ14.out (by simp))
            have HP15 := Aside0.mk (HP14.out.upd U15 (by simp))
            have R15 := Aside0.mk R15
            have HM15 := Aside0.mk hm15
            clear cE cQ U15 hm15
            go_wp2_with (at_builtin; refine Held1.out ?_)
            refine Held1.mk ?_
            refine append_o (w0 := w1) (by rfl) _ _ 25 (by rfl) Tryz.underlying25 info5 g14 cap14 bs14 r15 A15 m15 c15 (by rfl) (by rfl) HO15.out R15.out (by have := HD14.out.2; have := HM15.out; have := HL.out; omega) ?_
            intro g16 cap16 w16 hO16 hU16 hg16
            have HQ16 := Aside0.mk (hU16.keep HQ15.out (by have := HNE14.out.2; simpa using this))
            have HP16 := Aside0.mk (HP15.out.upd hU16 (fun b hb => by have := HN14.out b hb; simpa using this))
            have HN16 : Aside0 (∀ b, (Value.slice (some ⟨gP,0,none⟩) k capP).ownBlock = some b → b ≠ g16) := ⟨fun b hb => by
              rcases hg16 with h | h
              · rw [h]; exact HN14.out b hb
              · have := HP15.out.lt b hb; omega⟩
            have HNQ16 : Aside0 (pb ≠ g16) := ⟨by
              have hb2 := lt_of_blk HQ15.out
              rcases hg16 with h | h
              · rw [h]; exact HNE14.out.2
              · omega⟩
            have HD16 := Aside0.mk (HD14.out.app (ys := r15) (m := 2000011) (by have := R15.out.1; have := HM15.out; omega))
            have HLE16 : Aside0 (bs.length ≤ (bs14 ++ r15).length) := ⟨by have := HLE14.out; simp; omega⟩
            have HO16 := Aside0.mk hO16
            generalize bs14 ++ r15 = bs16 at *
            clear hO16 hU16 hg16 HO15 HB15 HQ15 HP15 R15 HM15
            have cQ := blk_cells HQ16.out
            have hcp := HO16.out.row.le
            have hle16 : (bs.length : Int) ≤ (bs16.length : Int) := by have := HLE16.out; omega
            have hcp16 : bs16.length ≤ cap16 := by simpa [nums] using hcp
            clear hcp
            by_cases hcc : cap16 = bs.length
            · have h16 : bs16.length - bs.length = 0 := by have := HLE16.out; omega
              have H16 := Aside0.mk h16
              clear h16 hcp16
              subst hcc
              go_wp2_with (go_at_call 21; refine Held1.out ?_)
              refine Held1.mk ?_
              refine (f21_n _ _ _ [] w16 (by rw [H16.out]; exact C_none _ _) (by rw [H16.out]; exact Nat.zero_le _)).mono ?_
              rintro e w17 ⟨⟨crc, rfl⟩, U17⟩
              have hO17 := HO16.out.step U17 (by simp) (by simp)
              have hQ17 := U17.keep HQ16.out (by simp)
              have hP17 := HP16.out.upd U17 (by simp)
              have uS : Upd [pb] w17 (w17.setCell ⟨pb, 2, none⟩ (.int .u32 crc)) := (Upd.refl _ _).setCell (.inl (by simp)) _
              have HPBL : Aside0 (w1.heap.size ≤ pb) := ⟨by rw [← HPB.out]; exact HOT.out.upd.size⟩
              have HO18 := Aside0.mk (hO17.step uS (by have := HNQ16.out; simpa using this.symm) (fun x hx => by simp at hx; subst hx; exact HPBL.out))
              have HP18 := Aside0.mk (hP17.upd uS (fun b hb => by have h1 := HPT.out.lt b hb; have h2 := HPB.out; simp only [List.mem_singleton]; omega))
              have HQ17 := Aside0.mk hQ17
              clear cQ U17 hO17 hQ17 hP17 uS
              have cQ := blk_cells HQ17.out
              have zQ := blk_free HQ17.out
              go_wp2_with (at_builtin; refine Held1.out ?_)
              refine Held1.mk ?_
              refine plc_append (w0 := w1) (by rfl) _ _ (by rfl) (Value.slice (some ⟨gP,0,none⟩) k capP) k _ _ _ (by rfl) (by rfl) (by rfl) _ ?hS (by rfl) HP18.out HO18.out.upd.to_below (by have := HL.out; omega) ?_
              case hS => exact size_setCell _ _ _
              intro v19 w19 hP19 _ hg19 hat19
              have HO19 := Aside0.mk (HO18.out.step (Upd.of_grown hg19) (fun hm => by
                have := Option.mem_toList.1 hm
                exact HN16.out _ this rfl) (fun x hx => HP18.out.base x (Option.mem_toList.1 hx)))
              have HP19 := Aside0.mk hP19
              have HN19 : Aside0 (∀ b, v19.ownBlock = some b → b ≠ g16) := ⟨fun b hb => by
                rcases hat19 with h | ⟨b2, h, hb2⟩
                · rw [h] at hb; exact HN16.out b hb
                · rw [h] at hb; cases hb; have := HO18.out.lt; omega⟩
              clear hP19 hg19 hat19 cQ zQ hle16
              go_wp2
              exact ⟨⟨k + 1, g16, bs.length, bs16, by simp, rfl, by omega, HO19, ⟨HD16.out.mono (by omega)⟩, HP19, HN19⟩, by simp [intOf]; omega⟩
            · have H16 := Aside0.mk hcp16
              go_wp2_with (go_at_call 21; refine Held1.out ?_)
              refine Held1.mk ?_
              refine (f21_n _ _ _ (bs16.drop bs.length) w16 (HO16.out.row.Cdrop (by have := HD16.out.2; have := HL.out; omega) bs.length) (by have := H16.out; omega)).mono ?_
              clear hcc hcp16
              rintro e w17 ⟨⟨crc, rfl⟩, U17⟩
              have hO17 := HO16.out.step U17 (by simp) (by simp)
              have hQ17 := U17.keep HQ16.out (by simp)
              have hP17 := HP16.out.upd U17 (by simp)
              have uS : Upd [pb] w17 (w17.setCell ⟨pb, 2, none⟩ (.int .u32 crc)) := (Upd.refl _ _).setCell (.inl (by simp)) _
              have HPBL : Aside0 (w1.heap.size ≤ pb) := ⟨by rw [← HPB.out]; exact HOT.out.upd.size⟩
              have HO18 := Aside0.mk (hO17.step uS (by have := HNQ16.out; simpa using this.symm) (fun x hx => by simp at hx; subst hx; exact HPBL.out))
              have HP18 := Aside0.mk (hP17.upd uS (fun b hb => by have h1 := HPT.out.lt b hb; have h2 := HPB.out; simp only [List.mem_singleton]; omega))
              have HQ17 := Aside0.mk hQ17
              clear cQ U17 hO17 hQ17 hP17 uS
              have cQ := blk_cells HQ17.out
              have zQ := blk_free HQ17.out
              go_wp2_with (at_builtin; refine Held1.out ?_)
              refine Held1.mk ?_
              refine plc_append (w0 := w1) (by rfl) _ _ (by rfl) (Value.slice (some ⟨gP,0,none⟩) k capP) k _ _ _ (by rfl) (by rfl) (by rfl) _ ?hS (by rfl) HP18.out HO18.out.upd.to_below (by have := HL.out; omega) ?_
              case hS => exact size_setCell _ _ _
              intro v19 w19 hP19 _ hg19 hat19
              have HO19 := Aside0.mk (HO18.out.step (Upd.of_grown hg19) (fun hm => by
                have := Option.mem_toList.1 hm
                exact HN16.out _ this rfl) (fun x hx => HP18.out.base x (Option.mem_toList.1 hx)))
              have HP19 := Aside0.mk hP19
              have HN19 : Aside0 (∀ b, v19.ownBlock = some b → b ≠ g16) := ⟨fun b hb => by
                rcases hat19 with h | ⟨b2, h, hb2⟩
                · rw [h] at hb; exact HN16.out b hb
                · rw [h] at hb; cases hb; have := HO18.out.lt; omega⟩
              clear hP19 hg19 hat19 cQ zQ hle16
              go_wp2
              exact ⟨⟨k + 1, g16, cap16, bs16, by simp, rfl, by omega, HO19, ⟨HD16.out.mono (by omega)⟩, HP19, HN19⟩, by simp [intOf]; omega⟩
          · obtain ⟨nm, hnm, hn6⟩ := kind_ev ob.f0 HOBK.out.1 HOBK.out.2.1
            have NM := Aside0.mk (And.intro hnm hn6)
            have HBd := Aside0.mk (drew_b HB12.out)
            have HQd := Aside0.mk (drew_b HQ12.out)
            have HOd := Aside0.mk (HO12.out.step ((Upd.refl [] w12).drew) (by simp) (by simp))
            have R02 := Aside0.mk (cell_drew (cell_upd0 (w := w1) R0W.out HO12.out.upd))
            have R12 := Aside0.mk (cell_drew (cell_upd0 (w := w1) R1W.out HO12.out.upd))
            have cR0 := R02.out
            have cR1 := R12.out
            clear hnm hn6
            go_wp2
            go_region_held3 (fun w' => w'.cell? ⟨be, 2, none⟩ = some (.int .i64 (p : Int)) ∧ w'.cell? (ad2.add (p * 2)) = some (.int .i64 ob.f0) ∧ w'.cell? ⟨(ad2.add (p * 2)).block, (ad2.add (p * 2)).off + 1, none⟩ = some (.slice B1 ob.f1.length d1)) (go_keep)
              ((first
                | (go_at_call 19; refine (f19_any ob.f0 nm NM.out.1 _).mono ?_; rintro e w17 ⟨rfl, U17⟩; have cE7 := blk_cells (U17.keep HBd.out (by simp)); have cR7 := cell_upd0 R02.out U17; have cS7 := cell_upd0 R12.out U17; have HO17 := Aside0.mk (HOd.out.step U17 (by simp) (by simp)); have HU17 := Aside0.mk (((Upd.refl [] w12).drew).trans U17); have HB17 := Aside0.mk (U17.keep HBd.out (by simp)); have HQ17 := Aside0.mk (U17.keep HQd.out (by simp)))
                | (go_at_call 18; refine (f18_any nm B1 d1 ob.f1 _ (by have := NM.out.2; omega) (Kd.C_below N1.out HO17.out.upd.to_below) (by have := HOBK.out.2.2; omega)).mono ?_; rintro e w13 ⟨g13, c13, r13, rfl, hO13, hr13, _⟩; have U13 := hO13.upd; have cE3 := blk_cells (U13.keep HB17.out (by simp)); have cR3 := cell_upd0 cR7 U13; have cS3 := cell_upd0 cS7 U13; have HO13 := Aside0.mk (HO17.out.step U13 (by simp) (by simp)); have HU13 := Aside0.mk (HU17.out.trans U13); have hR13 := C_reads (hO13.row.C (by omega)); have hr13' := hr13; rw [hr13'] at hR13; have R13 := Aside0.mk hR13; have HRX := Aside0.mk (show r13.length ≤ 20 by omega); have HR20 := Aside0.mk hr13; have HB13 := Aside0.mk (U13.keep HB17.out (by simp)); have HQ13 := Aside0.mk (U13.keep HQ17.out (by simp)); clear hr13 hr13' hR13 hO13)
                | (refine step_append_o (w0 := w1) (by rfl) _ _ (by rfl) g12 cap12 bs12 r13 _ 20 c13 (by rfl) (by rfl) HO13.out R13.out (by have h1 := HD12.out.2; have h4 := HL.out; omega) ?_; intro g14 cap14 w14 hO14 hU14 hg14; have cE4 := blk_cells (hU14.keep HB13.out (by have := HNE12.out.1; simpa using this)); have cQ4 := blk_cells (hU14.keep HQ13.out (by have := HNE12.out.2; simpa using this)); have cR4 := cell_upd0 R0W.out hO14.upd; have cS4 := cell_upd0 R1W.out hO14.upd; have HO14 := Aside0.mk hO14; have HU14 := Aside0.mk hU14; have HG14 := Aside0.mk hg14)))
            rename_i hhq
            clear hhq

            have hB13 := HU13.out.keep HB12.out (by simp)
            have hQ13 := HU13.out.keep HQ12.out (by simp)
            have hP13 := HP12.out.upd HU13.out (by simp)
            have hF13 := Kd.F_below FT12.out HU13.out.to_below
            have hs13 := Nat.le_trans HS12.out HU13.out.size
            have HB14 := Aside0.mk (HU14.out.keep hB13 (by have := HNE12.out.1; simpa using this))
            have HQ14 := Aside0.mk (HU14.out.keep hQ13 (by have := HNE12.out.2; simpa using this))
            have HP14 := Aside0.mk (hP13.upd HU14.out (fun b hb => by have := HN12.out b hb; simpa using this))
            have HN14 : Aside0 (∀ b, (Value.slice (some ⟨gP,0,none⟩) k capP).ownBlock = some b → b ≠ g14) := ⟨fun b hb => by
              rcases HG14.out with h | h
              · rw [h]; exact HN12.out b hb
              · have := hP13.lt b hb; omega⟩
            have HNE14 : Aside0 (be ≠ g14 ∧ pb ≠ g14) := ⟨by
              have hb1 := lt_of_blk hB13
              have hb2 := lt_of_blk hQ13
              rcases HG14.out with h | h
              · rw [h]; exact HNE12.out
              · exact ⟨by omega, by omega⟩⟩
            have FT14 := Aside0.mk (Kd.F_step hF13 (fun i hi hlt => HU14.out.block i hlt (by have := (HOKT12.out i hi).2; simpa using this)))
            have HLE14 : Aside0 (bs.length ≤ (bs12 ++ r13).length) := ⟨by have := HLE12.out; simp; omega⟩
            have HD14 := Aside0.mk (HD12.out.app (ys := r13) (m := 20) (by have := HRX.out; omega))
            have HO14b := Aside0.mk HO14.out
            rw [show bs12.length + r13.length = (bs12 ++ r13).length from by simp]
            generalize bs12 ++ r13 = bs14 at *
            have HO14 := HO14b
            clear hB13 hQ13 hP13 hF13 hs13 cE cQ
            have cE := blk_cells HB14.out
            have cQ := blk_cells HQ14.out

            go_wp2_with (go_at_call 20; refine Held1.out ?_)
            refine Held1.mk ?_
            refine (f20_any AT cT txt w14 (Kd.F_now FT14.out) LT.out HT.out).mono ?_
            rintro e w15 ⟨A15, m15, c15, r15, rfl, hm15, R15, U15⟩
            have HO15 := Aside0.mk (HO14.out.step U15 (by simp) (by simp))
            have HB15 := Aside0.mk (U15.keep HB14.out (by simp))
            have HQ15 := Aside0.mk (U15.keep HQ14.out (by simp))
            have HP15 := Aside0.mk (HP14.out.upd U15 (by simp))
            have R15 := Aside0.mk R15
            have HM15 := Aside0.mk hm15
            clear cE cQ U15 hm15
            go_wp2_with (at_builtin; refine Held1.out ?_)
            refine Held1.mk ?_
            refine append_o (w0 := w1) (by rfl) _ _ 25 (by rfl) Tryz.underlying25 info5 g14 cap14 bs14 r15 A15 m15 c15 (by rfl) (by rfl) HO15.out R15.out (by have := HD14.out.2; have := HM15.out; have := HL.out; omega) ?_
            intro g16 cap16 w16 hO16 hU16 hg16
            have HQ16 := Aside0.mk (hU16.keep HQ15.out (by have := HNE14.out.2; simpa using this))
            have HP16 := Aside0.mk (HP15.out.upd hU16 (fun b hb => by have := HN14.out b hb; simpa using this))
            have HN16 : Aside0 (∀ b, (Value.slice (some ⟨gP,0,none⟩) k capP).ownBlock = some b → b ≠ g16) := ⟨fun b hb => by
              rcases hg16 with h | h
              · rw [h]; exact HN14.out b hb
              · have := HP15.out.lt b hb; omega⟩
            have HNQ16 : Aside0 (pb ≠ g16) := ⟨by
              have hb2 := lt_of_blk HQ15.out
              rcases hg16 with h | h
              · rw [h]; exact HNE14.out.2
              · omega⟩
            have HD16 := Aside0.mk (HD14.out.app (ys := r15) (m := 2000011) (by have := R15.out.1; have := HM15.out; omega))
            have HLE16 : Aside0 (bs.length ≤ (bs14 ++ r15).length) := ⟨by have := HLE14.out; simp; omega⟩
            have HO16 := Aside0.mk hO16
            generalize bs14 ++ r15 = bs16 at *
            clear hO16 hU16 hg16 HO15 HB15 HQ15 HP15 R15 HM15
            have cQ := blk_cells HQ16.out
            have hcp := HO16.out.row.le
            have hle16 : (bs.length : Int) ≤ (bs16.length : Int) := by have := HLE16.out; omega
            have hcp16 : bs16.length ≤ cap16 := by simpa [nums] using hcp
            clear hcp
            by_cases hcc : cap16 = bs.length
            · have h16 : bs16.length - bs.length = 0 := by have := HLE16.out; omega
              have H16 := Aside0.mk h16
              clear h16 hcp16
              subst hcc
              go_wp2_with (go_at_call 21; refine Held1.out ?_)
              refine Held1.mk ?_
              refine (f21_n _ _ _ [] w16 (by rw [H16.out]; exact C_none _ _) (by rw [H16.out]; exact Nat.zero_le _)).mono ?_
              rintro e w17 ⟨⟨crc, rfl⟩, U17⟩
              have hO17 := HO16.out.step U17 (by simp) (by simp)
              have hQ17 := U17.keep HQ16.out (by simp)
              have hP17 := HP16.out.upd U17 (by simp)
              have uS : Upd [pb] w17 (w17.setCell ⟨pb, 2, none⟩ (.int .u32 crc)) := (Upd.refl _ _).setCell (.inl (by simp)) _
              have HPBL : Aside0 (w1.heap.size ≤ pb) := ⟨by rw [← HPB.out]; exact HOT.out.upd.size⟩
              have HO18 := Aside0.mk (hO17.step uS (by have := HNQ16.out; simpa using this.symm) (fun x hx => by simp at hx; subst hx; exact HPBL.out))
              have HP18 := Aside0.mk (hP17.upd uS (fun b hb => by have h1 := HPT.out.lt b hb; have h2 := HPB.out; simp only [List.mem_singleton]; omega))
              have HQ17 := Aside0.mk hQ17
              clear cQ U17 hO17 hQ17 hP17 uS
              have cQ := blk_cells HQ17.out
              have zQ := blk_free HQ17.out
              go_wp2_with (at_builtin; refine Held1.out ?_)
              refine Held1.mk ?_
              refine plc_append (w0 := w1) (by rfl) _ _ (by rfl) (Value.slice (some ⟨gP,0,none⟩) k capP) k _ _ _ (by rfl) (by rfl) (by rfl) _ ?hS (by rfl) HP18.out HO18.out.upd.to_below (by have := HL.out; omega) ?_
              case hS => exact size_setCell _ _ _
              intro v19 w19 hP19 _ hg19 hat19
              have HO19 := Aside0.mk (HO18.out.step (Upd.of_grown hg19) (fun hm => by
                have := Option.mem_toList.1 hm
                exact HN16.out _ this rfl) (fun x hx => HP18.out.base x (Option.mem_toList.1 hx)))
              have HP19 := Aside0.mk hP19
              have HN19 : Aside0 (∀ b, v19.ownBlock = some b → b ≠ g16) := ⟨fun b hb => by
                rcases hat19 with h | ⟨b2, h, hb2⟩
                · rw [h] at hb; exact HN16.out b hb
                · rw [h] at hb; cases hb; have := HO18.out.lt; omega⟩
              clear hP19 hg19 hat19 cQ zQ hle16
              go_wp2
              exact ⟨⟨k + 1, g16, bs.length, bs16, by simp, rfl, by omega, HO19, ⟨HD16.out.mono (by omega)⟩, HP19, HN19⟩, by simp [intOf]; omega⟩
            · have H16 := Aside0.mk hcp16
              go_wp2_with (go_at_call 21; refine Held1.out ?_)
              refine Held1.mk ?_
              refine (f21_n _ _ _ (bs16.drop bs.length) w16 (HO16.out.row.Cdrop (by have := HD16.out.2; have := HL.out; omega) bs.length) (by have := H16.out; omega)).mono ?_
              clear hcc hcp16
              rintro e w17 ⟨⟨crc, rfl⟩, U17⟩
              have hO17 := HO16.out.step U17 (by simp) (by simp)
              have hQ17 := U17.keep HQ16.out (by simp)
              have hP17 := HP16.out.upd U17 (by simp)
              have uS : Upd [pb] w17 (w17.setCell ⟨pb, 2, none⟩ (.int .u32 crc)) := (Upd.refl _ _).setCell (.inl (by simp)) _
              have HPBL : Aside0 (w1.heap.size ≤ pb) := ⟨by rw [← HPB.out]; exact HOT.out.upd.size⟩
              have HO18 := Aside0.mk (hO17.step uS (by have := HNQ16.out; simpa using this.symm) (fun x hx => by simp at hx; subst hx; exact HPBL.out))
              have HP18 := Aside0.mk (hP17.upd uS (fun b hb => by have h1 := HPT.out.lt b hb; have h2 := HPB.out; simp only [List.mem_singleton]; omega))
              have HQ17 := Aside0.mk hQ17
              clear cQ U17 hO17 hQ17 hP17 uS
              have cQ := blk_cells HQ17.out
              have zQ := blk_free HQ17.out
              go_wp2_with (at_builtin; refine Held1.out ?_)
              refine Held1.mk ?_
              refine plc_append (w0 := w1) (by rfl) _ _ (by rfl) (Value.slice (some ⟨gP,0,none⟩) k capP) k _ _ _ (by rfl) (by rfl) (by rfl) _ ?hS (by rfl) HP18.out HO18.out.upd.to_below (by have := HL.out; omega) ?_
              case hS => exact size_setCell _ _ _
              intro v19 w19 hP19 _ hg19 hat19
              have HO19 := Aside0.mk (HO18.out.step (Upd.of_grown hg19) (fun hm => by
                have := Option.mem_toList.1 hm
                exact HN16.out _ this rfl) (fun x hx => HP18.out.base x (Option.mem_toList.1 hx)))
              have HP19 := Aside0.mk hP19
              have HN19 : Aside0 (∀ b, v19.ownBlock = some b → b ≠ g16) := ⟨fun b hb => by
                rcases hat19 with h | ⟨b2, h, hb2⟩
                · rw [h] at hb; exact HN16.out b hb
                · rw [h] at hb; cases hb; have := HO18.out.lt; omega⟩
              clear hP19 hg19 hat19 cQ zQ hle16
              go_wp2
              exact ⟨⟨k + 1, g16, cap16, bs16, by simp, rfl, by omega, HO19, ⟨HD16.out.mono (by omega)⟩, HP19, HN19⟩, by simp [intOf]; omega⟩
      · have HC22 := Aside0.mk (HO.out.row.C (by have := HD.out.2; have := HL.out; omega))
        go_wp2_with (go_at_call 22; refine Held1.out ?_)
        refine Held1.mk ?_
        refine (f22_any _ cap bs wr HC22.out (by have := HD.out.2; have := HL.out; omega)).mono ?_
        rintro e w20 ⟨g20, cap20, r20, rfl, hO20, hr20, hb20⟩
        have HO21 := Aside0.mk (HO.out.step hO20.upd (by simp) (by simp))
        have hrd := C_reads (hO20.row.C (by omega))
        rw [hr20] at hrd
        have R20 := Aside0.mk hrd
        have HR20 := Aside0.mk hr20
        clear hO20 hr20 hb20 hrd
        go_wp2_with (at_builtin; refine Held1.out ?_)
        refine Held1.mk ?_
        refine append_o (w0 := w1) (by rfl) _ _ 25 (by rfl) Tryz.underlying25 info5 g cap bs r20 _ 20 cap20 (by rfl) (by rfl) HO21.out R20.out (by have := HD.out.2; have := HL.out; omega) ?_
        intro g22 cap22 w22 hO22 _ _
        have HO22 := Aside0.mk hO22
        have HD22 := Aside0.mk (HD.out.app (ys := r20) (m := 20) (by have := HR20.out; omega))
        clear hO22
        go_wp2
        go_ret2
        have h2 := HO22.out
        have h1 := HU1.out
        refine ⟨g22, cap22, bs ++ r20, u7, ?_, ⟨h2.row, h2.lt, Nat.le_trans h1.size h2.new, h1.trans h2.upd⟩, HD22.out.mono (by have := HL.out; omega)⟩
        rw [List.length_append]
        rfl
end Go.Proofs.YtohdpnoinfnmiaaGreatDoor
