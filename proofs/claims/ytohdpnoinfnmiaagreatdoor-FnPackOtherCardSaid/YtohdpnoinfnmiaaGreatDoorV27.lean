/- spec.Sha1 ends, with twenty bytes. -/
import Derived.Test.YtohdpnoinfnmiaaGreatDoorV24
import Derived.Test.YtohdpnoinfnmiaaGreatDoorPFnPackOtherx1
import Derived.StillTailTactics
namespace Go.Proofs.YtohdpnoinfnmiaaGreatDoor
open Go.RowKit U
open Go.Proofs.YtohdpnoinfnmiaaGreatDoorW.PrintWords (Aside0 Kd nums Drawn0 ReadsInt nums_append own_nil pw_own_below below_then print_append_row)
open Go.Proofs.YtohdpnoinfnmiaaGreatDoorW.PrintMore
open PFnPackOther (info5)
/-- The five words. -/
def H5 (w : World) (b : Nat) : Prop := ∃ h0 h1 h2 h3 h4 : Int, w.heap[b]? = some (.cells #[.int .u32 h0, .int .u32 h1, .int .u32 h2, .int .u32 h3, .int .u32 h4] 109 (0,0))
/-- The eighty words. -/
def W80 (w : World) (b : Nat) : Prop := ∃ cs : Array Value, w.heap[b]? = some (.cells cs 110 (0,0)) ∧ cs.size = 80 ∧ ∀ i, i < 80 → ∃ x : Int, cs[i]? = some (.int .u32 x)
theorem i64_in (x : Int) (h0 : 0 ≤ x) (h1 : x < 1000) : IntKind.i64.wrap x = x := by
  unfold IntKind.wrap IntKind.bits IntKind.signed
  simp
  omega
/-- A word turned. -/
def tw (x n : Int) : Int := bits .or .u32 (x * 2 ^ n.toNat % 4294967296) (x / 2 ^ (32 - n).toNat)
theorem f44_any (x n : Int) (h0 : 0 ≤ n) (h1 : n ≤ 32) (w : World) : Calls Tryz.prog 44 #[.int .u32 x, .int .u64 n] w fun e w' => e = .returned (.int .u32 (tw x n)) ∧ w' = w := by
  go_enter Tryz.func44, Tryz.ntmps44
  go_wp2
  go_ret
  exact ⟨rfl, rfl⟩
theorem f43_any (A : Option Addr) (n c : Nat) (xs : List Int) (w : World) (h : Kd.C (Kd.int .u8) w A n xs) (hn : 4 ≤ n) (hc : n ≤ c) : Calls Tryz.prog 43 #[.slice A n c] w fun e w' => (∃ r, e = .returned (.int .u32 r)) ∧ Upd [] w w' := by
  obtain rfl : xs.length = n := h.1
  refine (PFnPackOther.spec_Big32.calls A c xs _ w h hc (by unfold PFnPackOther.spec_Big32.f; rw [if_pos (by omega), if_pos (by omega), if_pos (by omega), if_pos (by omega)])).mono ?_
  rintro e w' ⟨rfl, m, rfl⟩
  exact ⟨⟨_, rfl⟩, (Upd.refl _ _).drewN _⟩
theorem H5.upd {L : List Nat} {w w' : World} {b : Nat} (h : H5 w b) (u : Upd L w w') (hn : b ∉ L) : H5 w' b := by
  obtain ⟨x0, x1, x2, x3, x4, hx⟩ := h
  exact ⟨x0, x1, x2, x3, x4, u.keep hx hn⟩
theorem W80.upd {L : List Nat} {w w' : World} {b : Nat} (h : W80 w b) (u : Upd L w w') (hn : b ∉ L) : W80 w' b := by
  obtain ⟨cs, hx, h1, h2⟩ := h
  exact ⟨cs, u.keep hx hn, h1, h2⟩
theorem H5.set {w : World} {b : Nat} (h : H5 w b) (i : Nat) (hi : i < 5) (r : Int) : H5 (w.setCell ⟨b, i, none⟩ (.int .u32 r)) b := by
  obtain ⟨x0, x1, x2, x3, x4, hx⟩ := h
  have hs := U.blk_set hx i (.int .u32 r)
  have hc : i = 0 ∨ i = 1 ∨ i = 2 ∨ i = 3 ∨ i = 4 := by omega
  rcases hc with rfl | rfl | rfl | rfl | rfl
  · exact ⟨r, x1, x2, x3, x4, hs⟩
  · exact ⟨x0, r, x2, x3, x4, hs⟩
  · exact ⟨x0, x1, r, x3, x4, hs⟩
  · exact ⟨x0, x1, x2, r, x4, hs⟩
  · exact ⟨x0, x1, x2, x3, r, hs⟩
theorem idx109 (y0 y1 y2 y3 y4 : Int) (j : Nat) (hj : j < 5) : ∃ x : Int, ∀ w : World, (Instr.index 109 (.agg #[.int .u32 y0, .int .u32 y1, .int .u32 y2, .int .u32 y3, .int .u32 y4]) (.int .i64 j)).run Tryz.prog w = .ok (.int .u32 x) w := by
  have hc : j = 0 ∨ j = 1 ∨ j = 2 ∨ j = 3 ∨ j = 4 := by omega
  rcases hc with rfl | rfl | rfl | rfl | rfl
  · exact ⟨y0, fun w => by kernel_rfl⟩
  · exact ⟨y1, fun w => by kernel_rfl⟩
  · exact ⟨y2, fun w => by kernel_rfl⟩
  · exact ⟨y3, fun w => by kernel_rfl⟩
  · exact ⟨y4, fun w => by kernel_rfl⟩
theorem f14_any (x : Int) (w : World) : Calls Tryz.prog 14 #[.int .u32 x] w fun e w' => ∃ A c, e = .returned (.slice A 4 c) ∧ ReadsInt w' .u8 A 4 [(x / 16777216) % 256, (x / 65536) % 256, (x / 256) % 256, x % 256] ∧ Upd [] w w' := by
  refine (PFnPackOther.spec_Put32.calls x _ w rfl).mono ?_
  rintro e w' ⟨v, rfl, hR, hB⟩
  obtain ⟨g, cap, rfl, _⟩ := Kd.R_form hR (by simp)
  exact ⟨_, _, rfl, C_reads (Kd.R_reads' hR).2.2, .of_below hB []⟩
theorem W80.set {w : World} {b : Nat} (h : W80 w b) (j : Nat) (r : Int) : W80 (w.setCell ⟨b, j, none⟩ (.int .u32 r)) b := by
  obtain ⟨cs, hx, h1, h2⟩ := h
  refine ⟨_, U.blk_set hx j _, by simpa using h1, fun i hi => ?_⟩
  by_cases hj : i = j
  · subst hj
    exact ⟨r, by simp [h1, hi]⟩
  · obtain ⟨x, hx⟩ := h2 i hi
    exact ⟨x, by rw [Array.getElem?_setIfInBounds_ne (Ne.symm hj)]; exact hx⟩
/-- What holds in each round. -/
structure In22 (w wr : World) (g cap : Nat) (ys : List Int) (hb wb : Nat) : Prop where
  o : Own1 w wr g cap ys
  h : H5 wr hb
  ww : W80 wr wb
  n1 : g ≠ hb
  n2 : g ≠ wb
  n3 : hb ≠ wb
  n4 : w.heap.size ≤ hb
  n5 : w.heap.size ≤ wb
theorem In22.quiet {w wr wr' : World} {g cap : Nat} {ys : List Int} {hb wb : Nat} (h : In22 w wr g cap ys hb wb) (u : Upd [] wr wr') : In22 w wr' g cap ys hb wb :=
  ⟨h.o.step u (by simp) (by simp), h.h.upd u (by simp), h.ww.upd u (by simp), h.n1, h.n2, h.n3, h.n4, h.n5⟩
theorem In22.setW {w wr : World} {g cap : Nat} {ys : List Int} {hb wb : Nat} (h : In22 w wr g cap ys hb wb) (j : Nat) (r : Int) : In22 w (wr.setCell ⟨wb, j, none⟩ (.int .u32 r)) g cap ys hb wb := by
  have u : Upd [wb] wr (wr.setCell ⟨wb, j, none⟩ (.int .u32 r)) := (Upd.refl _ _).setCell (.inl (by simp)) _
  exact ⟨h.o.step u (by simpa using h.n2) (fun x hx => by simp at hx; subst hx; exact h.n5), h.h.upd u (by simpa using h.n3), h.ww.set j r, h.n1, h.n2, h.n3, h.n4, h.n5⟩
theorem zc110 : Tryz.zeroCells110 = Array.replicate 80 (.int .u32 0) := by kernel_rfl
theorem W80_new (w : World) : W80 (w.alloc (.cells Tryz.zeroCells110 110)) w.heap.size :=
  ⟨_, U.blk_new _ _, by rw [zc110]; simp, fun i hi => ⟨0, by rw [zc110]; simp [hi]⟩⟩
set_option maxHeartbeats 8000000 in
set_option maxRecDepth 100000 in
theorem f22_any (A0 : Option Addr) (c0 : Nat) (l0 : List Int) (w : World) (hr0 : Kd.C (Kd.int .u8) w A0 l0.length l0) (hl0 : l0.length ≤ 1000000000000) :
    Calls Tryz.prog 22 #[.slice A0 l0.length c0] w fun e w' => ∃ g cap r, e = .returned (.slice (some ⟨g,0,none⟩) 20 cap) ∧ Own1 w w' g cap r ∧ r.length = 20 ∧ (∀ x ∈ r, 0 ≤ x ∧ x ≤ 255) := by
  have HR0 := Aside0.mk (C_reads hr0)
  have HL := Aside0.mk hl0
  have hl1 : (l0.length : Int) ≤ 1000000000000 := by omega
  clear hr0 hl0
  go_enter Tryz.func22, Tryz.ntmps22
  go_wp2_with (at_builtin; refine Held1.out ?_)
  refine Held1.mk ?_
  have hu0 := (Upd.refl [] w).alloc (.cells #[] 5 (0,0))
  refine append_o (w0 := w) (by rfl) _ _ 25 (by rfl) Tryz.underlying25 info5 w.heap.size 0 [] l0 A0 l0.length c0 (by rfl) (by rfl) ?m1 (reads_upd HR0.out hu0) (by have := HL.out; simp; omega) ?_
  case m1 => exact ⟨.of_block (cur := #[]) (t := 5) (f := (0,0)) (U.blk_new _ _) (by simp [nums]) (by simp) (by simp [nums]) (.inr rfl), by simp, Nat.le_refl _, hu0⟩
  intro g1 cap1 w1 hO1 _ _
  simp only [List.nil_append] at hO1 ⊢
  have HO1 := Aside0.mk hO1
  clear hO1 hu0
  go_wp2_with (at_builtin; refine Held1.out ?_)
  refine Held1.mk ?_
  refine append_o1 (w0 := w) (by rfl) _ _ 25 (by rfl) Tryz.underlying25 info5 g1 cap1 l0 128 (by rfl) (by rfl) HO1.out (by have := HL.out; omega) ?_
  clear HO1
  intro g2 cap2 w2 hO1 _ _
  have hq : (l0 ++ [128]).length = l0.length + 1 := by simp
  generalize l0 ++ [128] = xs2 at *
  have HO2 := Aside0.mk hO1
  have HQ := Aside0.mk hq
  clear hO1 hq
  go_wp2
  go_loopw [3] (fun v3 wr => ∃ (g cap : Nat) (xs : List Int), v3 = .slice (some ⟨g,0,none⟩) xs.length cap ∧ Aside0 (Own1 w wr g cap xs) ∧ xs.length + (120 - xs.length % 64) % 64 ≤ 1000000000065) (fun v3 _ => match v3 with | .slice _ n _ => (120 - n % 64) % 64 | _ => 0)
  case atStart => exact ⟨g2, cap2, xs2, rfl, HO2, by have := HL.out; have := HQ.out; omega⟩
  case round =>
    obtain ⟨g, cap, xs, rfl, HO, hxl⟩ := hrel
    by_cases hx : (xs.length : Int) % 64 = 56
    · go_wp2
      clear HO2
      have hx' : xs.length % 64 = 56 := by omega
      have hx2 : xs.length ≤ 1000000000065 := by omega
      have HX := Aside0.mk (And.intro hx' hx2)
      clear hx hxl hx' hx2
      go_loopw [3, 5] (fun v3 v5 wr => ∃ (g cap j : Nat) (ys : List Int) (i : Int), v3 = .slice (some ⟨g,0,none⟩) ys.length cap ∧ v5 = .int .i64 i ∧ j ≤ 8 ∧ Aside0 (8 * (j : Int) + i = 56) ∧ Aside0 (Own1 w wr g cap ys) ∧ Aside0 (ys.length = xs.length + j)) (fun _ v5 _ => ((intOf v5) + 8).toNat)
      case atStart => exact ⟨g, cap, 0, xs, 56, rfl, rfl, by omega, ⟨by omega⟩, HO, ⟨by omega⟩⟩
      case round =>
        clear HO
        obtain ⟨g, cap, j, ys, i, rfl, rfl, hj, hji, HO, hyl⟩ := hrel
        by_cases hi : (0 : Int) ≤ i
        · have hi2 : i ≤ 56 := by have := hji.out; omega
          go_wp2_with (at_builtin; refine Held1.out ?_)
          refine Held1.mk ?_
          refine append_o1 (w0 := w) (by rfl) _ _ 25 (by rfl) Tryz.underlying25 info5 g cap ys _ (by rfl) (by rfl) HO.out (by have := HX.out; have := hyl.out; omega) ?_
          clear HO
          intro g3 cap3 w3 hO3 _ _
          have HO3 := Aside0.mk hO3
          clear hO3
          go_wp2
          go_roundw
          case rel => exact ⟨g3, cap3, j + 1, _, i - 8, (by simp : Value.slice _ _ _ = Value.slice _ (ys ++ [(l0.length : Int) * 8 / 2 ^ i.toNat % 256]).length _), by simp, by have := hji.out; omega, ⟨by have := hji.out; omega⟩, HO3, ⟨by have := hyl.out; simp; omega⟩⟩
          case measure => simp [intOf]; omega
        · go_wp2
          have hyl2 : ys.length % 64 = 0 ∧ ys.length ≤ 1000000000073 := by have := HX.out; have := hyl.out; have := hji.out; omega
          have hyl3 : (ys.length : Int) ≤ 1000000000073 := by omega
          have HY := Aside0.mk hyl2
          have HB := Aside0.mk (show H5 (wr.alloc (.cells #[.int .u32 1732584193, .int .u32 4023233417, .int .u32 2562383102, .int .u32 271733878, .int .u32 3285377520] 109)) wr.heap.size from ⟨_, _, _, _, _, U.blk_new _ _⟩)
          have HOA := Aside0.mk (HO.out.alloc (.cells #[.int .u32 1732584193, .int .u32 4023233417, .int .u32 2562383102, .int .u32 271733878, .int .u32 3285377520] 109))
          have HGB := Aside0.mk (show g ≠ wr.heap.size ∧ w.heap.size ≤ wr.heap.size from ⟨by have := HO.out.lt; omega, by have := HO.out.new; have := HO.out.lt; omega⟩)
          clear HX hyl hji hyl2 HO hj
          generalize hhb : wr.heap.size = hb at *
          clear hhb
          generalize wr.alloc (.cells #[.int .u32 1732584193, .int .u32 4023233417, .int .u32 2562383102, .int .u32 271733878, .int .u32 3285377520] 109) = wr1 at *
          go_loopw [7] (fun v7 wr => ∃ (k : Nat), v7 = .int .i64 k ∧ k ≤ ys.length ∧ Aside0 (k % 64 = 0) ∧ Aside0 (Own1 w wr g cap ys) ∧ Aside0 (H5 wr hb)) (fun v7 _ => ys.length - (intOf v7).toNat)
          case atStart => exact ⟨0, rfl, by omega, ⟨rfl⟩, HOA, HB⟩
          case round =>
            clear HOA HB
            obtain ⟨k, rfl, hk, hk64, HO, HB⟩ := hrel
            by_cases hkl : (k : Int) < (ys.length : Int)
            · have hkl2 : (k : Int) + 64 ≤ (ys.length : Int) := by have := hk64.out; have := HY.out; omega
              go_wp2
              clear hkl
              have HW := Aside0.mk (W80_new wr)
              have HO2 := Aside0.mk (HO.out.alloc (.cells Tryz.zeroCells110 110))
              have HB2 : Aside0 (H5 (wr.alloc (.cells Tryz.zeroCells110 110)) hb) := ⟨by obtain ⟨x0, x1, x2, x3, x4, hx⟩ := HB.out; exact ⟨x0, x1, x2, x3, x4, U.blk_old hx _⟩⟩
              have HGW := Aside0.mk (show g ≠ wr.heap.size ∧ hb ≠ wr.heap.size ∧ w.heap.size ≤ wr.heap.size from ⟨by have := HO.out.lt; omega, by obtain ⟨x0, x1, x2, x3, x4, hx⟩ := HB.out; have := lt_of_blk hx; omega, HO.out.upd.size⟩)
              clear HO HB
              generalize hwb : wr.heap.size = wb at *
              clear hwb
              generalize wr.alloc (.cells Tryz.zeroCells110 110) = wr2 at *
              have HI := Aside0.mk (show In22 w wr2 g cap ys hb wb from ⟨HO2.out, HB2.out, HW.out, HGB.out.1, HGW.out.1, HGW.out.2.1, HGB.out.2, HGW.out.2.2⟩)
              clear HO2 HB2 HW HGW
              go_loopw [58] (fun v58 wr => ∃ (j : Nat), v58 = .int .i64 j ∧ j ≤ 16 ∧ Aside0 (In22 w wr g cap ys hb wb)) (fun v58 _ => 16 - (intOf v58).toNat)
              case atStart => exact ⟨0, rfl, by omega, HI⟩
              case round =>
                clear HI
                obtain ⟨j, rfl, hj, HI⟩ := hrel
                by_cases hj16 : (j : Int) < 16
                · have hcp : (nums .u8 ys).length ≤ cap := HI.out.o.row.le
                  have hne : ¬ cap = k + 4 * j := by simp [nums] at hcp; omega
                  clear hcp
                  go_wp2_with (go_at_call 43; refine Held1.out ?_)
                  refine Held1.mk ?_
                  refine (f43_any _ _ _ _ wr (HI.out.o.row.Cdrop (by have := HY.out; omega) (k + 4 * j)) (by omega) (by have := HI.out.o.row.le; simp [nums] at this; omega)).mono ?_
                  rintro e w3 ⟨⟨r, rfl⟩, U3⟩
                  have HI3 := Aside0.mk (HI.out.quiet U3)
                  obtain ⟨cs, hW, hs, hW2⟩ := HI3.out.ww
                  clear HI U3
                  have c := blk_cells hW
                  have z := blk_free hW
                  obtain ⟨x, hx⟩ := hW2 j (by omega)
                  clear hW hW2 hne
                  go_wp2
                  exact ⟨⟨j + 1, by simp, by omega, ⟨HI3.out.setW j r⟩⟩, by simp [intOf]; omega⟩
                · go_wp2
                  go_loopw [10] (fun v10 wr => ∃ (j : Nat), v10 = .int .i64 j ∧ 16 ≤ j ∧ j ≤ 80 ∧ Aside0 (In22 w wr g cap ys hb wb)) (fun v10 _ => 80 - (intOf v10).toNat)
                  case atStart => exact ⟨16, rfl, by omega, by omega, HI⟩
                  case round =>
                    clear HI
                    obtain ⟨j2, rfl, hj2, hj3, HI⟩ := hrel
                    by_cases hj80 : (j2 : Int) < 80
                    · obtain ⟨cs, hW, hs, hW2⟩ := HI.out.ww
                      obtain ⟨p, hp⟩ : ∃ p, p + 16 = j2 := ⟨j2 - 16, by omega⟩
                      subst hp
                      have c := blk_cells hW
                      have z := blk_free hW
                      obtain ⟨x3, hx3⟩ := hW2 (p + 13) (by omega)
                      obtain ⟨x8, hx8⟩ := hW2 (p + 8) (by omega)
                      obtain ⟨x14, hx14⟩ := hW2 (p + 2) (by omega)
                      obtain ⟨x16, hx16⟩ := hW2 p (by omega)
                      obtain ⟨x0, hx0⟩ := hW2 (p + 16) (by omega)
                      clear hW hW2 hj hj16
                      have e3 : IntKind.i64.wrap ((p : Int) + 16 - 3) = (p : Int) + 13 := by rw [show (p : Int) + 16 - 3 = (p : Int) + 13 by omega]; exact i64_in _ (by omega) (by omega)
                      have a3 : (0 : Int) ≤ (p : Int) + 13 := by omega
                      have b3 : (p : Int) + 13 < 80 := by omega
                      have t3 : ((p : Int) + 13).toNat = p + 13 := by omega
                      have e8 : IntKind.i64.wrap ((p : Int) + 16 - 8) = (p : Int) + 8 := by rw [show (p : Int) + 16 - 8 = (p : Int) + 8 by omega]; exact i64_in _ (by omega) (by omega)
                      have a8 : (0 : Int) ≤ (p : Int) + 8 := by omega
                      have b8 : (p : Int) + 8 < 80 := by omega
                      have t8 : ((p : Int) + 8).toNat = p + 8 := by omega
                      have e14 : IntKind.i64.wrap ((p : Int) + 16 - 14) = (p : Int) + 2 := by rw [show (p : Int) + 16 - 14 = (p : Int) + 2 by omega]; exact i64_in _ (by omega) (by omega)
                      have a14 : (0 : Int) ≤ (p : Int) + 2 := by omega
                      have b14 : (p : Int) + 2 < 80 := by omega
                      have t14 : ((p : Int) + 2).toNat = p + 2 := by omega
                      have e16 : IntKind.i64.wrap (p : Int) = (p : Int) := i64_in _ (by omega) (by omega)
                      have a16 : (0 : Int) ≤ (p : Int) := by omega
                      have b16 : (p : Int) < 80 := by omega
                      go_wp2
                      refine wp_region_still_tail 21 (by kernel_rfl) (by kernel_rfl) ?_
                      simp only [List.take_succ_cons, List.take_zero, List.drop_succ_cons, List.drop_zero]
                      iterate 20 still_step
                      still_call (f44_any _ 1 (by omega) (by omega) _)
                      try refine wpStill_nil ?_
                      go_wp2
                      exact ⟨⟨p + 17, by simp; omega, by omega, by omega, ⟨(HI.out.setW (p + 16) _).quiet ((Upd.refl [] _).drew)⟩⟩, by simp [intOf]; omega⟩
                    · clear hj hj16 hj2 hj3
                      obtain ⟨y0, y1, y2, y3, y4, hH⟩ := HI.out.h
                      have c5 := blk_cells hH
                      clear hH
                      go_wp2
                      go_quiet (fail)
                      have HI9 := Aside0.mk (HI.out.quiet ((Upd.refl [] wr).drewN nq))
                      clear HI c5 hj80
                      go_wp2
                      go_loopw [11, 12, 13, 14, 15, 107] (fun v11 v12 v13 v14 v15 v107 wr => ∃ (j : Nat) (za zb zc zd ze : Int), v107 = .int .i64 j ∧ v11 = .int .u32 za ∧ v12 = .int .u32 zb ∧ v13 = .int .u32 zc ∧ v14 = .int .u32 zd ∧ v15 = .int .u32 ze ∧ j ≤ 80 ∧ Aside0 (In22 w wr g cap ys hb wb)) (fun _ _ _ _ _ v107 _ => 80 - (intOf v107).toNat)
                      case atStart => exact ⟨0, _, _, _, _, _, rfl, rfl, rfl, rfl, rfl, rfl, by omega, HI9⟩
                      case round =>
                        clear HI9
                        obtain ⟨j3, za, zb, zc, zd, ze, rfl, rfl, rfl, rfl, rfl, rfl, hj, HI⟩ := hrel
                        by_cases hj80 : (j3 : Int) < 80
                        · obtain ⟨cs, hW, hs, hW2⟩ := HI.out.ww
                          have c := blk_cells hW
                          obtain ⟨x0, hx0⟩ := hW2 j3 (by omega)
                          clear hW hW2
                          go_wp2
                          all_goals
                            go_quiet ((go_at_call 44; exact Calls.quiet_of_same (f44_any _ _ (by omega) (by omega) _)))
                            go_wp2
                            exact ⟨⟨j3 + 1, _, _, _, _, _, by simp, rfl, rfl, rfl, rfl, rfl, by omega, ⟨HI.out.quiet ((Upd.refl [] _).drewN _)⟩⟩, by simp [intOf]; omega⟩
                        · obtain ⟨y0, y1, y2, y3, y4, hH⟩ := HI.out.h
                          have c5 := blk_cells hH
                          have z5 := blk_free hH
                          clear hH
                          go_wp2
                          have hI := HI.out
                          have u : Upd [hb] wr _ := ((((((Upd.refl [hb] wr).setCell (p := ⟨hb, 0, none⟩) (.inl (by simp)) (.int .u32 ((y0 + za) % 4294967296))).setCell (p := ⟨hb, 1, none⟩) (.inl (by simp)) (.int .u32 ((y1 + zb) % 4294967296))).setCell (p := ⟨hb, 2, none⟩) (.inl (by simp)) (.int .u32 ((y2 + zc) % 4294967296))).setCell (p := ⟨hb, 3, none⟩) (.inl (by simp)) (.int .u32 ((y3 + zd) % 4294967296))).setCell (p := ⟨hb, 4, none⟩) (.inl (by simp)) (.int .u32 ((y4 + ze) % 4294967296)))
                          exact ⟨⟨k + 64, by simp, by omega, ⟨by have := hk64.out; omega⟩, ⟨hI.o.step u (by simpa using hI.n1) (fun x hx => by simp at hx; subst hx; exact hI.n4)⟩, ⟨((((hI.h.set 0 (by omega) _).set 1 (by omega) _).set 2 (by omega) _).set 3 (by omega) _).set 4 (by omega) _⟩⟩, by simp [intOf]; omega⟩
            · obtain ⟨y0, y1, y2, y3, y4, hH⟩ := HB.out
              have c5 := blk_cells hH
              have hbl := HO.out.upd.to_below
              have HBL := Aside0.mk hbl
              clear hH HO HB hbl
              go_wp2
              go_loopw [19, 192] (fun v19 v192 wr => ∃ (j : Nat) (xs : List Int), v192 = .int .i64 j ∧ j ≤ 5 ∧ Aside0 (wr.ownsRow w.heap.size 5 1 v19 xs.length (nums .u8 xs)) ∧ Aside0 (Below w.heap.size w wr) ∧ Aside0 (xs.length = 4 * j ∧ ∀ x ∈ xs, 0 ≤ x ∧ x ≤ 255)) (fun _ v192 _ => 5 - (intOf v192).toNat)
              case atStart => exact ⟨0, [], rfl, by omega, ⟨own_nil _ _ _ _⟩, HBL, ⟨rfl, by simp⟩⟩
              case round =>
                clear c5 HBL
                obtain ⟨j, xs5, rfl, hj, HO, HB, HX5⟩ := hrel
                by_cases hj5 : (j : Int) < 5
                · obtain ⟨x, hx⟩ := idx109 y0 y1 y2 y3 y4 j (by omega)
                  go_wp2_with (go_at_call 14; refine Held1.out ?_)
                  refine Held1.mk ?_
                  refine (f14_any _ _).mono ?_
                  rintro e w3 ⟨A, c, rfl, R3, U3⟩
                  have HO3 := Aside0.mk (pw_own_below HO.out U3.to_below)
                  have HB3 := Aside0.mk (below_then HB.out HB.out.size U3.to_below)
                  have R3 := Aside0.mk R3
                  clear HO HB U3 hx
                  go_wp2_with (at_builtin; refine Held1.out ?_)
                  refine Held1.mk ?_
                  refine print_append_row (w0 := w) w.heap.size (by rfl) _ _ 25 5 .u8 1 (by rfl) Tryz.underlying25 info5 (by omega) _ xs5 _ A 4 c (by rfl) (by rfl) HO3.out R3.out HB3.out HB3.out.size (by have := HX5.out.1; omega) ?_
                  intro v4 w4 hO4 hB4 _ _
                  have HO4 := Aside0.mk hO4
                  have HB4 := Aside0.mk hB4
                  clear hO4 hB4 HO3 HB3 R3
                  go_wp2
                  exact ⟨⟨j + 1, _, by simp, by omega, HO4, HB4, ⟨by have := HX5.out.1; simp; omega, fun z hz => by
                    rcases List.mem_append.1 hz with h | h
                    · exact HX5.out.2 z h
                    · simp only [List.mem_cons, List.not_mem_nil, or_false] at h
                      rcases h with rfl | rfl | rfl | rfl <;> omega⟩⟩, by simp [intOf]; omega⟩
                · go_wp2
                  have hl20 : xs5.length = 20 := by have := HX5.out.1; omega
                  have hO := HO.out
                  rw [hl20] at hO
                  rcases hO.2 with ⟨_, h0⟩ | ⟨g9, cap9, cur, hv, hb9, hh, hn9, _, hs9, hx9⟩
                  · omega
                  · subst hv
                    go_ret
                    exact ⟨g9, cap9, rfl, xs5, ⟨Mrow.of_own hO, lt_of_blk hh, hb9, .of_below HB.out []⟩, hl20, HX5.out.2⟩
    · go_wp2_with (at_builtin; refine Held1.out ?_)
      refine Held1.mk ?_
      refine append_o1 (w0 := w) (by rfl) _ _ 25 (by rfl) Tryz.underlying25 info5 g cap xs 0 (by rfl) (by rfl) HO.out (by omega) ?_
      clear HO
      intro g3 cap3 w3 hO3 _ _
      have HO3 := Aside0.mk hO3
      clear hO3
      go_wp2
      go_roundw
      case rel => exact ⟨g3, cap3, xs ++ [0], by simp, HO3, by simp; omega⟩
      case measure => simp; omega
end Go.Proofs.YtohdpnoinfnmiaaGreatDoor
