-- PRINTED BY print.sh 35421559b90ae4d0a3588c463048766b98c2df88dd9212a6774a882060cdf62d: not written by this session
import Derived.Test.YtohdpnoinfnmiaaGreatDoorPFnPackOtherx0
import Derived.Test.YtohdpnoinfnmiaaGreatDoorPFnPackOtherx1
import Derived.Test.YtohdpnoinfnmiaaGreatDoorPFnPackOtherx2
namespace Go.Proofs.YtohdpnoinfnmiaaGreatDoor.PFnPackOther
open Go.RowKit Go.Proofs.YtohdpnoinfnmiaaGreatDoorW.PrintWords Go.Proofs.YtohdpnoinfnmiaaGreatDoorW.PrintLast Go.Proofs.YtohdpnoinfnmiaaGreatDoorW.PrintMore
attribute [local go_sem] max2_int min2_int max_two min_two max_three min_three max_four min_four   -- for this text's walks alone
set_option linter.unusedVariables false
set_option linter.unusedSimpArgs false

/-! ### spec_StepBytes: function 40 -/
mutual
def spec_StepBytes.j0 : Nat → Int → Bool → Int → Int → List Int → Int → Option (List Int)
  | 0, _, _, _, _, _, _ => none
  | k + 1, x3, x189000, x189001, x189002, x189003, x189004 => spec_StepBytes.l0 k x3 128 (([] : List Int)) 0 x189000 x189001 x189002 x189003 x189004
def spec_StepBytes.l0 : Nat → Int → Int → List Int → Int → Bool → Int → Int → List Int → Int → Option (List Int)
  | 0, _, _, _, _, _, _, _, _, _ => none
  | k + 1, x3, x4, x5, x24, x189000, x189001, x189002, x189003, x189004 => if x24 < 7 then (if 0 ≤ (wrap64 (8 * x24)) then (if x24 ≥ 4 then (if 0 ≤ (wrap64 (8 * (wrap64 (x24 - 4)))) then (if ((shr .i64 x3 (wrap64 (8 * (wrap64 (x24 - 4))))) % 256) = 0 then (if 0 ≤ x24 then (if (Go.bits .and .i64 (shr .i64 x189004 x24) 1) = 1 then (if x5.length < 140737488355328 then (spec_StepBytes.l0 k x3 (Go.bits .or .u8 x4 (shl .u8 1 x24)) (x5 ++ [(shr .i64 x3 (wrap64 (8 * (wrap64 (x24 - 4))))) % 256]) (wrap64 (x24 + 1)) x189000 x189001 x189002 x189003 x189004) else (none)) else (spec_StepBytes.l0 k x3 x4 x5 (wrap64 (x24 + 1)) x189000 x189001 x189002 x189003 x189004)) else (none)) else (if 0 ≤ x24 then (if x5.length < 140737488355328 then (spec_StepBytes.l0 k x3 (Go.bits .or .u8 x4 (shl .u8 1 x24)) (x5 ++ [(shr .i64 x3 (wrap64 (8 * (wrap64 (x24 - 4))))) % 256]) (wrap64 (x24 + 1)) x189000 x189001 x189002 x189003 x189004) else (none)) else (none))) else (none)) else (if ((shr .i64 x189001 (wrap64 (8 * x24))) % 256) = 0 then (if 0 ≤ x24 then (if (Go.bits .and .i64 (shr .i64 x189004 x24) 1) = 1 then (if x5.length < 140737488355328 then (spec_StepBytes.l0 k x3 (Go.bits .or .u8 x4 (shl .u8 1 x24)) (x5 ++ [(shr .i64 x189001 (wrap64 (8 * x24))) % 256]) (wrap64 (x24 + 1)) x189000 x189001 x189002 x189003 x189004) else (none)) else (spec_StepBytes.l0 k x3 x4 x5 (wrap64 (x24 + 1)) x189000 x189001 x189002 x189003 x189004)) else (none)) else (if 0 ≤ x24 then (if x5.length < 140737488355328 then (spec_StepBytes.l0 k x3 (Go.bits .or .u8 x4 (shl .u8 1 x24)) (x5 ++ [(shr .i64 x189001 (wrap64 (8 * x24))) % 256]) (wrap64 (x24 + 1)) x189000 x189001 x189002 x189003 x189004) else (none)) else (none)))) else (none)) else ((some (([x4] : List Int) : List Int)).bind fun y198 => (if y198.length + x5.length < 140737488355328 then (some (y198 ++ x5)) else (none)))
end
def spec_StepBytes.f (k : Nat) (a0_0 : Bool) (a0_1 : Int) (a0_2 : Int) (l0_3 : List Int) (a0_4 : Int) : Option (List Int) := if a0_0 = true then (if a0_2 = 65536 then (spec_StepBytes.j0 k 0 a0_0 a0_1 a0_2 l0_3 a0_4) else (spec_StepBytes.j0 k a0_2 a0_0 a0_1 a0_2 l0_3 a0_4)) else ((some (([((l0_3.length : Int)) % 256] : List Int) : List Int)).bind fun y189 => (if y189.length + l0_3.length < 140737488355328 then (some (y189 ++ l0_3)) else (none)))
theorem spec_StepBytes.mono_l : ∀ k, (∀ y0 y1 y2 y3 y4 y5, LeO (spec_StepBytes.j0 k y0 y1 y2 y3 y4 y5) (spec_StepBytes.j0 (k + 1) y0 y1 y2 y3 y4 y5)) ∧ (∀ y0 y1 y2 y3 y4 y5 y6 y7 y8, LeO (spec_StepBytes.l0 k y0 y1 y2 y3 y4 y5 y6 y7 y8) (spec_StepBytes.l0 (k + 1) y0 y1 y2 y3 y4 y5 y6 y7 y8))
  | 0 => ⟨fun _ _ _ _ _ _ r h => by simp [spec_StepBytes.j0] at h, fun _ _ _ _ _ _ _ _ _ r h => by simp [spec_StepBytes.l0] at h⟩
  | k + 1 => by
    obtain ⟨ih0, ih1⟩ := spec_StepBytes.mono_l k
    refine ⟨?_, ?_⟩
    · intro y0 y1 y2 y3 y4 y5
      unfold spec_StepBytes.j0
      repeat' first
      | (with_reducible exact ih0 _ _ _ _ _ _)
      | (with_reducible exact ih1 _ _ _ _ _ _ _ _ _)
      | (with_reducible exact LeO.refl _)
      | (with_reducible exact LeO.none _)
      | (with_reducible refine LeO.ite ?_ ?_)
      | (with_reducible refine LeO.bind ?_ (fun _ => ?_))
      | exact ih0 _ _ _ _ _ _
      | exact ih1 _ _ _ _ _ _ _ _ _
      | exact LeO.none _
      | refine LeO.ite ?_ ?_
      | refine LeO.bind ?_ (fun _ => ?_)
    · intro y0 y1 y2 y3 y4 y5 y6 y7 y8
      unfold spec_StepBytes.l0
      repeat' first
      | (with_reducible exact ih0 _ _ _ _ _ _)
      | (with_reducible exact ih1 _ _ _ _ _ _ _ _ _)
      | (with_reducible exact LeO.refl _)
      | (with_reducible exact LeO.none _)
      | (with_reducible refine LeO.ite ?_ ?_)
      | (with_reducible refine LeO.bind ?_ (fun _ => ?_))
      | exact ih0 _ _ _ _ _ _
      | exact ih1 _ _ _ _ _ _ _ _ _
      | exact LeO.none _
      | refine LeO.ite ?_ ?_
      | refine LeO.bind ?_ (fun _ => ?_)
theorem spec_StepBytes.mono : ∀ a0 a1 a2 a3 a4 k, LeO (spec_StepBytes.f k a0 a1 a2 a3 a4) (spec_StepBytes.f (k + 1) a0 a1 a2 a3 a4) := by
  intro a0 a1 a2 a3 a4 k
  obtain ⟨ih0, ih1⟩ := spec_StepBytes.mono_l k
  unfold spec_StepBytes.f
  repeat' first
      | (with_reducible exact ih0 _ _ _ _ _ _)
      | (with_reducible exact ih1 _ _ _ _ _ _ _ _ _)
      | (with_reducible exact LeO.refl _)
      | (with_reducible exact LeO.none _)
      | (with_reducible refine LeO.ite ?_ ?_)
      | (with_reducible refine LeO.bind ?_ (fun _ => ?_))
      | exact ih0 _ _ _ _ _ _
      | exact ih1 _ _ _ _ _ _ _ _ _
      | exact LeO.none _
      | refine LeO.ite ?_ ?_
      | refine LeO.bind ?_ (fun _ => ?_)
set_option maxHeartbeats 8000000 in
set_option maxRecDepth 100000 in
theorem spec_StepBytes.calls (k : Nat) (a0_0 : Bool) (a0_1 : Int) (a0_2 : Int) (A0_3 : Option Addr) (c0_3 : Nat) (l0_3 : List Int) (a0_4 : Int) (r : List Int) (w : World) (hr0_3 : Kd.C (Kd.int .u8) w A0_3 l0_3.length l0_3) (hc0_3 : l0_3.length ≤ c0_3) (h : spec_StepBytes.f k a0_0 a0_1 a0_2 l0_3 a0_4 = some r) :
    Calls Tryz.prog 40 #[.agg #[.bool a0_0, .int .i64 a0_1, .int .i64 a0_2, .slice A0_3 l0_3.length c0_3, .int .i64 a0_4]] w fun e w' => ∃ v0_ : Value, e = .returned (v0_) ∧ Kd.R (Kd.int .u8) 5 w' w.heap.size (fun _ => True) v0_ r ∧ Below w.heap.size w w' := by
  have hu105 := Tryz.underlying105
  have HR0_3 := Aside0.mk hr0_3
  have HC0_3 := Aside0.mk hc0_3
  clear hr0_3 hc0_3
  have HB := Aside0.mk (Below.refl w.heap.size w)
  have H : (if a0_0 = true then (if a0_2 = 65536 then (spec_StepBytes.j0 k 0 a0_0 a0_1 a0_2 l0_3 a0_4) else (spec_StepBytes.j0 k a0_2 a0_0 a0_1 a0_2 l0_3 a0_4)) else ((some (([((l0_3.length : Int)) % 256] : List Int) : List Int)).bind fun y189 => (if y189.length + l0_3.length < 140737488355328 then (some (y189 ++ l0_3)) else (none)))) = some r := h
  clear h
  by_cases c2 : a0_0 = true
  · subst c2
    have H1 : (if a0_2 = 65536 then (spec_StepBytes.j0 k 0 true a0_1 a0_2 l0_3 a0_4) else (spec_StepBytes.j0 k a0_2 true a0_1 a0_2 l0_3 a0_4)) = some r := by rw [if_pos rfl] at H; exact H
    clear H
    have H := H1
    clear H1
    have HC3 := Aside0.mk H
    clear H
    go_enter Tryz.func40, Tryz.ntmps40
    go_upto_if 22 with (first | ((with_reducible refine gate_dst (N := 1) rfl ?_); refine box_event ?hg (N := 1) ?hd (cs := #[.bool true, .int .i64 a0_1, .int .i64 a0_2, .slice A0_3 l0_3.length c0_3, .int .i64 a0_4]) (t := 105) ?hr ?_; (case hd => rfl); (case hg => rfl); (case hr => first | (go_simp; done) | (go_simp; rfl)); intro gb188 hg w4 hbox hb; have n0_ := Aside0.mk (below_step (by repeat (first | (with_reducible first | exact HB.out | apply below_alloc | apply pw_below_drewN | apply below_drew1) | exact HB.out)) hb); have n1_ := Aside0.mk (hbox); have n2_ := Aside0.mk ((by rw [hg]; exact (below_size (by repeat (first | (with_reducible first | exact HB.out | apply below_alloc | apply pw_below_drewN | apply below_drew1) | exact HB.out))) : w.heap.size ≤ gb188)); have n3_ := Aside0.mk ((by rw [hg]; exact (below_size (by repeat (first | (with_reducible first | exact HB.out | apply below_alloc | apply pw_below_drewN | apply below_drew1) | exact HB.out))) : w.heap.size ≤ gb188)); clear HB; have HB := n0_; have BK188 := n1_; have GW188 := n2_; have GE188 := n3_; clear n0_ n1_ n2_ n3_; clear hb hbox hg; have hcz5_0 : w4.cell? ⟨gb188, 0, none⟩ = some (.bool true) := (blk_cell BK188.out 0).trans rfl; have hcz5_1 : w4.cell? ⟨gb188, 1, none⟩ = some (.int .i64 a0_1) := (blk_cell BK188.out 1).trans rfl; have hcz5_2 : w4.cell? ⟨gb188, 2, none⟩ = some (.int .i64 a0_2) := (blk_cell BK188.out 2).trans rfl; have hcz5_3 : w4.cell? ⟨gb188, 3, none⟩ = some (.slice A0_3 l0_3.length c0_3) := (blk_cell BK188.out 3).trans rfl; have hcz5_4 : w4.cell? ⟨gb188, 4, none⟩ = some (.int .i64 a0_4) := (blk_cell BK188.out 4).trans rfl; have hfz5_0 := blk_frozen BK188.out 0; have hfz5_1 := blk_frozen BK188.out 1; have hfz5_2 := blk_frozen BK188.out 2; have hfz5_3 := blk_frozen BK188.out 3; have hfz5_4 := blk_frozen BK188.out 4))
    (try simp only [Act.put, List.setIfInBounds_toArray, List.set_cons_zero, List.set_cons_succ])
    go_cut [3] (fun v3 wc => ∃ (kq : Nat) (x3_2 : Int), v3 = .int .i64 x3_2 ∧ Aside0 (spec_StepBytes.j0 kq x3_2 true a0_1 a0_2 l0_3 a0_4 = some r) ∧ Aside0 (kq ≤ k) ∧ Aside0 (wc.heap[gb188]? = some (.cells #[.bool true, .int .i64 a0_1, .int .i64 a0_2, (.slice A0_3 l0_3.length c0_3), .int .i64 a0_4] 105 (0, 0))) ∧ Aside0 (Below w.heap.size w wc))
    case first =>
      have H := HC3.out
      clear HC3
      by_cases c6 : a0_2 = 65536
      · rw [if_pos c6] at H
        have c6b0 : (a0_2 == 65536) = true := beq_iff_eq.mpr c6
        have c6b1 : (a0_2 != 65536) = false := bne_eq_false_iff_eq.mpr c6
        clear c6
        (first | rw [c6b0] | (simp only [i64_w, i32_w]; rw [c6b0]) | skip)
        have H' := Aside0.mk H
        clear H
        go_wp2
        go_meet
        case rel => exact ⟨_, (0), (by first | rfl | (simp; done) | (simp [*]; done)), H', ⟨by first | omega | exact Nat.le_refl _⟩, ⟨by (with_reducible repeat (first | refine blk_drewN ?_ _ | refine blk_drew ?_ | refine blk_alloc ?_ _)); exact BK188.out⟩, ⟨by repeat (first | (with_reducible first | exact HB.out | apply below_alloc | apply pw_below_drewN | apply below_drew1 | refine below_set ?_ GE188.out) | exact HB.out)⟩⟩
      · rw [if_neg c6] at H
        have c6b0 : (a0_2 == 65536) = false := beq_eq_false_iff_ne.mpr c6
        have c6b1 : (a0_2 != 65536) = true := bne_iff_ne.mpr c6
        (first | rw [c6b0] | (simp only [i64_w, i32_w]; rw [c6b0]) | skip)
        have H' := Aside0.mk H
        clear H
        go_wp2
        go_meet
        case rel => exact ⟨_, (a0_2), (by first | rfl | (simp; done) | (simp [*]; done)), H', ⟨by first | omega | exact Nat.le_refl _⟩, ⟨by (with_reducible repeat (first | refine blk_drewN ?_ _ | refine blk_drew ?_ | refine blk_alloc ?_ _)); exact BK188.out⟩, ⟨by repeat (first | (with_reducible first | exact HB.out | apply below_alloc | apply pw_below_drewN | apply below_drew1 | refine below_set ?_ GE188.out) | exact HB.out)⟩⟩
    case rest =>
      clear HC3
      try clear c2
      try clear p2
      try clear c4
      try clear c6
      try clear c6b0
      try clear c6b1
      try clear hcz5_0
      try clear hcz5_1
      try clear hcz5_2
      try clear hcz5_3
      try clear hcz5_4
      try clear hfz5_0
      try clear hfz5_1
      try clear hfz5_2
      try clear hfz5_3
      try clear hfz5_4
      obtain ⟨kq, x3_2, rfl, HA, HJ2, BK188, HB⟩ := hcut
      cases kq with
      | zero => exact absurd HA.out (by simp [spec_StepBytes.j0])
      | succ kj2 =>
        have H := HA.out
        clear HA
        simp only [spec_StepBytes.j0] at H
        obtain ⟨y195, hy195⟩ : ∃ y_ : List Int, y_ = (([] : List Int)) := ⟨_, rfl⟩
        replace H : (spec_StepBytes.l0 kj2 x3_2 128 y195 0 true a0_1 a0_2 l0_3 a0_4) = some r := by first | (rw [hy195]; with_reducible exact H) | (have H2_ := (Option.bind_some _ _).symm.trans H; rw [hy195]; with_reducible exact H2_) | (have H2_ := (Option.bind_some _ _).symm.trans H; with_reducible exact H2_) | with_reducible exact H | (rw [hy195]; exact H) | exact H
        have Ny195 := Aside0.mk hy195
        clear hy195
        have H' := Aside0.mk H
        clear H
        go_wp2_with (first | ((with_reducible refine gate_dst (N := 23) rfl ?_); refine Kd.R_lit (Kd.int .u8) _ 5 ?hg (N := 23) ?hd (xs := ([] : List Int)) (inner := []) (ok := fun _ => True) (okp := fun _ => True) ?hr ?hp (fun _ hk => hk) trivial (Below.refl _ _) (Nat.le_refl _) (by simp) ?_; (case hd => rfl); (case hg => rfl); (case hr => first | (go_simp; done) | (go_simp; rfl)); (case hp => exact (Reps.none _ _)); intro v196 w7 ho8 hb hg_ hnew_; clear hg_ hnew_; (first | rw [← Ny195.out] at ho8 | (simp only [Int.reduceToNat] at ho8; rw [← Ny195.out] at ho8)); have n0_ := Aside0.mk (Kd.R_lower ho8 (below_size (by repeat (first | (with_reducible first | exact HB.out | apply below_alloc | apply pw_below_drewN | apply below_drew1 | refine below_set ?_ GE188.out) | exact HB.out)))); have n1_ := Aside0.mk (blk_below (g := gb188) (o := .cells #[.bool true, .int .i64 a0_1, .int .i64 a0_2, .slice A0_3 l0_3.length c0_3, .int .i64 a0_4] 105 (0, 0)) (by (with_reducible repeat (first | refine blk_drewN ?_ _ | refine blk_drew ?_ | refine blk_alloc ?_ _)); exact BK188.out) hb); have n2_ := Aside0.mk (below_step (by repeat (first | (with_reducible first | exact HB.out | apply below_alloc | apply pw_below_drewN | apply below_drew1 | refine below_set ?_ GE188.out) | exact HB.out)) hb); clear BK188; clear HB; have HO197 := n0_; have BK188 := n1_; have HB := n2_; clear n0_ n1_ n2_; clear hb ho8))
        go_loopg [4, 5, 24] kj2 (fun kq v4 v5 v24 w' => ∃ (x4_2 : Int) (x5_2 : List Int) (x24_2 : Int), v4 = .int .u8 x4_2 ∧ v24 = .int .i64 x24_2 ∧ Aside0 (spec_StepBytes.l0 kq x3_2 x4_2 x5_2 x24_2 true a0_1 a0_2 l0_3 a0_4 = some r) ∧ Aside0 (kq ≤ kj2) ∧ Aside0 (Kd.R (Kd.int .u8) 5 w' w.heap.size (fun _ => True) v5 x5_2) ∧ Aside0 (w'.heap[gb188]? = some (.cells #[.bool true, .int .i64 a0_1, .int .i64 a0_2, (.slice A0_3 l0_3.length c0_3), .int .i64 a0_4] 105 (0, 0))) ∧ Aside0 (Below w.heap.size w w'))
        case atStart => exact ⟨(128), (y195), (0), (by first | rfl | (simp; done) | (simp [*]; done)), (by first | rfl | (simp; done) | (simp [*]; done)), H', ⟨Nat.le_refl _⟩, ⟨by (with_reducible repeat (first | apply Kd.R_alloc | apply Kd.R_drewN | apply Kd.R_drew)); exact HO197.out⟩, ⟨by (with_reducible repeat (first | refine blk_drewN ?_ _ | refine blk_drew ?_ | refine blk_alloc ?_ _)); exact BK188.out⟩, ⟨by repeat (first | (with_reducible first | exact HB.out | apply below_alloc | apply pw_below_drewN | apply below_drew1 | refine below_set ?_ GE188.out) | exact HB.out)⟩⟩
        case round =>
          clear H'
          try clear c2
          try clear p2
          try clear c4
          try clear c6
          try clear c6b0
          try clear c6b1
          try clear hcz5_0
          try clear hcz5_1
          try clear hcz5_2
          try clear hcz5_3
          try clear hcz5_4
          try clear hfz5_0
          try clear hfz5_1
          try clear hfz5_2
          try clear hfz5_3
          try clear hfz5_4
          try clear p2
          obtain ⟨x4_2, x5_2, x24_2, rfl, rfl, HA, HK2, HO_5, BK188, HB⟩ := hrel
          cases gk with
          | zero => exact absurd HA.out (by simp [spec_StepBytes.l0])
          | succ k2 =>
            have H := HA.out
            clear HA
            simp only [spec_StepBytes.l0] at H
            by_cases c9 : x24_2 < 7
            · rw [if_pos c9] at H
              have c9b0 : decide (x24_2 < 7) = true := decide_eq_true c9
              clear c9
              obtain ⟨ji10, hji10⟩ : ∃ j_ : Int, (wrap64 (8 * x24_2)) = j_ := ⟨_, rfl⟩
              replace H : (if 0 ≤ (ji10) then (if x24_2 ≥ 4 then (if 0 ≤ (wrap64 (8 * (wrap64 (x24_2 - 4)))) then (if ((shr .i64 x3_2 (wrap64 (8 * (wrap64 (x24_2 - 4))))) % 256) = 0 then (if 0 ≤ x24_2 then (if (Go.bits .and .i64 (shr .i64 a0_4 x24_2) 1) = 1 then (if x5_2.length < 140737488355328 then (spec_StepBytes.l0 k2 x3_2 (Go.bits .or .u8 x4_2 (shl .u8 1 x24_2)) (x5_2 ++ [(shr .i64 x3_2 (wrap64 (8 * (wrap64 (x24_2 - 4))))) % 256]) (wrap64 (x24_2 + 1)) true a0_1 a0_2 l0_3 a0_4) else (none)) else (spec_StepBytes.l0 k2 x3_2 x4_2 x5_2 (wrap64 (x24_2 + 1)) true a0_1 a0_2 l0_3 a0_4)) else (none)) else (if 0 ≤ x24_2 then (if x5_2.length < 140737488355328 then (spec_StepBytes.l0 k2 x3_2 (Go.bits .or .u8 x4_2 (shl .u8 1 x24_2)) (x5_2 ++ [(shr .i64 x3_2 (wrap64 (8 * (wrap64 (x24_2 - 4))))) % 256]) (wrap64 (x24_2 + 1)) true a0_1 a0_2 l0_3 a0_4) else (none)) else (none))) else (none)) else (if ((shr .i64 a0_1 (ji10)) % 256) = 0 then (if 0 ≤ x24_2 then (if (Go.bits .and .i64 (shr .i64 a0_4 x24_2) 1) = 1 then (if x5_2.length < 140737488355328 then (spec_StepBytes.l0 k2 x3_2 (Go.bits .or .u8 x4_2 (shl .u8 1 x24_2)) (x5_2 ++ [(shr .i64 a0_1 (ji10)) % 256]) (wrap64 (x24_2 + 1)) true a0_1 a0_2 l0_3 a0_4) else (none)) else (spec_StepBytes.l0 k2 x3_2 x4_2 x5_2 (wrap64 (x24_2 + 1)) true a0_1 a0_2 l0_3 a0_4)) else (none)) else (if 0 ≤ x24_2 then (if x5_2.length < 140737488355328 then (spec_StepBytes.l0 k2 x3_2 (Go.bits .or .u8 x4_2 (shl .u8 1 x24_2)) (x5_2 ++ [(shr .i64 a0_1 (ji10)) % 256]) (wrap64 (x24_2 + 1)) true a0_1 a0_2 l0_3 a0_4) else (none)) else (none)))) else (none)) = some r := by first | (rw [hji10] at H; exact H) | (simp only [hji10] at H ⊢; exact H)
              have hji10w : (IntKind.i64.wrap (8 * x24_2)) = ji10 := (i64_w _).trans hji10
              by_cases c11 : 0 ≤ (ji10)
              · rw [if_pos c11] at H
                have c11b0 := eq_true c11
                have c11b1 : decide (0 ≤ (ji10)) = true := decide_eq_true c11
                clear c11
                obtain ⟨ji12, hji12⟩ : ∃ j_ : Int, (shr .i64 a0_1 (ji10)) = j_ := ⟨_, rfl⟩
                replace H : (if x24_2 ≥ 4 then (if 0 ≤ (wrap64 (8 * (wrap64 (x24_2 - 4)))) then (if ((shr .i64 x3_2 (wrap64 (8 * (wrap64 (x24_2 - 4))))) % 256) = 0 then (if 0 ≤ x24_2 then (if (Go.bits .and .i64 (shr .i64 a0_4 x24_2) 1) = 1 then (if x5_2.length < 140737488355328 then (spec_StepBytes.l0 k2 x3_2 (Go.bits .or .u8 x4_2 (shl .u8 1 x24_2)) (x5_2 ++ [(shr .i64 x3_2 (wrap64 (8 * (wrap64 (x24_2 - 4))))) % 256]) (wrap64 (x24_2 + 1)) true a0_1 a0_2 l0_3 a0_4) else (none)) else (spec_StepBytes.l0 k2 x3_2 x4_2 x5_2 (wrap64 (x24_2 + 1)) true a0_1 a0_2 l0_3 a0_4)) else (none)) else (if 0 ≤ x24_2 then (if x5_2.length < 140737488355328 then (spec_StepBytes.l0 k2 x3_2 (Go.bits .or .u8 x4_2 (shl .u8 1 x24_2)) (x5_2 ++ [(shr .i64 x3_2 (wrap64 (8 * (wrap64 (x24_2 - 4))))) % 256]) (wrap64 (x24_2 + 1)) true a0_1 a0_2 l0_3 a0_4) else (none)) else (none))) else (none)) else (if ((ji12) % 256) = 0 then (if 0 ≤ x24_2 then (if (Go.bits .and .i64 (shr .i64 a0_4 x24_2) 1) = 1 then (if x5_2.length < 140737488355328 then (spec_StepBytes.l0 k2 x3_2 (Go.bits .or .u8 x4_2 (shl .u8 1 x24_2)) (x5_2 ++ [(ji12) % 256]) (wrap64 (x24_2 + 1)) true a0_1 a0_2 l0_3 a0_4) else (none)) else (spec_StepBytes.l0 k2 x3_2 x4_2 x5_2 (wrap64 (x24_2 + 1)) true a0_1 a0_2 l0_3 a0_4)) else (none)) else (if 0 ≤ x24_2 then (if x5_2.length < 140737488355328 then (spec_StepBytes.l0 k2 x3_2 (Go.bits .or .u8 x4_2 (shl .u8 1 x24_2)) (x5_2 ++ [(ji12) % 256]) (wrap64 (x24_2 + 1)) true a0_1 a0_2 l0_3 a0_4) else (none)) else (none)))) = some r := by first | (rw [hji12] at H; exact H) | (simp only [hji12] at H ⊢; exact H)
                have hji12_ : (a0_1 / 2 ^ min (ji10).toNat 64) = ji12 := hji12
                have hji12z : (ji10) ≤ 64 → (a0_1 / 2 ^ (ji10).toNat) = ji12 := shr_small hji12
                by_cases c13 : x24_2 ≥ 4
                · rw [if_pos c13] at H
                  have c13b0 : decide (4 ≤ x24_2) = true := decide_eq_true c13
                  clear c13
                  obtain ⟨ji14, hji14⟩ : ∃ j_ : Int, (wrap64 (8 * (wrap64 (x24_2 - 4)))) = j_ := ⟨_, rfl⟩
                  replace H : (if 0 ≤ (ji14) then (if ((shr .i64 x3_2 (ji14)) % 256) = 0 then (if 0 ≤ x24_2 then (if (Go.bits .and .i64 (shr .i64 a0_4 x24_2) 1) = 1 then (if x5_2.length < 140737488355328 then (spec_StepBytes.l0 k2 x3_2 (Go.bits .or .u8 x4_2 (shl .u8 1 x24_2)) (x5_2 ++ [(shr .i64 x3_2 (ji14)) % 256]) (wrap64 (x24_2 + 1)) true a0_1 a0_2 l0_3 a0_4) else (none)) else (spec_StepBytes.l0 k2 x3_2 x4_2 x5_2 (wrap64 (x24_2 + 1)) true a0_1 a0_2 l0_3 a0_4)) else (none)) else (if 0 ≤ x24_2 then (if x5_2.length < 140737488355328 then (spec_StepBytes.l0 k2 x3_2 (Go.bits .or .u8 x4_2 (shl .u8 1 x24_2)) (x5_2 ++ [(shr .i64 x3_2 (ji14)) % 256]) (wrap64 (x24_2 + 1)) true a0_1 a0_2 l0_3 a0_4) else (none)) else (none))) else (none)) = some r := by first | (rw [hji14] at H; exact H) | (simp only [hji14] at H ⊢; exact H)
                  have hji14w : (IntKind.i64.wrap (8 * (wrap64 (x24_2 - 4)))) = ji14 := (i64_w _).trans hji14
                  by_cases c15 : 0 ≤ (ji14)
                  · rw [if_pos c15] at H
                    have c15b0 := eq_true c15
                    have c15b1 : decide (0 ≤ (ji14)) = true := decide_eq_true c15
                    clear c15
                    obtain ⟨ji16, hji16⟩ : ∃ j_ : Int, (shr .i64 x3_2 (ji14)) = j_ := ⟨_, rfl⟩
                    replace H : (if ((ji16) % 256) = 0 then (if 0 ≤ x24_2 then (if (Go.bits .and .i64 (shr .i64 a0_4 x24_2) 1) = 1 then (if x5_2.length < 140737488355328 then (spec_StepBytes.l0 k2 x3_2 (Go.bits .or .u8 x4_2 (shl .u8 1 x24_2)) (x5_2 ++ [(ji16) % 256]) (wrap64 (x24_2 + 1)) true a0_1 a0_2 l0_3 a0_4) else (none)) else (spec_StepBytes.l0 k2 x3_2 x4_2 x5_2 (wrap64 (x24_2 + 1)) true a0_1 a0_2 l0_3 a0_4)) else (none)) else (if 0 ≤ x24_2 then (if x5_2.length < 140737488355328 then (spec_StepBytes.l0 k2 x3_2 (Go.bits .or .u8 x4_2 (shl .u8 1 x24_2)) (x5_2 ++ [(ji16) % 256]) (wrap64 (x24_2 + 1)) true a0_1 a0_2 l0_3 a0_4) else (none)) else (none))) = some r := by first | (rw [hji16] at H; exact H) | (simp only [hji16] at H ⊢; exact H)
                    have hji16_ : (x3_2 / 2 ^ min (ji14).toNat 64) = ji16 := hji16
                    have hji16z : (ji14) ≤ 64 → (x3_2 / 2 ^ (ji14).toNat) = ji16 := shr_small hji16
                    by_cases c17 : ((ji16) % 256) = 0
                    · rw [if_pos c17] at H
                      have c17b0 : (((ji16) % 256) == 0) = true := beq_iff_eq.mpr c17
                      have c17b1 : (((ji16) % 256) != 0) = false := bne_eq_false_iff_eq.mpr c17
                      clear c17
                      by_cases c18 : 0 ≤ x24_2
                      · rw [if_pos c18] at H
                        have c18b0 := eq_true c18
                        have c18b1 : decide (0 ≤ x24_2) = true := decide_eq_true c18
                        clear c18
                        obtain ⟨ji19, hji19⟩ : ∃ j_ : Int, (shr .i64 a0_4 x24_2) = j_ := ⟨_, rfl⟩
                        replace H : (if (Go.bits .and .i64 (ji19) 1) = 1 then (if x5_2.length < 140737488355328 then (spec_StepBytes.l0 k2 x3_2 (Go.bits .or .u8 x4_2 (shl .u8 1 x24_2)) (x5_2 ++ [(ji16) % 256]) (wrap64 (x24_2 + 1)) true a0_1 a0_2 l0_3 a0_4) else (none)) else (spec_StepBytes.l0 k2 x3_2 x4_2 x5_2 (wrap64 (x24_2 + 1)) true a0_1 a0_2 l0_3 a0_4)) = some r := by first | (rw [hji19] at H; exact H) | (simp only [hji19] at H ⊢; exact H)
                        have hji19_ : (a0_4 / 2 ^ min x24_2.toNat 64) = ji19 := hji19
                        have hji19z : x24_2 ≤ 64 → (a0_4 / 2 ^ x24_2.toNat) = ji19 := shr_small hji19
                        by_cases c20 : (Go.bits .and .i64 (ji19) 1) = 1
                        · rw [if_pos c20] at H
                          have c20b0 : ((Go.bits .and .i64 (ji19) 1) == 1) = true := beq_iff_eq.mpr c20
                          have c20b1 : ((Go.bits .and .i64 (ji19) 1) != 1) = false := bne_eq_false_iff_eq.mpr c20
                          clear c20
                          have c21b0 := eq_true (of_decide_eq_true (by first | (with_reducible assumption) | assumption) : 0 ≤ x24_2)
                          obtain ⟨ji22, hji22⟩ : ∃ j_ : Int, (shl .u8 1 x24_2) = j_ := ⟨_, rfl⟩
                          replace H : (if x5_2.length < 140737488355328 then (spec_StepBytes.l0 k2 x3_2 (Go.bits .or .u8 x4_2 (ji22)) (x5_2 ++ [(ji16) % 256]) (wrap64 (x24_2 + 1)) true a0_1 a0_2 l0_3 a0_4) else (none)) = some r := by first | (rw [hji22] at H; exact H) | (simp only [hji22] at H ⊢; exact H)
                          have hji22_ : (IntKind.u8.wrap (1 * 2 ^ min x24_2.toNat 8)) = ji22 := hji22
                          have hji22z : x24_2 ≤ 8 → (IntKind.u8.wrap (1 * 2 ^ x24_2.toNat)) = ji22 := shl_small hji22
                          have hji22u : (IntKind.u8.wrap (2 ^ min x24_2.toNat 8)) = ji22 := by have h_ := hji22_; rw [Int.one_mul] at h_; exact h_
                          have hji22v : x24_2 ≤ 8 → (IntKind.u8.wrap (2 ^ x24_2.toNat)) = ji22 := fun hle_ => by have h_ := hji22z hle_; rw [Int.one_mul] at h_; exact h_
                          by_cases c23 : x5_2.length < 140737488355328
                          · rw [if_pos c23] at H
                            have LMc23 := Aside0.mk c23
                            clear c23
                            obtain ⟨y204, hy204⟩ : ∃ y_ : List Int, y_ = (x5_2 ++ [(ji16) % 256]) := ⟨_, rfl⟩
                            replace H : (spec_StepBytes.l0 k2 x3_2 (Go.bits .or .u8 x4_2 (ji22)) y204 (wrap64 (x24_2 + 1)) true a0_1 a0_2 l0_3 a0_4) = some r := by first | (rw [hy204]; with_reducible exact H) | (have H2_ := (Option.bind_some _ _).symm.trans H; rw [hy204]; with_reducible exact H2_) | (have H2_ := (Option.bind_some _ _).symm.trans H; with_reducible exact H2_) | with_reducible exact H | (rw [hy204]; exact H) | exact H
                            have Ny204 := Aside0.mk hy204
                            clear hy204
                            have H' := Aside0.mk H
                            clear H
                            have hcz24_0 : wr.cell? ⟨gb188, 0, none⟩ = some (.bool true) := (blk_cell BK188.out 0).trans rfl
                            have hcz24_1 : wr.cell? ⟨gb188, 1, none⟩ = some (.int .i64 a0_1) := (blk_cell BK188.out 1).trans rfl
                            have hcz24_2 : wr.cell? ⟨gb188, 2, none⟩ = some (.int .i64 a0_2) := (blk_cell BK188.out 2).trans rfl
                            have hcz24_3 : wr.cell? ⟨gb188, 3, none⟩ = some (.slice A0_3 l0_3.length c0_3) := (blk_cell BK188.out 3).trans rfl
                            have hcz24_4 : wr.cell? ⟨gb188, 4, none⟩ = some (.int .i64 a0_4) := (blk_cell BK188.out 4).trans rfl
                            have hfz24_0 := blk_frozen BK188.out 0
                            have hfz24_1 := blk_frozen BK188.out 1
                            have hfz24_2 := blk_frozen BK188.out 2
                            have hfz24_3 := blk_frozen BK188.out 3
                            have hfz24_4 := blk_frozen BK188.out 4
                            go_wp2_with (first | ((with_reducible refine gate_builtin (b := .append) (xs := #[.tmp 55, .tmp 57]) rfl ?_); at_builtin; refine Kd.R_append (Kd.int .u8) (w0 := w) w.heap.size rfl (.tmp 55) (.tmp 57) 25 5 (.int .u8 0) 1 rfl Tryz.underlying25 info5 rfl (by decide) (by omega) u5 x5_2 ((ji16) % 256) [.int .u8 ((ji16) % 256)] (fun _ => True) (fun _ => False) rfl rfl ?aP (fun _ hk => hk.elim) ?aF ?aO ?aB ?aS ?aL ?_; (case aP => exact rfl); (case aB => exact (by repeat (first | (with_reducible first | exact HB.out | apply below_alloc | apply pw_below_drewN | apply below_drew1 | refine below_set ?_ GE188.out) | exact HB.out))); (case aF => exact (fun _ _ => trivial)); (case aO => exact (by (with_reducible repeat (first | apply Kd.R_alloc | apply Kd.R_drewN | apply Kd.R_drew)); exact HO_5.out)); (case aS => exact (below_size (by repeat (first | (with_reducible first | exact HB.out | apply below_alloc | apply pw_below_drewN | apply below_drew1 | refine below_set ?_ GE188.out) | exact HB.out)))); (case aL => have := LMc23.out; omega); intro v205 w25 ho hb hg hat; rw [← Ny204.out] at ho; have n0_ := Aside0.mk (blk_grown (g := gb188) (o := .cells #[.bool true, .int .i64 a0_1, .int .i64 a0_2, .slice A0_3 l0_3.length c0_3, .int .i64 a0_4] 105 (0, 0)) (by (with_reducible repeat (first | refine blk_drewN ?_ _ | refine blk_drew ?_ | refine blk_alloc ?_ _)); exact BK188.out) hg (Kd.R_ne HO_5.out BK188.out (by decide))); have n1_ := Aside0.mk (hb); have n2_ := Aside0.mk (ho); clear BK188; clear HB; clear HO_5; have BK188 := n0_; have HB := n1_; have HO206 := n2_; clear n0_ n1_ n2_; clear ho hb hg hat))
                            go_roundg k2
                            case measure => have := HJ2.out; have := HK2.out; omega
                            case rel => exact ⟨(Go.bits .or .u8 x4_2 (ji22)), (y204), (wrap64 (x24_2 + 1)), (by first | rfl | (simp; done) | (simp only [← hji22] <;> (first | rfl | simp)) | (simp [*]; done)), (by first | rfl | (simp; done) | (simp [*]; done)), H', ⟨by have := HJ2.out; have := HK2.out; omega⟩, ⟨by (with_reducible repeat (first | apply Kd.R_alloc | apply Kd.R_drewN | apply Kd.R_drew)); exact HO206.out⟩, ⟨by (with_reducible repeat (first | refine blk_drewN ?_ _ | refine blk_drew ?_ | refine blk_alloc ?_ _)); exact BK188.out⟩, ⟨by repeat (first | (with_reducible first | exact HB.out | apply below_alloc | apply pw_below_drewN | apply below_drew1 | refine below_set ?_ GE188.out) | exact HB.out)⟩⟩
                          · rw [if_neg c23] at H
                            exact absurd H (by simp)
                        · rw [if_neg c20] at H
                          have c20b0 : ((Go.bits .and .i64 (ji19) 1) == 1) = false := beq_eq_false_iff_ne.mpr c20
                          have c20b1 : ((Go.bits .and .i64 (ji19) 1) != 1) = true := bne_iff_ne.mpr c20
                          have H' := Aside0.mk H
                          clear H
                          have hcz26_0 : wr.cell? ⟨gb188, 0, none⟩ = some (.bool true) := (blk_cell BK188.out 0).trans rfl
                          have hcz26_1 : wr.cell? ⟨gb188, 1, none⟩ = some (.int .i64 a0_1) := (blk_cell BK188.out 1).trans rfl
                          have hcz26_2 : wr.cell? ⟨gb188, 2, none⟩ = some (.int .i64 a0_2) := (blk_cell BK188.out 2).trans rfl
                          have hcz26_3 : wr.cell? ⟨gb188, 3, none⟩ = some (.slice A0_3 l0_3.length c0_3) := (blk_cell BK188.out 3).trans rfl
                          have hcz26_4 : wr.cell? ⟨gb188, 4, none⟩ = some (.int .i64 a0_4) := (blk_cell BK188.out 4).trans rfl
                          have hfz26_0 := blk_frozen BK188.out 0
                          have hfz26_1 := blk_frozen BK188.out 1
                          have hfz26_2 := blk_frozen BK188.out 2
                          have hfz26_3 := blk_frozen BK188.out 3
                          have hfz26_4 := blk_frozen BK188.out 4
                          go_wp2
                          go_roundg k2
                          case measure => have := HJ2.out; have := HK2.out; omega
                          case rel => exact ⟨(x4_2), (x5_2), (wrap64 (x24_2 + 1)), (by first | rfl | (simp; done) | (simp [*]; done)), (by first | rfl | (simp; done) | (simp [*]; done)), H', ⟨by have := HJ2.out; have := HK2.out; omega⟩, ⟨by (with_reducible repeat (first | apply Kd.R_alloc | apply Kd.R_drewN | apply Kd.R_drew)); exact HO_5.out⟩, ⟨by (with_reducible repeat (first | refine blk_drewN ?_ _ | refine blk_drew ?_ | refine blk_alloc ?_ _)); exact BK188.out⟩, ⟨by repeat (first | (with_reducible first | exact HB.out | apply below_alloc | apply pw_below_drewN | apply below_drew1 | refine below_set ?_ GE188.out) | exact HB.out)⟩⟩
                      · rw [if_neg c18] at H
                        exact absurd H (by simp)
                    · rw [if_neg c17] at H
                      have c17b0 : (((ji16) % 256) == 0) = false := beq_eq_false_iff_ne.mpr c17
                      have c17b1 : (((ji16) % 256) != 0) = true := bne_iff_ne.mpr c17
                      by_cases c27 : 0 ≤ x24_2
                      · rw [if_pos c27] at H
                        have c27b0 := eq_true c27
                        have c27b1 : decide (0 ≤ x24_2) = true := decide_eq_true c27
                        clear c27
                        obtain ⟨ji28, hji28⟩ : ∃ j_ : Int, (shl .u8 1 x24_2) = j_ := ⟨_, rfl⟩
                        replace H : (if x5_2.length < 140737488355328 then (spec_StepBytes.l0 k2 x3_2 (Go.bits .or .u8 x4_2 (ji28)) (x5_2 ++ [(ji16) % 256]) (wrap64 (x24_2 + 1)) true a0_1 a0_2 l0_3 a0_4) else (none)) = some r := by first | (rw [hji28] at H; exact H) | (simp only [hji28] at H ⊢; exact H)
                        have hji28_ : (IntKind.u8.wrap (1 * 2 ^ min x24_2.toNat 8)) = ji28 := hji28
                        have hji28z : x24_2 ≤ 8 → (IntKind.u8.wrap (1 * 2 ^ x24_2.toNat)) = ji28 := shl_small hji28
                        have hji28u : (IntKind.u8.wrap (2 ^ min x24_2.toNat 8)) = ji28 := by have h_ := hji28_; rw [Int.one_mul] at h_; exact h_
                        have hji28v : x24_2 ≤ 8 → (IntKind.u8.wrap (2 ^ x24_2.toNat)) = ji28 := fun hle_ => by have h_ := hji28z hle_; rw [Int.one_mul] at h_; exact h_
                        by_cases c29 : x5_2.length < 140737488355328
                        · rw [if_pos c29] at H
                          have LMc29 := Aside0.mk c29
                          clear c29
                          obtain ⟨y207, hy207⟩ : ∃ y_ : List Int, y_ = (x5_2 ++ [(ji16) % 256]) := ⟨_, rfl⟩
                          replace H : (spec_StepBytes.l0 k2 x3_2 (Go.bits .or .u8 x4_2 (ji28)) y207 (wrap64 (x24_2 + 1)) true a0_1 a0_2 l0_3 a0_4) = some r := by first | (rw [hy207]; with_reducible exact H) | (have H2_ := (Option.bind_some _ _).symm.trans H; rw [hy207]; with_reducible exact H2_) | (have H2_ := (Option.bind_some _ _).symm.trans H; with_reducible exact H2_) | with_reducible exact H | (rw [hy207]; exact H) | exact H
                          have Ny207 := Aside0.mk hy207
                          clear hy207
                          have H' := Aside0.mk H
                          clear H
                          have hcz30_0 : wr.cell? ⟨gb188, 0, none⟩ = some (.bool true) := (blk_cell BK188.out 0).trans rfl
                          have hcz30_1 : wr.cell? ⟨gb188, 1, none⟩ = some (.int .i64 a0_1) := (blk_cell BK188.out 1).trans rfl
                          have hcz30_2 : wr.cell? ⟨gb188, 2, none⟩ = some (.int .i64 a0_2) := (blk_cell BK188.out 2).trans rfl
                          have hcz30_3 : wr.cell? ⟨gb188, 3, none⟩ = some (.slice A0_3 l0_3.length c0_3) := (blk_cell BK188.out 3).trans rfl
                          have hcz30_4 : wr.cell? ⟨gb188, 4, none⟩ = some (.int .i64 a0_4) := (blk_cell BK188.out 4).trans rfl
                          have hfz30_0 := blk_frozen BK188.out 0
                          have hfz30_1 := blk_frozen BK188.out 1
                          have hfz30_2 := blk_frozen BK188.out 2
                          have hfz30_3 := blk_frozen BK188.out 3
                          have hfz30_4 := blk_frozen BK188.out 4
                          go_wp2_with (first | ((with_reducible refine gate_builtin (b := .append) (xs := #[.tmp 55, .tmp 57]) rfl ?_); at_builtin; refine Kd.R_append (Kd.int .u8) (w0 := w) w.heap.size rfl (.tmp 55) (.tmp 57) 25 5 (.int .u8 0) 1 rfl Tryz.underlying25 info5 rfl (by decide) (by omega) u5 x5_2 ((ji16) % 256) [.int .u8 ((ji16) % 256)] (fun _ => True) (fun _ => False) rfl rfl ?aP (fun _ hk => hk.elim) ?aF ?aO ?aB ?aS ?aL ?_; (case aP => exact rfl); (case aB => exact (by repeat (first | (with_reducible first | exact HB.out | apply below_alloc | apply pw_below_drewN | apply below_drew1 | refine below_set ?_ GE188.out) | exact HB.out))); (case aF => exact (fun _ _ => trivial)); (case aO => exact (by (with_reducible repeat (first | apply Kd.R_alloc | apply Kd.R_drewN | apply Kd.R_drew)); exact HO_5.out)); (case aS => exact (below_size (by repeat (first | (with_reducible first | exact HB.out | apply below_alloc | apply pw_below_drewN | apply below_drew1 | refine below_set ?_ GE188.out) | exact HB.out)))); (case aL => have := LMc29.out; omega); intro v208 w31 ho hb hg hat; rw [← Ny207.out] at ho; have n0_ := Aside0.mk (blk_grown (g := gb188) (o := .cells #[.bool true, .int .i64 a0_1, .int .i64 a0_2, .slice A0_3 l0_3.length c0_3, .int .i64 a0_4] 105 (0, 0)) (by (with_reducible repeat (first | refine blk_drewN ?_ _ | refine blk_drew ?_ | refine blk_alloc ?_ _)); exact BK188.out) hg (Kd.R_ne HO_5.out BK188.out (by decide))); have n1_ := Aside0.mk (hb); have n2_ := Aside0.mk (ho); clear BK188; clear HB; clear HO_5; have BK188 := n0_; have HB := n1_; have HO209 := n2_; clear n0_ n1_ n2_; clear ho hb hg hat))
                          go_roundg k2
                          case measure => have := HJ2.out; have := HK2.out; omega
                          case rel => exact ⟨(Go.bits .or .u8 x4_2 (ji28)), (y207), (wrap64 (x24_2 + 1)), (by first | rfl | (simp; done) | (simp only [← hji28] <;> (first | rfl | simp)) | (simp [*]; done)), (by first | rfl | (simp; done) | (simp [*]; done)), H', ⟨by have := HJ2.out; have := HK2.out; omega⟩, ⟨by (with_reducible repeat (first | apply Kd.R_alloc | apply Kd.R_drewN | apply Kd.R_drew)); exact HO209.out⟩, ⟨by (with_reducible repeat (first | refine blk_drewN ?_ _ | refine blk_drew ?_ | refine blk_alloc ?_ _)); exact BK188.out⟩, ⟨by repeat (first | (with_reducible first | exact HB.out | apply below_alloc | apply pw_below_drewN | apply below_drew1 | refine below_set ?_ GE188.out) | exact HB.out)⟩⟩
                        · rw [if_neg c29] at H
                          exact absurd H (by simp)
                      · rw [if_neg c27] at H
                        exact absurd H (by simp)
                  · rw [if_neg c15] at H
                    exact absurd H (by simp)
                · rw [if_neg c13] at H
                  have c13b0 : decide (4 ≤ x24_2) = false := decide_eq_false c13
                  clear c13
                  by_cases c32 : ((ji12) % 256) = 0
                  · rw [if_pos c32] at H
                    have c32b0 : (((ji12) % 256) == 0) = true := beq_iff_eq.mpr c32
                    have c32b1 : (((ji12) % 256) != 0) = false := bne_eq_false_iff_eq.mpr c32
                    clear c32
                    by_cases c33 : 0 ≤ x24_2
                    · rw [if_pos c33] at H
                      have c33b0 := eq_true c33
                      have c33b1 : decide (0 ≤ x24_2) = true := decide_eq_true c33
                      clear c33
                      obtain ⟨ji34, hji34⟩ : ∃ j_ : Int, (shr .i64 a0_4 x24_2) = j_ := ⟨_, rfl⟩
                      replace H : (if (Go.bits .and .i64 (ji34) 1) = 1 then (if x5_2.length < 140737488355328 then (spec_StepBytes.l0 k2 x3_2 (Go.bits .or .u8 x4_2 (shl .u8 1 x24_2)) (x5_2 ++ [(ji12) % 256]) (wrap64 (x24_2 + 1)) true a0_1 a0_2 l0_3 a0_4) else (none)) else (spec_StepBytes.l0 k2 x3_2 x4_2 x5_2 (wrap64 (x24_2 + 1)) true a0_1 a0_2 l0_3 a0_4)) = some r := by first | (rw [hji34] at H; exact H) | (simp only [hji34] at H ⊢; exact H)
                      have hji34_ : (a0_4 / 2 ^ min x24_2.toNat 64) = ji34 := hji34
                      have hji34z : x24_2 ≤ 64 → (a0_4 / 2 ^ x24_2.toNat) = ji34 := shr_small hji34
                      by_cases c35 : (Go.bits .and .i64 (ji34) 1) = 1
                      · rw [if_pos c35] at H
                        have c35b0 : ((Go.bits .and .i64 (ji34) 1) == 1) = true := beq_iff_eq.mpr c35
                        have c35b1 : ((Go.bits .and .i64 (ji34) 1) != 1) = false := bne_eq_false_iff_eq.mpr c35
                        clear c35
                        have c36b0 := eq_true (of_decide_eq_true (by first | (with_reducible assumption) | assumption) : 0 ≤ x24_2)
                        obtain ⟨ji37, hji37⟩ : ∃ j_ : Int, (shl .u8 1 x24_2) = j_ := ⟨_, rfl⟩
                        replace H : (if x5_2.length < 140737488355328 then (spec_StepBytes.l0 k2 x3_2 (Go.bits .or .u8 x4_2 (ji37)) (x5_2 ++ [(ji12) % 256]) (wrap64 (x24_2 + 1)) true a0_1 a0_2 l0_3 a0_4) else (none)) = some r := by first | (rw [hji37] at H; exact H) | (simp only [hji37] at H ⊢; exact H)
                        have hji37_ : (IntKind.u8.wrap (1 * 2 ^ min x24_2.toNat 8)) = ji37 := hji37
                        have hji37z : x24_2 ≤ 8 → (IntKind.u8.wrap (1 * 2 ^ x24_2.toNat)) = ji37 := shl_small hji37
                        have hji37u : (IntKind.u8.wrap (2 ^ min x24_2.toNat 8)) = ji37 := by have h_ := hji37_; rw [Int.one_mul] at h_; exact h_
                        have hji37v : x24_2 ≤ 8 → (IntKind.u8.wrap (2 ^ x24_2.toNat)) = ji37 := fun hle_ => by have h_ := hji37z hle_; rw [Int.one_mul] at h_; exact h_
                        by_cases c38 : x5_2.length < 140737488355328
                        · rw [if_pos c38] at H
                          have LMc38 := Aside0.mk c38
                          clear c38
                          obtain ⟨y210, hy210⟩ : ∃ y_ : List Int, y_ = (x5_2 ++ [(ji12) % 256]) := ⟨_, rfl⟩
                          replace H : (spec_StepBytes.l0 k2 x3_2 (Go.bits .or .u8 x4_2 (ji37)) y210 (wrap64 (x24_2 + 1)) true a0_1 a0_2 l0_3 a0_4) = some r := by first | (rw [hy210]; with_reducible exact H) | (have H2_ := (Option.bind_some _ _).symm.trans H; rw [hy210]; with_reducible exact H2_) | (have H2_ := (Option.bind_some _ _).symm.trans H; with_reducible exact H2_) | with_reducible exact H | (rw [hy210]; exact H) | exact H
                          have Ny210 := Aside0.mk hy210
                          clear hy210
                          have H' := Aside0.mk H
                          clear H
                          have hcz39_0 : wr.cell? ⟨gb188, 0, none⟩ = some (.bool true) := (blk_cell BK188.out 0).trans rfl
                          have hcz39_1 : wr.cell? ⟨gb188, 1, none⟩ = some (.int .i64 a0_1) := (blk_cell BK188.out 1).trans rfl
                          have hcz39_2 : wr.cell? ⟨gb188, 2, none⟩ = some (.int .i64 a0_2) := (blk_cell BK188.out 2).trans rfl
                          have hcz39_3 : wr.cell? ⟨gb188, 3, none⟩ = some (.slice A0_3 l0_3.length c0_3) := (blk_cell BK188.out 3).trans rfl
                          have hcz39_4 : wr.cell? ⟨gb188, 4, none⟩ = some (.int .i64 a0_4) := (blk_cell BK188.out 4).trans rfl
                          have hfz39_0 := blk_frozen BK188.out 0
                          have hfz39_1 := blk_frozen BK188.out 1
                          have hfz39_2 := blk_frozen BK188.out 2
                          have hfz39_3 := blk_frozen BK188.out 3
                          have hfz39_4 := blk_frozen BK188.out 4
                          go_wp2_with (first | ((with_reducible refine gate_builtin (b := .append) (xs := #[.tmp 55, .tmp 57]) rfl ?_); at_builtin; refine Kd.R_append (Kd.int .u8) (w0 := w) w.heap.size rfl (.tmp 55) (.tmp 57) 25 5 (.int .u8 0) 1 rfl Tryz.underlying25 info5 rfl (by decide) (by omega) u5 x5_2 ((ji12) % 256) [.int .u8 ((ji12) % 256)] (fun _ => True) (fun _ => False) rfl rfl ?aP (fun _ hk => hk.elim) ?aF ?aO ?aB ?aS ?aL ?_; (case aP => exact rfl); (case aB => exact (by repeat (first | (with_reducible first | exact HB.out | apply below_alloc | apply pw_below_drewN | apply below_drew1 | refine below_set ?_ GE188.out) | exact HB.out))); (case aF => exact (fun _ _ => trivial)); (case aO => exact (by (with_reducible repeat (first | apply Kd.R_alloc | apply Kd.R_drewN | apply Kd.R_drew)); exact HO_5.out)); (case aS => exact (below_size (by repeat (first | (with_reducible first | exact HB.out | apply below_alloc | apply pw_below_drewN | apply below_drew1 | refine below_set ?_ GE188.out) | exact HB.out)))); (case aL => have := LMc38.out; omega); intro v211 w40 ho hb hg hat; rw [← Ny210.out] at ho; have n0_ := Aside0.mk (blk_grown (g := gb188) (o := .cells #[.bool true, .int .i64 a0_1, .int .i64 a0_2, .slice A0_3 l0_3.length c0_3, .int .i64 a0_4] 105 (0, 0)) (by (with_reducible repeat (first | refine blk_drewN ?_ _ | refine blk_drew ?_ | refine blk_alloc ?_ _)); exact BK188.out) hg (Kd.R_ne HO_5.out BK188.out (by decide))); have n1_ := Aside0.mk (hb); have n2_ := Aside0.mk (ho); clear BK188; clear HB; clear HO_5; have BK188 := n0_; have HB := n1_; have HO212 := n2_; clear n0_ n1_ n2_; clear ho hb hg hat))
                          go_roundg k2
                          case measure => have := HJ2.out; have := HK2.out; omega
                          case rel => exact ⟨(Go.bits .or .u8 x4_2 (ji37)), (y210), (wrap64 (x24_2 + 1)), (by first | rfl | (simp; done) | (simp only [← hji37] <;> (first | rfl | simp)) | (simp [*]; done)), (by first | rfl | (simp; done) | (simp [*]; done)), H', ⟨by have := HJ2.out; have := HK2.out; omega⟩, ⟨by (with_reducible repeat (first | apply Kd.R_alloc | apply Kd.R_drewN | apply Kd.R_drew)); exact HO212.out⟩, ⟨by (with_reducible repeat (first | refine blk_drewN ?_ _ | refine blk_drew ?_ | refine blk_alloc ?_ _)); exact BK188.out⟩, ⟨by repeat (first | (with_reducible first | exact HB.out | apply below_alloc | apply pw_below_drewN | apply below_drew1 | refine below_set ?_ GE188.out) | exact HB.out)⟩⟩
                        · rw [if_neg c38] at H
                          exact absurd H (by simp)
                      · rw [if_neg c35] at H
                        have c35b0 : ((Go.bits .and .i64 (ji34) 1) == 1) = false := beq_eq_false_iff_ne.mpr c35
                        have c35b1 : ((Go.bits .and .i64 (ji34) 1) != 1) = true := bne_iff_ne.mpr c35
                        have H' := Aside0.mk H
                        clear H
                        have hcz41_0 : wr.cell? ⟨gb188, 0, none⟩ = some (.bool true) := (blk_cell BK188.out 0).trans rfl
                        have hcz41_1 : wr.cell? ⟨gb188, 1, none⟩ = some (.int .i64 a0_1) := (blk_cell BK188.out 1).trans rfl
                        have hcz41_2 : wr.cell? ⟨gb188, 2, none⟩ = some (.int .i64 a0_2) := (blk_cell BK188.out 2).trans rfl
                        have hcz41_3 : wr.cell? ⟨gb188, 3, none⟩ = some (.slice A0_3 l0_3.length c0_3) := (blk_cell BK188.out 3).trans rfl
                        have hcz41_4 : wr.cell? ⟨gb188, 4, none⟩ = some (.int .i64 a0_4) := (blk_cell BK188.out 4).trans rfl
                        have hfz41_0 := blk_frozen BK188.out 0
                        have hfz41_1 := blk_frozen BK188.out 1
                        have hfz41_2 := blk_frozen BK188.out 2
                        have hfz41_3 := blk_frozen BK188.out 3
                        have hfz41_4 := blk_frozen BK188.out 4
                        go_wp2
                        go_roundg k2
                        case measure => have := HJ2.out; have := HK2.out; omega
                        case rel => exact ⟨(x4_2), (x5_2), (wrap64 (x24_2 + 1)), (by first | rfl | (simp; done) | (simp [*]; done)), (by first | rfl | (simp; done) | (simp [*]; done)), H', ⟨by have := HJ2.out; have := HK2.out; omega⟩, ⟨by (with_reducible repeat (first | apply Kd.R_alloc | apply Kd.R_drewN | apply Kd.R_drew)); exact HO_5.out⟩, ⟨by (with_reducible repeat (first | refine blk_drewN ?_ _ | refine blk_drew ?_ | refine blk_alloc ?_ _)); exact BK188.out⟩, ⟨by repeat (first | (with_reducible first | exact HB.out | apply below_alloc | apply pw_below_drewN | apply below_drew1 | refine below_set ?_ GE188.out) | exact HB.out)⟩⟩
                    · rw [if_neg c33] at H
                      exact absurd H (by simp)
                  · rw [if_neg c32] at H
                    have c32b0 : (((ji12) % 256) == 0) = false := beq_eq_false_iff_ne.mpr c32
                    have c32b1 : (((ji12) % 256) != 0) = true := bne_iff_ne.mpr c32
                    by_cases c42 : 0 ≤ x24_2
                    · rw [if_pos c42] at H
                      have c42b0 := eq_true c42
                      have c42b1 : decide (0 ≤ x24_2) = true := decide_eq_true c42
                      clear c42
                      obtain ⟨ji43, hji43⟩ : ∃ j_ : Int, (shl .u8 1 x24_2) = j_ := ⟨_, rfl⟩
                      replace H : (if x5_2.length < 140737488355328 then (spec_StepBytes.l0 k2 x3_2 (Go.bits .or .u8 x4_2 (ji43)) (x5_2 ++ [(ji12) % 256]) (wrap64 (x24_2 + 1)) true a0_1 a0_2 l0_3 a0_4) else (none)) = some r := by first | (rw [hji43] at H; exact H) | (simp only [hji43] at H ⊢; exact H)
                      have hji43_ : (IntKind.u8.wrap (1 * 2 ^ min x24_2.toNat 8)) = ji43 := hji43
                      have hji43z : x24_2 ≤ 8 → (IntKind.u8.wrap (1 * 2 ^ x24_2.toNat)) = ji43 := shl_small hji43
                      have hji43u : (IntKind.u8.wrap (2 ^ min x24_2.toNat 8)) = ji43 := by have h_ := hji43_; rw [Int.one_mul] at h_; exact h_
                      have hji43v : x24_2 ≤ 8 → (IntKind.u8.wrap (2 ^ x24_2.toNat)) = ji43 := fun hle_ => by have h_ := hji43z hle_; rw [Int.one_mul] at h_; exact h_
                      by_cases c44 : x5_2.length < 140737488355328
                      · rw [if_pos c44] at H
                        have LMc44 := Aside0.mk c44
                        clear c44
                        obtain ⟨y213, hy213⟩ : ∃ y_ : List Int, y_ = (x5_2 ++ [(ji12) % 256]) := ⟨_, rfl⟩
                        replace H : (spec_StepBytes.l0 k2 x3_2 (Go.bits .or .u8 x4_2 (ji43)) y213 (wrap64 (x24_2 + 1)) true a0_1 a0_2 l0_3 a0_4) = some r := by first | (rw [hy213]; with_reducible exact H) | (have H2_ := (Option.bind_some _ _).symm.trans H; rw [hy213]; with_reducible exact H2_) | (have H2_ := (Option.bind_some _ _).symm.trans H; with_reducible exact H2_) | with_reducible exact H | (rw [hy213]; exact H) | exact H
                        have Ny213 := Aside0.mk hy213
                        clear hy213
                        have H' := Aside0.mk H
                        clear H
                        have hcz45_0 : wr.cell? ⟨gb188, 0, none⟩ = some (.bool true) := (blk_cell BK188.out 0).trans rfl
                        have hcz45_1 : wr.cell? ⟨gb188, 1, none⟩ = some (.int .i64 a0_1) := (blk_cell BK188.out 1).trans rfl
                        have hcz45_2 : wr.cell? ⟨gb188, 2, none⟩ = some (.int .i64 a0_2) := (blk_cell BK188.out 2).trans rfl
                        have hcz45_3 : wr.cell? ⟨gb188, 3, none⟩ = some (.slice A0_3 l0_3.length c0_3) := (blk_cell BK188.out 3).trans rfl
                        have hcz45_4 : wr.cell? ⟨gb188, 4, none⟩ = some (.int .i64 a0_4) := (blk_cell BK188.out 4).trans rfl
                        have hfz45_0 := blk_frozen BK188.out 0
                        have hfz45_1 := blk_frozen BK188.out 1
                        have hfz45_2 := blk_frozen BK188.out 2
                        have hfz45_3 := blk_frozen BK188.out 3
                        have hfz45_4 := blk_frozen BK188.out 4
                        go_wp2_with (first | ((with_reducible refine gate_builtin (b := .append) (xs := #[.tmp 55, .tmp 57]) rfl ?_); at_builtin; refine Kd.R_append (Kd.int .u8) (w0 := w) w.heap.size rfl (.tmp 55) (.tmp 57) 25 5 (.int .u8 0) 1 rfl Tryz.underlying25 info5 rfl (by decide) (by omega) u5 x5_2 ((ji12) % 256) [.int .u8 ((ji12) % 256)] (fun _ => True) (fun _ => False) rfl rfl ?aP (fun _ hk => hk.elim) ?aF ?aO ?aB ?aS ?aL ?_; (case aP => exact rfl); (case aB => exact (by repeat (first | (with_reducible first | exact HB.out | apply below_alloc | apply pw_below_drewN | apply below_drew1 | refine below_set ?_ GE188.out) | exact HB.out))); (case aF => exact (fun _ _ => trivial)); (case aO => exact (by (with_reducible repeat (first | apply Kd.R_alloc | apply Kd.R_drewN | apply Kd.R_drew)); exact HO_5.out)); (case aS => exact (below_size (by repeat (first | (with_reducible first | exact HB.out | apply below_alloc | apply pw_below_drewN | apply below_drew1 | refine below_set ?_ GE188.out) | exact HB.out)))); (case aL => have := LMc44.out; omega); intro v214 w46 ho hb hg hat; rw [← Ny213.out] at ho; have n0_ := Aside0.mk (blk_grown (g := gb188) (o := .cells #[.bool true, .int .i64 a0_1, .int .i64 a0_2, .slice A0_3 l0_3.length c0_3, .int .i64 a0_4] 105 (0, 0)) (by (with_reducible repeat (first | refine blk_drewN ?_ _ | refine blk_drew ?_ | refine blk_alloc ?_ _)); exact BK188.out) hg (Kd.R_ne HO_5.out BK188.out (by decide))); have n1_ := Aside0.mk (hb); have n2_ := Aside0.mk (ho); clear BK188; clear HB; clear HO_5; have BK188 := n0_; have HB := n1_; have HO215 := n2_; clear n0_ n1_ n2_; clear ho hb hg hat))
                        go_roundg k2
                        case measure => have := HJ2.out; have := HK2.out; omega
                        case rel => exact ⟨(Go.bits .or .u8 x4_2 (ji43)), (y213), (wrap64 (x24_2 + 1)), (by first | rfl | (simp; done) | (simp only [← hji43] <;> (first | rfl | simp)) | (simp [*]; done)), (by first | rfl | (simp; done) | (simp [*]; done)), H', ⟨by have := HJ2.out; have := HK2.out; omega⟩, ⟨by (with_reducible repeat (first | apply Kd.R_alloc | apply Kd.R_drewN | apply Kd.R_drew)); exact HO215.out⟩, ⟨by (with_reducible repeat (first | refine blk_drewN ?_ _ | refine blk_drew ?_ | refine blk_alloc ?_ _)); exact BK188.out⟩, ⟨by repeat (first | (with_reducible first | exact HB.out | apply below_alloc | apply pw_below_drewN | apply below_drew1 | refine below_set ?_ GE188.out) | exact HB.out)⟩⟩
                      · rw [if_neg c44] at H
                        exact absurd H (by simp)
                    · rw [if_neg c42] at H
                      exact absurd H (by simp)
              · rw [if_neg c11] at H
                exact absurd H (by simp)
            · rw [if_neg c9] at H
              have c9b0 : decide (x24_2 < 7) = false := decide_eq_false c9
              clear c9
              obtain ⟨y198, hy198⟩ : ∃ y_ : List Int, y_ = (([x4_2] : List Int)) := ⟨_, rfl⟩
              replace H : (if y198.length + x5_2.length < 140737488355328 then (some (y198 ++ x5_2)) else (none)) = some r := by first | (rw [hy198]; with_reducible exact H) | (have H2_ := (Option.bind_some _ _).symm.trans H; rw [hy198]; with_reducible exact H2_) | (have H2_ := (Option.bind_some _ _).symm.trans H; with_reducible exact H2_) | with_reducible exact H | (rw [hy198]; exact H) | exact H
              have Ny198 := Aside0.mk hy198
              clear hy198
              by_cases c47 : y198.length + x5_2.length < 140737488355328
              · rw [if_pos c47] at H
                have LMc47 := Aside0.mk c47
                clear c47
                obtain ⟨y201, hy201⟩ : ∃ y_ : List Int, y_ = (y198 ++ x5_2) := ⟨_, rfl⟩
                replace H : (some y201) = some r := by first | (rw [hy201]; with_reducible exact H) | (have H2_ := (Option.bind_some _ _).symm.trans H; rw [hy201]; with_reducible exact H2_) | (have H2_ := (Option.bind_some _ _).symm.trans H; with_reducible exact H2_) | with_reducible exact H | (rw [hy201]; exact H) | exact H
                have Ny201 := Aside0.mk hy201
                clear hy201
                obtain rfl := Option.some.inj H
                go_wp2_with (first | ((with_reducible refine gate_dst (N := 61) rfl ?_); refine Kd.R_lit (Kd.int .u8) _ 5 ?hg (N := 61) ?hd (xs := ([x4_2] : List Int)) (inner := [.int .u8 x4_2]) (ok := fun _ => True) (okp := fun _ => True) ?hr ?hp (fun _ hk => hk) trivial (Below.refl _ _) (Nat.le_refl _) (by simp) ?_; (case hd => rfl); (case hg => rfl); (case hr => first | (go_simp; done) | (go_simp; rfl)); (case hp => exact (Reps.one (show Kd.M (Kd.int .u8) _ _ _ x4_2 [.int .u8 x4_2] from rfl) (Reps.none _ _))); intro v199 w48 ho49 hb hg_ hnew_; clear hg_ hnew_; (first | rw [← Ny198.out] at ho49 | (simp only [Int.reduceToNat] at ho49; rw [← Ny198.out] at ho49)); have n0_ := Aside0.mk (Kd.R_elder' (by (with_reducible repeat (first | apply Kd.R_alloc | apply Kd.R_drewN | apply Kd.R_drew)); exact HO_5.out) (Kd.R_base ho49) hb); have n1_ := Aside0.mk (Kd.R_lower (Kd.R_new' ho49 (Kd.R_lt (by (with_reducible repeat (first | apply Kd.R_alloc | apply Kd.R_drewN | apply Kd.R_drew)); exact HO_5.out))) (below_size (by repeat (first | (with_reducible first | exact HB.out | apply below_alloc | apply pw_below_drewN | apply below_drew1 | refine below_set ?_ GE188.out) | exact HB.out)))); have n2_ := Aside0.mk (blk_below (g := gb188) (o := .cells #[.bool true, .int .i64 a0_1, .int .i64 a0_2, .slice A0_3 l0_3.length c0_3, .int .i64 a0_4] 105 (0, 0)) (by (with_reducible repeat (first | refine blk_drewN ?_ _ | refine blk_drew ?_ | refine blk_alloc ?_ _)); exact BK188.out) hb); have n3_ := Aside0.mk (below_step (by repeat (first | (with_reducible first | exact HB.out | apply below_alloc | apply pw_below_drewN | apply below_drew1 | refine below_set ?_ GE188.out) | exact HB.out)) hb); clear HO_5; clear BK188; clear HB; have HO_5 := n0_; have HO200 := n1_; have BK188 := n2_; have HB := n3_; clear n0_ n1_ n2_ n3_; clear hb ho49; obtain ⟨Ao51, co51, eo51⟩ := Kd.R_slice HO_5.out; subst eo51) | ((with_reducible refine gate_builtin (b := .append) (xs := #[.tmp 61, .tmp 62]) rfl ?_); at_builtin; refine Kd.R_append_rows (Kd.int .u8) (w0 := w) w.heap.size rfl (.tmp 61) (.tmp 62) 25 5 (.int .u8 0) 1 rfl Tryz.underlying25 info5 rfl (by decide) (by omega) v199 y198 x5_2 _ _ _ (fun k_ => some k_ ≠ (.slice Ao51 x5_2.length co51 : Value).ownBlock) (fun _ => False) rfl rfl ?aO ?aR (fun _ _ h => h) (fun _ h => h.elim) ?aF ?aB ?aS ?aL ?_; (case aR => repeat (first | exact (Kd.R_reads' HO_5.out).2.2 | (with_reducible refine Kd.C_alloc ?_ _) | (with_reducible refine Kd.C_drewN ?_ _) | (with_reducible refine Kd.C_drew ?_))); (case aB => exact (by repeat (first | (with_reducible first | exact HB.out | apply below_alloc | apply pw_below_drewN | apply below_drew1 | refine below_set ?_ GE188.out) | exact HB.out))); (case aF => exact (fun k_ hk => Kd.fresh' (Kd.R_lt (by (with_reducible repeat (first | apply Kd.R_alloc | apply Kd.R_drewN | apply Kd.R_drew)); exact HO_5.out)) k_ hk)); (case aO => exact (by (with_reducible repeat (first | apply Kd.R_alloc | apply Kd.R_drewN | apply Kd.R_drew)); exact Kd.R_mono HO200.out (fun _ hk => hk.2))); (case aS => exact (below_size (by repeat (first | (with_reducible first | exact HB.out | apply below_alloc | apply pw_below_drewN | apply below_drew1 | refine below_set ?_ GE188.out) | exact HB.out)))); (case aL => have := LMc47.out; omega); intro v202 w50 ho hb hg hat; rw [← Ny201.out] at ho; have n0_ := Aside0.mk (Kd.R_after (ok := (fun _ => True)) (by (with_reducible repeat (first | apply Kd.R_alloc | apply Kd.R_drewN | apply Kd.R_drew)); exact HO_5.out) hg hat); have n1_ := Aside0.mk (blk_grown (g := gb188) (o := .cells #[.bool true, .int .i64 a0_1, .int .i64 a0_2, .slice A0_3 l0_3.length c0_3, .int .i64 a0_4] 105 (0, 0)) (by (with_reducible repeat (first | refine blk_drewN ?_ _ | refine blk_drew ?_ | refine blk_alloc ?_ _)); exact BK188.out) hg (Kd.R_ne HO200.out BK188.out (by decide))); have n2_ := Aside0.mk (hb); have n3_ := Aside0.mk (ho); clear HO_5; clear BK188; clear HB; clear HO200; have HO_5 := n0_; have BK188 := n1_; have HB := n2_; have HO203 := n3_; clear n0_ n1_ n2_ n3_; clear ho hb hg hat))
                go_ret
                exact ⟨_, by first | rfl | (simp [errW_none, errW_some] <;> rfl) | (simp [*, errW_none, errW_some] <;> rfl), by (with_reducible repeat (first | apply Kd.R_alloc | apply Kd.R_drewN | apply Kd.R_drew)); exact Kd.R_mono HO203.out (fun _ hk => trivial), by repeat (first | (with_reducible first | exact HB.out | apply below_alloc | apply pw_below_drewN | apply below_drew1 | refine below_set ?_ GE188.out) | exact HB.out)⟩
              · rw [if_neg c47] at H
                exact absurd H (by simp)
  · replace c2 := Bool.eq_false_iff.mpr c2
    subst c2
    have H1 : ((some (([((l0_3.length : Int)) % 256] : List Int) : List Int)).bind fun y189 => (if y189.length + l0_3.length < 140737488355328 then (some (y189 ++ l0_3)) else (none))) = some r := by rw [if_neg (show ¬ (false = true) by decide)] at H; exact H
    clear H
    have H := H1
    clear H1
    obtain ⟨y189, hy189⟩ : ∃ y_ : List Int, y_ = (([((l0_3.length : Int)) % 256] : List Int)) := ⟨_, rfl⟩
    replace H : (if y189.length + l0_3.length < 140737488355328 then (some (y189 ++ l0_3)) else (none)) = some r := by first | (rw [hy189]; with_reducible exact H) | (have H2_ := (Option.bind_some _ _).symm.trans H; rw [hy189]; with_reducible exact H2_) | (have H2_ := (Option.bind_some _ _).symm.trans H; with_reducible exact H2_) | with_reducible exact H | (rw [hy189]; exact H) | exact H
    have Ny189 := Aside0.mk hy189
    clear hy189
    by_cases c52 : y189.length + l0_3.length < 140737488355328
    · rw [if_pos c52] at H
      have LMc52 := Aside0.mk c52
      clear c52
      obtain ⟨y192, hy192⟩ : ∃ y_ : List Int, y_ = (y189 ++ l0_3) := ⟨_, rfl⟩
      replace H : (some y192) = some r := by first | (rw [hy192]; with_reducible exact H) | (have H2_ := (Option.bind_some _ _).symm.trans H; rw [hy192]; with_reducible exact H2_) | (have H2_ := (Option.bind_some _ _).symm.trans H; with_reducible exact H2_) | with_reducible exact H | (rw [hy192]; exact H) | exact H
      have Ny192 := Aside0.mk hy192
      clear hy192
      obtain rfl := Option.some.inj H
      go_enter Tryz.func40, Tryz.ntmps40
      go_wp2_with (first | ((with_reducible refine gate_dst (N := 1) rfl ?_); refine box_event ?hg (N := 1) ?hd (cs := #[.bool false, .int .i64 a0_1, .int .i64 a0_2, .slice A0_3 l0_3.length c0_3, .int .i64 a0_4]) (t := 105) ?hr ?_; (case hd => rfl); (case hg => rfl); (case hr => first | (go_simp; done) | (go_simp; rfl)); intro gb188 hg w53 hbox hb; have n0_ := Aside0.mk (below_step (by repeat (first | (with_reducible first | exact HB.out | apply below_alloc | apply pw_below_drewN | apply below_drew1) | exact HB.out)) hb); have n1_ := Aside0.mk (hbox); have n2_ := Aside0.mk ((by rw [hg]; exact (below_size (by repeat (first | (with_reducible first | exact HB.out | apply below_alloc | apply pw_below_drewN | apply below_drew1) | exact HB.out))) : w.heap.size ≤ gb188)); have n3_ := Aside0.mk ((by rw [hg]; exact (below_size (by repeat (first | (with_reducible first | exact HB.out | apply below_alloc | apply pw_below_drewN | apply below_drew1) | exact HB.out))) : w.heap.size ≤ gb188)); clear HB; have HB := n0_; have BK188 := n1_; have GW188 := n2_; have GE188 := n3_; clear n0_ n1_ n2_ n3_; clear hb hbox hg; have hcz54_0 : w53.cell? ⟨gb188, 0, none⟩ = some (.bool false) := (blk_cell BK188.out 0).trans rfl; have hcz54_1 : w53.cell? ⟨gb188, 1, none⟩ = some (.int .i64 a0_1) := (blk_cell BK188.out 1).trans rfl; have hcz54_2 : w53.cell? ⟨gb188, 2, none⟩ = some (.int .i64 a0_2) := (blk_cell BK188.out 2).trans rfl; have hcz54_3 : w53.cell? ⟨gb188, 3, none⟩ = some (.slice A0_3 l0_3.length c0_3) := (blk_cell BK188.out 3).trans rfl; have hcz54_4 : w53.cell? ⟨gb188, 4, none⟩ = some (.int .i64 a0_4) := (blk_cell BK188.out 4).trans rfl; have hfz54_0 := blk_frozen BK188.out 0; have hfz54_1 := blk_frozen BK188.out 1; have hfz54_2 := blk_frozen BK188.out 2; have hfz54_3 := blk_frozen BK188.out 3; have hfz54_4 := blk_frozen BK188.out 4) | ((with_reducible refine gate_dst (N := 15) rfl ?_); refine Kd.R_lit (Kd.int .u8) _ 5 ?hg (N := 15) ?hd (xs := ([((l0_3.length : Int)) % 256] : List Int)) (inner := [.int .u8 (((l0_3.length : Int)) % 256)]) (ok := fun _ => True) (okp := fun _ => True) ?hr ?hp (fun _ hk => hk) trivial (Below.refl _ _) (Nat.le_refl _) (by simp) ?_; (case hd => rfl); (case hg => rfl); (case hr => first | (go_simp; done) | (go_simp; rfl)); (case hp => exact (Reps.one (show Kd.M (Kd.int .u8) _ _ _ (((l0_3.length : Int)) % 256) [.int .u8 (((l0_3.length : Int)) % 256)] from rfl) (Reps.none _ _))); intro v190 w55 ho56 hb hg_ hnew_; clear hg_ hnew_; (first | rw [← Ny189.out] at ho56 | (simp only [Int.reduceToNat] at ho56; rw [← Ny189.out] at ho56)); have n0_ := Aside0.mk (Kd.R_lower ho56 (below_size (by repeat (first | (with_reducible first | exact HB.out | apply below_alloc | apply pw_below_drewN | apply below_drew1 | refine below_set ?_ GE188.out) | exact HB.out)))); have n1_ := Aside0.mk (blk_below (g := gb188) (o := .cells #[.bool false, .int .i64 a0_1, .int .i64 a0_2, .slice A0_3 l0_3.length c0_3, .int .i64 a0_4] 105 (0, 0)) (by (with_reducible repeat (first | refine blk_drewN ?_ _ | refine blk_drew ?_ | refine blk_alloc ?_ _)); exact BK188.out) hb); have n2_ := Aside0.mk (below_step (by repeat (first | (with_reducible first | exact HB.out | apply below_alloc | apply pw_below_drewN | apply below_drew1 | refine below_set ?_ GE188.out) | exact HB.out)) hb); clear BK188; clear HB; have HO191 := n0_; have BK188 := n1_; have HB := n2_; clear n0_ n1_ n2_; clear hb ho56; have hcz57_0 : w55.cell? ⟨gb188, 0, none⟩ = some (.bool false) := (blk_cell BK188.out 0).trans rfl; have hcz57_1 : w55.cell? ⟨gb188, 1, none⟩ = some (.int .i64 a0_1) := (blk_cell BK188.out 1).trans rfl; have hcz57_2 : w55.cell? ⟨gb188, 2, none⟩ = some (.int .i64 a0_2) := (blk_cell BK188.out 2).trans rfl; have hcz57_3 : w55.cell? ⟨gb188, 3, none⟩ = some (.slice A0_3 l0_3.length c0_3) := (blk_cell BK188.out 3).trans rfl; have hcz57_4 : w55.cell? ⟨gb188, 4, none⟩ = some (.int .i64 a0_4) := (blk_cell BK188.out 4).trans rfl; have hfz57_0 := blk_frozen BK188.out 0; have hfz57_1 := blk_frozen BK188.out 1; have hfz57_2 := blk_frozen BK188.out 2; have hfz57_3 := blk_frozen BK188.out 3; have hfz57_4 := blk_frozen BK188.out 4) | ((with_reducible refine gate_builtin (b := .append) (xs := #[.tmp 15, .tmp 17]) rfl ?_); at_builtin; refine Kd.R_append_rows (Kd.int .u8) (w0 := w) w.heap.size rfl (.tmp 15) (.tmp 17) 25 5 (.int .u8 0) 1 rfl Tryz.underlying25 info5 rfl (by decide) (by omega) v190 y189 l0_3 _ _ _ (fun _ => True) (fun _ => False) rfl rfl ?aO ?aR (fun _ _ h => h) (fun _ h => h.elim) ?aF ?aB ?aS ?aL ?_; (case aR => repeat (first | exact (Kd.C_below HR0_3.out HB.out) | (with_reducible refine Kd.C_alloc ?_ _) | (with_reducible refine Kd.C_drewN ?_ _) | (with_reducible refine Kd.C_drew ?_))); (case aB => exact (by repeat (first | (with_reducible first | exact HB.out | apply below_alloc | apply pw_below_drewN | apply below_drew1 | refine below_set ?_ GE188.out) | exact HB.out))); (case aF => exact (fun _ _ => trivial)); (case aO => exact (by (with_reducible repeat (first | apply Kd.R_alloc | apply Kd.R_drewN | apply Kd.R_drew)); exact HO191.out)); (case aS => exact (below_size (by repeat (first | (with_reducible first | exact HB.out | apply below_alloc | apply pw_below_drewN | apply below_drew1 | refine below_set ?_ GE188.out) | exact HB.out)))); (case aL => have := LMc52.out; omega); intro v193 w58 ho hb hg hat; rw [← Ny192.out] at ho; have n0_ := Aside0.mk (blk_grown (g := gb188) (o := .cells #[.bool false, .int .i64 a0_1, .int .i64 a0_2, .slice A0_3 l0_3.length c0_3, .int .i64 a0_4] 105 (0, 0)) (by (with_reducible repeat (first | refine blk_drewN ?_ _ | refine blk_drew ?_ | refine blk_alloc ?_ _)); exact BK188.out) hg (Kd.R_ne HO191.out BK188.out (by decide))); have n1_ := Aside0.mk (hb); have n2_ := Aside0.mk (ho); clear BK188; clear HB; clear HO191; have BK188 := n0_; have HB := n1_; have HO194 := n2_; clear n0_ n1_ n2_; clear ho hb hg hat))
      go_ret
      exact ⟨_, by first | rfl | (simp [errW_none, errW_some] <;> rfl) | (simp [*, errW_none, errW_some] <;> rfl), by (with_reducible repeat (first | apply Kd.R_alloc | apply Kd.R_drewN | apply Kd.R_drew)); exact HO194.out, by repeat (first | (with_reducible first | exact HB.out | apply below_alloc | apply pw_below_drewN | apply below_drew1 | refine below_set ?_ GE188.out) | exact HB.out)⟩
    · rw [if_neg c52] at H
      exact absurd H (by simp)

/-! ### spec_Delta: function 15 -/
def spec_Delta.l0 : Nat → List Int → List (S105) → Int → Int → Option (List Int)
  | 0, _, _, _, _ => none
  | k + 1, x5, x17, x18, x19 => if x19 < x18 then (if 0 ≤ x19 then (if x19 < (x17.length : Int) then ((spec_StepBytes.f k ((rd_T105 x17 x19).f0) ((rd_T105 x17 x19).f1) ((rd_T105 x17 x19).f2) ((rd_T105 x17 x19).f3) ((rd_T105 x17 x19).f4)).bind fun t230 => (if x5.length + t230.length < 140737488355328 then (spec_Delta.l0 k (x5 ++ t230) x17 x18 (wrap64 (x19 + 1))) else (none))) else (none)) else (none)) else (some x5)
def spec_Delta.f (k : Nat) (l0 : List Int) (l1 : List (S105)) : Option (List Int) := (spec_Size7.f k (l0.length : Int)).bind fun t216 => ((spec_Made.f k l0 l1).bind fun t219 => ((spec_Size7.f k (t219.length : Int)).bind fun t222 => (if t216.length + t222.length < 140737488355328 then (spec_Delta.l0 k (t216 ++ t222) l1 (l1.length : Int) 0) else (none))))
theorem spec_Delta.mono_l : ∀ k, (∀ y0 y1 y2 y3, LeO (spec_Delta.l0 k y0 y1 y2 y3) (spec_Delta.l0 (k + 1) y0 y1 y2 y3))
  | 0 => fun _ _ _ _ r h => by simp [spec_Delta.l0] at h
  | k + 1 => by
    have ih0 := spec_Delta.mono_l k
    · intro y0 y1 y2 y3
      unfold spec_Delta.l0
      repeat' first
      | (with_reducible exact ih0 _ _ _ _)
      | (with_reducible exact spec_Made.mono _ _ _)
      | (with_reducible exact spec_Size7.mono _ _)
      | (with_reducible exact spec_StepBytes.mono _ _ _ _ _ _)
      | (with_reducible exact LeO.refl _)
      | (with_reducible exact LeO.none _)
      | (with_reducible refine LeO.ite ?_ ?_)
      | (with_reducible refine LeO.bind ?_ (fun _ => ?_))
      | exact ih0 _ _ _ _
      | exact spec_Made.mono _ _ _
      | exact spec_Size7.mono _ _
      | exact spec_StepBytes.mono _ _ _ _ _ _
      | exact LeO.none _
      | refine LeO.ite ?_ ?_
      | refine LeO.bind ?_ (fun _ => ?_)
theorem spec_Delta.mono : ∀ a0 a1 k, LeO (spec_Delta.f k a0 a1) (spec_Delta.f (k + 1) a0 a1) := by
  intro a0 a1 k
  have ih0 := spec_Delta.mono_l k
  unfold spec_Delta.f
  repeat' first
      | (with_reducible exact ih0 _ _ _ _)
      | (with_reducible exact spec_Made.mono _ _ _)
      | (with_reducible exact spec_Size7.mono _ _)
      | (with_reducible exact spec_StepBytes.mono _ _ _ _ _ _)
      | (with_reducible exact LeO.refl _)
      | (with_reducible exact LeO.none _)
      | (with_reducible refine LeO.ite ?_ ?_)
      | (with_reducible refine LeO.bind ?_ (fun _ => ?_))
      | exact ih0 _ _ _ _
      | exact spec_Made.mono _ _ _
      | exact spec_Size7.mono _ _
      | exact spec_StepBytes.mono _ _ _ _ _ _
      | exact LeO.none _
      | refine LeO.ite ?_ ?_
      | refine LeO.bind ?_ (fun _ => ?_)
set_option maxHeartbeats 8000000 in
set_option maxRecDepth 100000 in
theorem spec_Delta.calls (k : Nat) (A0 : Option Addr) (c0 : Nat) (l0 : List Int) (A1 : Option Addr) (c1 : Nat) (l1 : List (S105)) (r : List Int) (w : World) (hr0 : Kd.C (Kd.int .u8) w A0 l0.length l0) (hc0 : l0.length ≤ c0) (hr1 : Kd.C k105 w A1 l1.length l1) (hc1 : l1.length ≤ c1) (h : spec_Delta.f k l0 l1 = some r) :
    Calls Tryz.prog 15 #[.slice A0 l0.length c0, .slice A1 l1.length c1] w fun e w' => ∃ v0_ : Value, e = .returned (v0_) ∧ Kd.R (Kd.int .u8) 5 w' w.heap.size (fun _ => True) v0_ r ∧ Below w.heap.size w w' := by
  have hu105 := Tryz.underlying105
  have HR0 := Aside0.mk hr0
  have HC0 := Aside0.mk hc0
  clear hr0 hc0
  have HR1 := Aside0.mk hr1
  have HC1 := Aside0.mk hc1
  clear hr1 hc1
  have HB := Aside0.mk (Below.refl w.heap.size w)
  have H : ((spec_Size7.f k (l0.length : Int)).bind fun t216 => ((spec_Made.f k l0 l1).bind fun t219 => ((spec_Size7.f k (t219.length : Int)).bind fun t222 => (if t216.length + t222.length < 140737488355328 then (spec_Delta.l0 k (t216 ++ t222) l1 (l1.length : Int) 0) else (none))))) = some r := h
  clear h
  replace H := Option.bind_eq_some_iff.mp H
  obtain ⟨t216, A30, H⟩ := H
  replace H : ((spec_Made.f k l0 l1).bind fun t219 => ((spec_Size7.f k (t219.length : Int)).bind fun t222 => (if t216.length + t222.length < 140737488355328 then (spec_Delta.l0 k (t216 ++ t222) l1 (l1.length : Int) 0) else (none)))) = some r := H
  have A3 := Aside0.mk A30
  clear A30
  replace H := Option.bind_eq_some_iff.mp H
  obtain ⟨t219, A40, H⟩ := H
  replace H : ((spec_Size7.f k (t219.length : Int)).bind fun t222 => (if t216.length + t222.length < 140737488355328 then (spec_Delta.l0 k (t216 ++ t222) l1 (l1.length : Int) 0) else (none))) = some r := H
  have A4 := Aside0.mk A40
  clear A40
  replace H := Option.bind_eq_some_iff.mp H
  obtain ⟨t222, A50, H⟩ := H
  replace H : (if t216.length + t222.length < 140737488355328 then (spec_Delta.l0 k (t216 ++ t222) l1 (l1.length : Int) 0) else (none)) = some r := H
  have A5 := Aside0.mk A50
  clear A50
  by_cases c6 : t216.length + t222.length < 140737488355328
  · rw [if_pos c6] at H
    have LMc6 := Aside0.mk c6
    clear c6
    obtain ⟨y225, hy225⟩ : ∃ y_ : List Int, y_ = (t216 ++ t222) := ⟨_, rfl⟩
    replace H : (spec_Delta.l0 k y225 l1 (l1.length : Int) 0) = some r := by first | (rw [hy225]; with_reducible exact H) | (have H2_ := (Option.bind_some _ _).symm.trans H; rw [hy225]; with_reducible exact H2_) | (have H2_ := (Option.bind_some _ _).symm.trans H; with_reducible exact H2_) | with_reducible exact H | (rw [hy225]; exact H) | exact H
    have Ny225 := Aside0.mk hy225
    clear hy225
    have H' := Aside0.mk H
    clear H
    go_enter Tryz.func15, Tryz.ntmps15
    go_wp2_with (first | ((with_reducible refine gate_callee (f := 39) rfl ?_); refine goesL_ (some 10) rfl rfl Tryz.func39 (by kernel_rfl) rfl #[.int .i64 (l0.length : Int)] rfl (by (try simp only [List.map_toArray, List.map_cons, List.map_nil]); first | done | rfl | (simp only [List.length_drop, List.length_take]; rfl)) ?_; (with_reducible refine (spec_Size7.calls k (l0.length : Int) t216 _ A3.out).mono ?_); rintro e w7 ⟨v217, rfl, ho0, hb⟩; refine ⟨_, rfl, ?_⟩; have n0_ := Aside0.mk (Kd.R_lower ho0 (below_size (by repeat (first | (with_reducible first | exact HB.out | apply below_alloc | apply pw_below_drewN | apply below_drew1) | exact HB.out)))); have n1_ := Aside0.mk (below_step (by repeat (first | (with_reducible first | exact HB.out | apply below_alloc | apply pw_below_drewN | apply below_drew1) | exact HB.out)) hb); clear HB; have HO218 := n0_; have HB := n1_; clear n0_ n1_; (try clear hb); (try clear hb2); (try clear hk); (try clear hi); (try clear ho0)) | ((with_reducible refine gate_callee (f := 35) rfl ?_); refine goesL_ (some 13) rfl rfl Tryz.func35 (by kernel_rfl) rfl #[.slice A0 l0.length c0, .slice A1 l1.length c1] rfl (by (try simp only [List.map_toArray, List.map_cons, List.map_nil]); first | done | rfl | (simp only [List.length_drop, List.length_take]; rfl)) ?_; (with_reducible refine (spec_Made.calls k _ _ l0 _ _ l1 t219 _ ?side1 ?side2 ?side3 ?side4 A4.out).mono ?_); (case side1 => repeat (first | exact (Kd.C_below HR0.out HB.out) | (with_reducible refine Kd.C_alloc ?_ _) | (with_reducible refine Kd.C_drewN ?_ _) | (with_reducible refine Kd.C_drew ?_))); (case side2 => exact HC0.out); (case side3 => repeat (first | exact (Kd.C_below HR1.out HB.out) | (with_reducible refine Kd.C_alloc ?_ _) | (with_reducible refine Kd.C_drewN ?_ _) | (with_reducible refine Kd.C_drew ?_))); (case side4 => exact HC1.out); rintro e w8 ⟨v220, rfl, ho0, hb⟩; refine ⟨_, rfl, ?_⟩; have n0_ := Aside0.mk (Kd.R_elder' (by (with_reducible repeat (first | apply Kd.R_alloc | apply Kd.R_drewN | apply Kd.R_drew)); exact HO218.out) (Kd.R_base ho0) hb); have n1_ := Aside0.mk (Kd.R_lower (Kd.R_new' ho0 (Kd.R_lt (by (with_reducible repeat (first | apply Kd.R_alloc | apply Kd.R_drewN | apply Kd.R_drew)); exact HO218.out))) (below_size (by repeat (first | (with_reducible first | exact HB.out | apply below_alloc | apply pw_below_drewN | apply below_drew1) | exact HB.out)))); have n2_ := Aside0.mk (below_step (by repeat (first | (with_reducible first | exact HB.out | apply below_alloc | apply pw_below_drewN | apply below_drew1) | exact HB.out)) hb); clear HO218; clear HB; have HO218 := n0_; have HO221 := n1_; have HB := n2_; clear n0_ n1_ n2_; (try clear hb); (try clear hb2); (try clear hk); (try clear hi); (try clear ho0); obtain ⟨Ao9, co9, eo9⟩ := Kd.R_slice HO221.out; subst eo9) | ((with_reducible refine gate_callee (f := 39) rfl ?_); refine goesL_ (some 15) rfl rfl Tryz.func39 (by kernel_rfl) rfl #[.int .i64 (t219.length : Int)] rfl (by (try simp only [List.map_toArray, List.map_cons, List.map_nil]); first | done | rfl | (simp only [List.length_drop, List.length_take]; rfl)) ?_; (with_reducible refine (spec_Size7.calls k (t219.length : Int) t222 _ A5.out).mono ?_); rintro e w10 ⟨v223, rfl, ho0, hb⟩; refine ⟨_, rfl, ?_⟩; have n0_ := Aside0.mk (Kd.R_elder' (by (with_reducible repeat (first | apply Kd.R_alloc | apply Kd.R_drewN | apply Kd.R_drew)); exact HO218.out) (Kd.R_base ho0) hb); have n1_ := Aside0.mk (Kd.R_elder' (by (with_reducible repeat (first | apply Kd.R_alloc | apply Kd.R_drewN | apply Kd.R_drew)); exact HO221.out) (Kd.R_base ho0) hb); have n2_ := Aside0.mk (Kd.R_lower (Kd.R_new' (Kd.R_new' ho0 (Kd.R_lt (by (with_reducible repeat (first | apply Kd.R_alloc | apply Kd.R_drewN | apply Kd.R_drew)); exact HO218.out))) (Kd.R_lt (by (with_reducible repeat (first | apply Kd.R_alloc | apply Kd.R_drewN | apply Kd.R_drew)); exact HO221.out))) (below_size (by repeat (first | (with_reducible first | exact HB.out | apply below_alloc | apply pw_below_drewN | apply below_drew1) | exact HB.out)))); have n3_ := Aside0.mk (below_step (by repeat (first | (with_reducible first | exact HB.out | apply below_alloc | apply pw_below_drewN | apply below_drew1) | exact HB.out)) hb); clear HO218; clear HO221; clear HB; have HO218 := n0_; have HO221 := n1_; have HO224 := n2_; have HB := n3_; clear n0_ n1_ n2_ n3_; (try clear hb); (try clear hb2); (try clear hk); (try clear hi); (try clear ho0); obtain ⟨Ao12, co12, eo12⟩ := Kd.R_slice HO224.out; subst eo12) | ((with_reducible refine gate_builtin (b := .append) (xs := #[.tmp 10, .tmp 15]) rfl ?_); at_builtin; refine Kd.R_append_rows (Kd.int .u8) (w0 := w) w.heap.size rfl (.tmp 10) (.tmp 15) 25 5 (.int .u8 0) 1 rfl Tryz.underlying25 info5 rfl (by decide) (by omega) v217 t216 t222 _ _ _ (fun k_ => some k_ ≠ (.slice Ao9 t219.length co9 : Value).ownBlock ∧ some k_ ≠ (.slice Ao12 t222.length co12 : Value).ownBlock) (fun _ => False) rfl rfl ?aO ?aR (fun _ _ h => h) (fun _ h => h.elim) ?aF ?aB ?aS ?aL ?_; (case aR => repeat (first | exact (Kd.R_reads' HO224.out).2.2 | (with_reducible refine Kd.C_alloc ?_ _) | (with_reducible refine Kd.C_drewN ?_ _) | (with_reducible refine Kd.C_drew ?_))); (case aB => exact (by repeat (first | (with_reducible first | exact HB.out | apply below_alloc | apply pw_below_drewN | apply below_drew1) | exact HB.out))); (case aF => exact (fun k_ hk => ⟨Kd.fresh' (Kd.R_lt (by (with_reducible repeat (first | apply Kd.R_alloc | apply Kd.R_drewN | apply Kd.R_drew)); exact HO221.out)) k_ hk, Kd.fresh' (Kd.R_lt (by (with_reducible repeat (first | apply Kd.R_alloc | apply Kd.R_drewN | apply Kd.R_drew)); exact HO224.out)) k_ hk⟩)); (case aO => exact (by (with_reducible repeat (first | apply Kd.R_alloc | apply Kd.R_drewN | apply Kd.R_drew)); exact Kd.R_mono HO218.out (fun _ hk => ⟨hk.1.2, hk.2⟩))); (case aS => exact (below_size (by repeat (first | (with_reducible first | exact HB.out | apply below_alloc | apply pw_below_drewN | apply below_drew1) | exact HB.out)))); (case aL => have := LMc6.out; omega); intro v226 w11 ho hb hg hat; rw [← Ny225.out] at ho; have n0_ := Aside0.mk (Kd.R_after (ok := (fun k_ => some k_ ≠ (.slice Ao12 t222.length co12 : Value).ownBlock)) (by (with_reducible repeat (first | apply Kd.R_alloc | apply Kd.R_drewN | apply Kd.R_drew)); exact Kd.R_mono HO221.out (fun _ hk => ⟨hk.2, hk.1.2⟩)) hg hat); have n1_ := Aside0.mk (Kd.R_after (ok := (fun k_ => some k_ ≠ (.slice Ao9 t219.length co9 : Value).ownBlock)) (by (with_reducible repeat (first | apply Kd.R_alloc | apply Kd.R_drewN | apply Kd.R_drew)); exact Kd.R_mono HO224.out (fun _ hk => ⟨hk.2, hk.1.2⟩)) hg hat); have n2_ := Aside0.mk (hb); have n3_ := Aside0.mk (ho); clear HO221; clear HO224; clear HB; clear HO218; have HO221 := n0_; have HO224 := n1_; have HB := n2_; have HO227 := n3_; clear n0_ n1_ n2_ n3_; clear ho hb hg hat))
    go_loopg [5, 19] k (fun kq v5 v19 w' => ∃ (x5_1 : List Int) (x19_1 : Int), v19 = .int .i64 x19_1 ∧ Aside0 (spec_Delta.l0 kq x5_1 l1 (l1.length : Int) x19_1 = some r) ∧ Aside0 (kq ≤ k) ∧ Aside0 (Kd.R (Kd.int .u8) 5 w' w.heap.size (fun _ => True) v5 x5_1) ∧ Aside0 (Below w.heap.size w w'))
    case atStart => exact ⟨(y225), (0), (by first | rfl | (simp; done) | (simp [*]; done)), H', ⟨Nat.le_refl _⟩, ⟨by (with_reducible repeat (first | apply Kd.R_alloc | apply Kd.R_drewN | apply Kd.R_drew)); exact Kd.R_mono HO227.out (fun _ hk => trivial)⟩, ⟨by repeat (first | (with_reducible first | exact HB.out | apply below_alloc | apply pw_below_drewN | apply below_drew1) | exact HB.out)⟩⟩
    case round =>
      clear H'
      try clear c1
      try clear p2
      try clear c3
      try clear c6
      obtain ⟨x5_1, x19_1, rfl, HA, HK1, HO_5, HB⟩ := hrel
      cases gk with
      | zero => exact absurd HA.out (by simp [spec_Delta.l0])
      | succ k1 =>
        have H := HA.out
        clear HA
        simp only [spec_Delta.l0] at H
        by_cases c13 : x19_1 < (l1.length : Int)
        · rw [if_pos c13] at H
          have c13b0 : decide (x19_1 < (l1.length : Int)) = true := decide_eq_true c13
          clear c13
          by_cases c14 : 0 ≤ x19_1
          · rw [if_pos c14] at H
            have c14b0 : decide (0 ≤ x19_1) = true := decide_eq_true c14
            clear c14
            by_cases c15 : x19_1 < (l1.length : Int)
            · rw [if_pos c15] at H
              have c15b0 : decide (x19_1 < (l1.length : Int)) = true := decide_eq_true c15
              clear c15
              replace H := Option.bind_eq_some_iff.mp H
              obtain ⟨t230, A160, H⟩ := H
              replace H : (if x5_1.length + t230.length < 140737488355328 then (spec_Delta.l0 k1 (x5_1 ++ t230) l1 (l1.length : Int) (wrap64 (x19_1 + 1))) else (none)) = some r := H
              have A16 := Aside0.mk A160
              clear A160
              by_cases c17 : x5_1.length + t230.length < 140737488355328
              · rw [if_pos c17] at H
                have LMc17 := Aside0.mk c17
                clear c17
                obtain ⟨y233, hy233⟩ : ∃ y_ : List Int, y_ = (x5_1 ++ t230) := ⟨_, rfl⟩
                replace H : (spec_Delta.l0 k1 y233 l1 (l1.length : Int) (wrap64 (x19_1 + 1))) = some r := by first | (rw [hy233]; with_reducible exact H) | (have H2_ := (Option.bind_some _ _).symm.trans H; rw [hy233]; with_reducible exact H2_) | (have H2_ := (Option.bind_some _ _).symm.trans H; with_reducible exact H2_) | with_reducible exact H | (rw [hy233]; exact H) | exact H
                have Ny233 := Aside0.mk hy233
                clear hy233
                have H' := Aside0.mk H
                clear H
                have p228 : 0 ≤ (x19_1 : Int) := of_decide_eq_true (by first | (with_reducible assumption) | assumption)
                have q228 : x19_1 < (l1.length : Int) := of_decide_eq_true (by first | (with_reducible assumption) | assumption)
                obtain ⟨ad228, A228_3, c228_3, e228, hx228_0, hx228_1, hx228_2, hx228_3, hx228_4, hl228_3, hi228_3⟩ := at_T105 HR1.out x19_1 p228 q228
                cases e228
                replace hx228_0 := (HB.out.cell (World.block_lt_of_cell? w _ hx228_0)).trans hx228_0
                replace hx228_1 := (HB.out.cell (World.block_lt_of_cell? w _ hx228_1)).trans hx228_1
                replace hx228_2 := (HB.out.cell (World.block_lt_of_cell? w _ hx228_2)).trans hx228_2
                replace hx228_3 := (HB.out.cell (World.block_lt_of_cell? w _ hx228_3)).trans hx228_3
                replace hx228_4 := (HB.out.cell (World.block_lt_of_cell? w _ hx228_4)).trans hx228_4
                have HR228_3 := Aside0.mk hi228_3
                have HC228_3 := Aside0.mk hl228_3
                clear hi228_3 hl228_3
                replace p228 := eq_true p228
                replace q228 := eq_true q228
                go_wp2_with (first | ((with_reducible refine gate_dst (N := 7) rfl ?_); refine box_event ?hg (N := 7) ?hd (cs := #[.bool false, .int .i64 0, .int .i64 0, .slice none 0 0, .int .i64 0]) (t := 105) ?hr ?_; (case hd => rfl); (case hg => rfl); (case hr => first | (go_simp; done) | (go_simp; rfl)); intro gb229 hg w18 hbox hb; have n0_ := Aside0.mk (Kd.R_below (by (with_reducible repeat (first | apply Kd.R_alloc | apply Kd.R_drewN | apply Kd.R_drew)); exact HO_5.out) hb); have n1_ := Aside0.mk (below_step (by repeat (first | (with_reducible first | exact HB.out | apply below_alloc | apply pw_below_drewN | apply below_drew1) | exact HB.out)) hb); have n2_ := Aside0.mk (hbox); have n3_ := Aside0.mk ((by rw [hg]; exact (below_size (by repeat (first | (with_reducible first | exact HB.out | apply below_alloc | apply pw_below_drewN | apply below_drew1) | exact HB.out))) : w.heap.size ≤ gb229)); have n4_ := Aside0.mk ((by rw [hg]; exact (below_size (by repeat (first | (with_reducible first | exact HB.out | apply below_alloc | apply pw_below_drewN | apply below_drew1) | exact HB.out))) : w.heap.size ≤ gb229)); clear HO_5; clear HB; have HO_5 := n0_; have HB := n1_; have BK229 := n2_; have GW229 := n3_; have GE229 := n4_; clear n0_ n1_ n2_ n3_ n4_; clear hb hbox hg; have hcz19_0 : w18.cell? ⟨gb229, 0, none⟩ = some (.bool false) := (blk_cell BK229.out 0).trans rfl; have hcz19_1 : w18.cell? ⟨gb229, 1, none⟩ = some (.int .i64 0) := (blk_cell BK229.out 1).trans rfl; have hcz19_2 : w18.cell? ⟨gb229, 2, none⟩ = some (.int .i64 0) := (blk_cell BK229.out 2).trans rfl; have hcz19_3 : w18.cell? ⟨gb229, 3, none⟩ = some (.slice none 0 0) := (blk_cell BK229.out 3).trans rfl; have hcz19_4 : w18.cell? ⟨gb229, 4, none⟩ = some (.int .i64 0) := (blk_cell BK229.out 4).trans rfl; have hfz19_0 := blk_frozen BK229.out 0; have hfz19_1 := blk_frozen BK229.out 1; have hfz19_2 := blk_frozen BK229.out 2; have hfz19_3 := blk_frozen BK229.out 3; have hfz19_4 := blk_frozen BK229.out 4) | ((with_reducible refine gate_callee (f := 40) rfl ?_); refine goesL_ (some 25) rfl rfl Tryz.func40 (by kernel_rfl) rfl #[.agg #[.bool ((rd_T105 l1 x19_1).f0), .int .i64 ((rd_T105 l1 x19_1).f1), .int .i64 ((rd_T105 l1 x19_1).f2), .slice A228_3 ((rd_T105 l1 x19_1).f3).length c228_3, .int .i64 ((rd_T105 l1 x19_1).f4)]] rfl (by (try simp only [List.map_toArray, List.map_cons, List.map_nil]); first | done | rfl | (simp only [List.length_drop, List.length_take]; rfl)) ?_; (with_reducible refine (spec_StepBytes.calls k1 ((rd_T105 l1 x19_1).f0) ((rd_T105 l1 x19_1).f1) ((rd_T105 l1 x19_1).f2) _ _ ((rd_T105 l1 x19_1).f3) ((rd_T105 l1 x19_1).f4) t230 _ ?side1 ?side2 A16.out).mono ?_); (case side1 => exact Kd.C_below HR228_3.out (by repeat (first | (with_reducible first | exact HB.out | apply below_alloc | apply pw_below_drewN | apply below_drew1 | refine below_set ?_ GE229.out) | exact HB.out))); (case side2 => exact HC228_3.out); rintro e w20 ⟨v231, rfl, ho0, hb⟩; refine ⟨_, rfl, ?_⟩; have n0_ := Aside0.mk (Kd.R_elder' (by (with_reducible repeat (first | apply Kd.R_alloc | apply Kd.R_drewN | apply Kd.R_drew)); exact (Kd.R_mono (Kd.R_far (p := ⟨gb229, 4, none⟩) (Kd.R_far (p := ⟨gb229, 3, none⟩) (Kd.R_far (p := ⟨gb229, 2, none⟩) (Kd.R_far (p := ⟨gb229, 1, none⟩) (Kd.R_far (p := ⟨gb229, 0, none⟩) (Kd.R_types HO_5.out BK229.out (by decide)) (fun _ hk => hk.2) (.bool ((rd_T105 l1 x19_1).f0))) (fun _ hk => hk.2) (.int .i64 ((rd_T105 l1 x19_1).f1))) (fun _ hk => hk.2) (.int .i64 ((rd_T105 l1 x19_1).f2))) (fun _ hk => hk.2) (.slice A228_3 ((rd_T105 l1 x19_1).f3).length c228_3)) (fun _ hk => hk.2) (.int .i64 ((rd_T105 l1 x19_1).f4))) (fun _ h_ => h_.1))) (Kd.R_base ho0) hb); have n1_ := Aside0.mk (Kd.R_lower (Kd.R_new' ho0 (Kd.R_lt (by (with_reducible repeat (first | apply Kd.R_alloc | apply Kd.R_drewN | apply Kd.R_drew)); exact (Kd.R_mono (Kd.R_far (p := ⟨gb229, 4, none⟩) (Kd.R_far (p := ⟨gb229, 3, none⟩) (Kd.R_far (p := ⟨gb229, 2, none⟩) (Kd.R_far (p := ⟨gb229, 1, none⟩) (Kd.R_far (p := ⟨gb229, 0, none⟩) (Kd.R_types HO_5.out BK229.out (by decide)) (fun _ hk => hk.2) (.bool ((rd_T105 l1 x19_1).f0))) (fun _ hk => hk.2) (.int .i64 ((rd_T105 l1 x19_1).f1))) (fun _ hk => hk.2) (.int .i64 ((rd_T105 l1 x19_1).f2))) (fun _ hk => hk.2) (.slice A228_3 ((rd_T105 l1 x19_1).f3).length c228_3)) (fun _ hk => hk.2) (.int .i64 ((rd_T105 l1 x19_1).f4))) (fun _ h_ => h_.1))))) (below_size (by repeat (first | (with_reducible first | exact HB.out | apply below_alloc | apply pw_below_drewN | apply below_drew1 | refine below_set ?_ GE229.out) | exact HB.out)))); have n2_ := Aside0.mk (blk_below (g := gb229) (o := .cells #[.bool ((rd_T105 l1 x19_1).f0), .int .i64 ((rd_T105 l1 x19_1).f1), .int .i64 ((rd_T105 l1 x19_1).f2), .slice A228_3 ((rd_T105 l1 x19_1).f3).length c228_3, .int .i64 ((rd_T105 l1 x19_1).f4)] 105 (0, 0)) (by (with_reducible repeat (first | refine blk_drewN ?_ _ | refine blk_drew ?_ | refine blk_alloc ?_ _)); refine blk_put (cs := #[.bool ((rd_T105 l1 x19_1).f0), .int .i64 ((rd_T105 l1 x19_1).f1), .int .i64 ((rd_T105 l1 x19_1).f2), .slice A228_3 ((rd_T105 l1 x19_1).f3).length c228_3, .int .i64 0]) ?_ 4 _ rfl; (with_reducible repeat (first | refine blk_drewN ?_ _ | refine blk_drew ?_ | refine blk_alloc ?_ _)); refine blk_put (cs := #[.bool ((rd_T105 l1 x19_1).f0), .int .i64 ((rd_T105 l1 x19_1).f1), .int .i64 ((rd_T105 l1 x19_1).f2), .slice none 0 0, .int .i64 0]) ?_ 3 _ rfl; (with_reducible repeat (first | refine blk_drewN ?_ _ | refine blk_drew ?_ | refine blk_alloc ?_ _)); refine blk_put (cs := #[.bool ((rd_T105 l1 x19_1).f0), .int .i64 ((rd_T105 l1 x19_1).f1), .int .i64 0, .slice none 0 0, .int .i64 0]) ?_ 2 _ rfl; (with_reducible repeat (first | refine blk_drewN ?_ _ | refine blk_drew ?_ | refine blk_alloc ?_ _)); refine blk_put (cs := #[.bool ((rd_T105 l1 x19_1).f0), .int .i64 0, .int .i64 0, .slice none 0 0, .int .i64 0]) ?_ 1 _ rfl; (with_reducible repeat (first | refine blk_drewN ?_ _ | refine blk_drew ?_ | refine blk_alloc ?_ _)); refine blk_put (cs := #[.bool false, .int .i64 0, .int .i64 0, .slice none 0 0, .int .i64 0]) ?_ 0 _ rfl; (with_reducible repeat (first | refine blk_drewN ?_ _ | refine blk_drew ?_ | refine blk_alloc ?_ _)); exact BK229.out) hb); have n3_ := Aside0.mk (below_step (by repeat (first | (with_reducible first | exact HB.out | apply below_alloc | apply pw_below_drewN | apply below_drew1 | refine below_set ?_ GE229.out) | exact HB.out)) hb); clear HO_5; clear BK229; clear HB; have HO_5 := n0_; have HO232 := n1_; have BK229 := n2_; have HB := n3_; clear n0_ n1_ n2_ n3_; (try clear hb); (try clear hb2); (try clear hk); (try clear hi); (try clear ho0); obtain ⟨Ao22, co22, eo22⟩ := Kd.R_slice HO232.out; subst eo22) | ((with_reducible refine gate_builtin (b := .append) (xs := #[.tmp 23, .tmp 25]) rfl ?_); at_builtin; refine Kd.R_append_rows (Kd.int .u8) (w0 := w) w.heap.size rfl (.tmp 23) (.tmp 25) 25 5 (.int .u8 0) 1 rfl Tryz.underlying25 info5 rfl (by decide) (by omega) u5 x5_1 t230 _ _ _ (fun k_ => some k_ ≠ (.slice Ao22 t230.length co22 : Value).ownBlock) (fun _ => False) rfl rfl ?aO ?aR (fun _ _ h => h) (fun _ h => h.elim) ?aF ?aB ?aS ?aL ?_; (case aR => repeat (first | exact (Kd.R_reads' HO232.out).2.2 | (with_reducible refine Kd.C_alloc ?_ _) | (with_reducible refine Kd.C_drewN ?_ _) | (with_reducible refine Kd.C_drew ?_))); (case aB => exact (by repeat (first | (with_reducible first | exact HB.out | apply below_alloc | apply pw_below_drewN | apply below_drew1 | refine below_set ?_ GE229.out) | exact HB.out))); (case aF => exact (fun k_ hk => Kd.fresh' (Kd.R_lt (by (with_reducible repeat (first | apply Kd.R_alloc | apply Kd.R_drewN | apply Kd.R_drew)); exact HO232.out)) k_ hk)); (case aO => exact (by (with_reducible repeat (first | apply Kd.R_alloc | apply Kd.R_drewN | apply Kd.R_drew)); exact Kd.R_mono HO_5.out (fun _ hk => hk.2))); (case aS => exact (below_size (by repeat (first | (with_reducible first | exact HB.out | apply below_alloc | apply pw_below_drewN | apply below_drew1 | refine below_set ?_ GE229.out) | exact HB.out)))); (case aL => have := LMc17.out; omega); intro v234 w21 ho hb hg hat; rw [← Ny233.out] at ho; have n0_ := Aside0.mk (blk_grown (g := gb229) (o := .cells #[.bool ((rd_T105 l1 x19_1).f0), .int .i64 ((rd_T105 l1 x19_1).f1), .int .i64 ((rd_T105 l1 x19_1).f2), .slice A228_3 ((rd_T105 l1 x19_1).f3).length c228_3, .int .i64 ((rd_T105 l1 x19_1).f4)] 105 (0, 0)) (by (with_reducible repeat (first | refine blk_drewN ?_ _ | refine blk_drew ?_ | refine blk_alloc ?_ _)); exact BK229.out) hg (Kd.R_ne HO_5.out BK229.out (by decide))); have n1_ := Aside0.mk (Kd.R_after (ok := (fun _ => True)) (by (with_reducible repeat (first | apply Kd.R_alloc | apply Kd.R_drewN | apply Kd.R_drew)); exact HO232.out) hg hat); have n2_ := Aside0.mk (hb); have n3_ := Aside0.mk (ho); clear BK229; clear HO232; clear HB; clear HO_5; have BK229 := n0_; have HO232 := n1_; have HB := n2_; have HO235 := n3_; clear n0_ n1_ n2_ n3_; clear ho hb hg hat))
                go_roundg k1
                case measure => have := HK1.out; omega
                case rel => exact ⟨(y233), (wrap64 (x19_1 + 1)), (by first | rfl | (simp; done) | (simp [*]; done)), H', ⟨by have := HK1.out; omega⟩, ⟨by (with_reducible repeat (first | apply Kd.R_alloc | apply Kd.R_drewN | apply Kd.R_drew)); exact Kd.R_mono HO235.out (fun _ hk => trivial)⟩, ⟨by repeat (first | (with_reducible first | exact HB.out | apply below_alloc | apply pw_below_drewN | apply below_drew1 | refine below_set ?_ GE229.out) | exact HB.out)⟩⟩
              · rw [if_neg c17] at H
                exact absurd H (by simp)
            · rw [if_neg c15] at H
              exact absurd H (by simp)
          · rw [if_neg c14] at H
            exact absurd H (by simp)
        · rw [if_neg c13] at H
          have c13b0 : decide (x19_1 < (l1.length : Int)) = false := decide_eq_false c13
          clear c13
          obtain rfl := Option.some.inj H
          go_wp2
          go_ret
          exact ⟨_, by first | rfl | (simp [errW_none, errW_some] <;> rfl) | (simp [*, errW_none, errW_some] <;> rfl), by (with_reducible repeat (first | apply Kd.R_alloc | apply Kd.R_drewN | apply Kd.R_drew)); exact HO_5.out, by repeat (first | (with_reducible first | exact HB.out | apply below_alloc | apply pw_below_drewN | apply below_drew1) | exact HB.out)⟩
  · rw [if_neg c6] at H
    exact absurd H (by simp)

/-! ### spec_EntryHead: function 16 -/
def spec_EntryHead.l0 : Nat → Int → Int → List Int → Option (List Int)
  | 0, _, _, _ => none
  | k + 1, x1, x5, x6 => if x1 > 0 then (if x6.length < 140737488355328 then (spec_EntryHead.l0 k (wrap64 (Int.tdiv x1 128)) ((Int.tmod x1 128) % 256) (x6 ++ [Go.bits .or .u8 x5 128])) else (none)) else (if x6.length < 140737488355328 then (some (x6 ++ [x5])) else (none))
def spec_EntryHead.f (k : Nat) (a0 : Int) (a1 : Int) : Option (List Int) := spec_EntryHead.l0 k (wrap64 (Int.tdiv a1 16)) ((Go.bits .or .i64 (wrap64 (a0 * 16)) (Int.tmod a1 16)) % 256) ([] : List Int)
theorem spec_EntryHead.mono_l : ∀ k, (∀ y0 y1 y2, LeO (spec_EntryHead.l0 k y0 y1 y2) (spec_EntryHead.l0 (k + 1) y0 y1 y2))
  | 0 => fun _ _ _ r h => by simp [spec_EntryHead.l0] at h
  | k + 1 => by
    have ih0 := spec_EntryHead.mono_l k
    · intro y0 y1 y2
      unfold spec_EntryHead.l0
      repeat' first
      | (with_reducible exact ih0 _ _ _)
      | (with_reducible exact LeO.refl _)
      | (with_reducible exact LeO.none _)
      | (with_reducible refine LeO.ite ?_ ?_)
      | (with_reducible refine LeO.bind ?_ (fun _ => ?_))
      | exact ih0 _ _ _
      | exact LeO.none _
      | refine LeO.ite ?_ ?_
      | refine LeO.bind ?_ (fun _ => ?_)
theorem spec_EntryHead.mono : ∀ a0 a1 k, LeO (spec_EntryHead.f k a0 a1) (spec_EntryHead.f (k + 1) a0 a1) := by
  intro a0 a1 k
  have ih0 := spec_EntryHead.mono_l k
  unfold spec_EntryHead.f
  repeat' first
      | (with_reducible exact ih0 _ _ _)
      | (with_reducible exact LeO.refl _)
      | (with_reducible exact LeO.none _)
      | (with_reducible refine LeO.ite ?_ ?_)
      | (with_reducible refine LeO.bind ?_ (fun _ => ?_))
      | exact ih0 _ _ _
      | exact LeO.none _
      | refine LeO.ite ?_ ?_
      | refine LeO.bind ?_ (fun _ => ?_)
set_option maxHeartbeats 8000000 in
set_option maxRecDepth 100000 in
theorem spec_EntryHead.calls (k : Nat) (a0 : Int) (a1 : Int) (r : List Int) (w : World) (h : spec_EntryHead.f k a0 a1 = some r) :
    Calls Tryz.prog 16 #[.int .i64 a0, .int .i64 a1] w fun e w' => ∃ v0_ : Value, e = .returned (v0_) ∧ Kd.R (Kd.int .u8) 5 w' w.heap.size (fun _ => True) v0_ r ∧ Below w.heap.size w w' := by
  have HB := Aside0.mk (Below.refl w.heap.size w)
  have H : (spec_EntryHead.l0 k (wrap64 (Int.tdiv a1 16)) ((Go.bits .or .i64 (wrap64 (a0 * 16)) (Int.tmod a1 16)) % 256) ([] : List Int)) = some r := h
  clear h
  have H' := Aside0.mk H
  clear H
  go_enter Tryz.func16, Tryz.ntmps16
  go_wp2
  go_loopg [1, 5, 6] k (fun kq v1 v5 v6 w' => ∃ (x1_1 : Int) (x5_1 : Int) (x6_1 : List Int), v1 = .int .i64 x1_1 ∧ v5 = .int .u8 x5_1 ∧ Aside0 (spec_EntryHead.l0 kq x1_1 x5_1 x6_1 = some r) ∧ Aside0 (kq ≤ k) ∧ Aside0 (Kd.R (Kd.int .u8) 5 w' w.heap.size (fun _ => True) v6 x6_1) ∧ Aside0 (Below w.heap.size w w'))
  case atStart => exact ⟨(wrap64 (Int.tdiv a1 16)), ((Go.bits .or .i64 (wrap64 (a0 * 16)) (Int.tmod a1 16)) % 256), (([] : List Int)), (by first | rfl | (simp; done) | (simp [*]; done)), (by first | rfl | (simp; done) | (simp [*]; done)), H', ⟨Nat.le_refl _⟩, ⟨by first | exact Kd.R_nil _ _ _ _ _ | exact Kd.N_nil _ _ _ _ _ | exact Kd.V_nil _ _ _ _ _ | exact Kd.Q_nil _ _ _ _ _ | exact Kd.S_nil _ _ _ _ _⟩, ⟨by repeat (first | (with_reducible first | exact HB.out | apply below_alloc | apply pw_below_drewN | apply below_drew1) | exact HB.out)⟩⟩
  case round =>
    clear H'
    try clear c1
    try clear p2
    obtain ⟨x1_1, x5_1, x6_1, rfl, rfl, HA, HK1, HO_6, HB⟩ := hrel
    cases gk with
    | zero => exact absurd HA.out (by simp [spec_EntryHead.l0])
    | succ k1 =>
      have H := HA.out
      clear HA
      simp only [spec_EntryHead.l0] at H
      by_cases c3 : x1_1 > 0
      · rw [if_pos c3] at H
        have c3b0 : decide (0 < x1_1) = true := decide_eq_true c3
        clear c3
        by_cases c4 : x6_1.length < 140737488355328
        · rw [if_pos c4] at H
          have LMc4 := Aside0.mk c4
          clear c4
          obtain ⟨y236, hy236⟩ : ∃ y_ : List Int, y_ = (x6_1 ++ [Go.bits .or .u8 x5_1 128]) := ⟨_, rfl⟩
          replace H : (spec_EntryHead.l0 k1 (wrap64 (Int.tdiv x1_1 128)) ((Int.tmod x1_1 128) % 256) y236) = some r := by first | (rw [hy236]; with_reducible exact H) | (have H2_ := (Option.bind_some _ _).symm.trans H; rw [hy236]; with_reducible exact H2_) | (have H2_ := (Option.bind_some _ _).symm.trans H; with_reducible exact H2_) | with_reducible exact H | (rw [hy236]; exact H) | exact H
          have Ny236 := Aside0.mk hy236
          clear hy236
          have H' := Aside0.mk H
          clear H
          go_wp2_with (first | ((with_reducible refine gate_builtin (b := .append) (xs := #[.tmp 17, .tmp 20]) rfl ?_); at_builtin; refine Kd.R_append (Kd.int .u8) (w0 := w) w.heap.size rfl (.tmp 17) (.tmp 20) 25 5 (.int .u8 0) 1 rfl Tryz.underlying25 info5 rfl (by decide) (by omega) u6 x6_1 (Go.bits .or .u8 x5_1 128) [.int .u8 (Go.bits .or .u8 x5_1 128)] (fun _ => True) (fun _ => False) rfl rfl ?aP (fun _ hk => hk.elim) ?aF ?aO ?aB ?aS ?aL ?_; (case aP => exact rfl); (case aB => exact (by repeat (first | (with_reducible first | exact HB.out | apply below_alloc | apply pw_below_drewN | apply below_drew1) | exact HB.out))); (case aF => exact (fun _ _ => trivial)); (case aO => exact (by (with_reducible repeat (first | apply Kd.R_alloc | apply Kd.R_drewN | apply Kd.R_drew)); exact HO_6.out)); (case aS => exact (below_size (by repeat (first | (with_reducible first | exact HB.out | apply below_alloc | apply pw_below_drewN | apply below_drew1) | exact HB.out)))); (case aL => have := LMc4.out; omega); intro v237 w5 ho hb hg hat; rw [← Ny236.out] at ho; have n0_ := Aside0.mk (hb); have n1_ := Aside0.mk (ho); clear HB; clear HO_6; have HB := n0_; have HO238 := n1_; clear n0_ n1_; clear ho hb hg hat))
          go_roundg k1
          case measure => have := HK1.out; omega
          case rel => exact ⟨(wrap64 (Int.tdiv x1_1 128)), ((Int.tmod x1_1 128) % 256), (y236), (by first | rfl | (simp; done) | (simp [*]; done)), (by first | rfl | (simp; done) | (simp [*]; done)), H', ⟨by have := HK1.out; omega⟩, ⟨by (with_reducible repeat (first | apply Kd.R_alloc | apply Kd.R_drewN | apply Kd.R_drew)); exact HO238.out⟩, ⟨by repeat (first | (with_reducible first | exact HB.out | apply below_alloc | apply pw_below_drewN | apply below_drew1) | exact HB.out)⟩⟩
        · rw [if_neg c4] at H
          exact absurd H (by simp)
      · rw [if_neg c3] at H
        have c3b0 : decide (0 < x1_1) = false := decide_eq_false c3
        clear c3
        by_cases c6 : x6_1.length < 140737488355328
        · rw [if_pos c6] at H
          have LMc6 := Aside0.mk c6
          clear c6
          obtain ⟨y239, hy239⟩ : ∃ y_ : List Int, y_ = (x6_1 ++ [x5_1]) := ⟨_, rfl⟩
          replace H : (some y239) = some r := by first | (rw [hy239]; with_reducible exact H) | (have H2_ := (Option.bind_some _ _).symm.trans H; rw [hy239]; with_reducible exact H2_) | (have H2_ := (Option.bind_some _ _).symm.trans H; with_reducible exact H2_) | with_reducible exact H | (rw [hy239]; exact H) | exact H
          have Ny239 := Aside0.mk hy239
          clear hy239
          obtain rfl := Option.some.inj H
          go_wp2_with (first | ((with_reducible refine gate_builtin (b := .append) (xs := #[.tmp 27, .tmp 29]) rfl ?_); at_builtin; refine Kd.R_append (Kd.int .u8) (w0 := w) w.heap.size rfl (.tmp 27) (.tmp 29) 25 5 (.int .u8 0) 1 rfl Tryz.underlying25 info5 rfl (by decide) (by omega) u6 x6_1 x5_1 [.int .u8 x5_1] (fun _ => True) (fun _ => False) rfl rfl ?aP (fun _ hk => hk.elim) ?aF ?aO ?aB ?aS ?aL ?_; (case aP => exact rfl); (case aB => exact (by repeat (first | (with_reducible first | exact HB.out | apply below_alloc | apply pw_below_drewN | apply below_drew1) | exact HB.out))); (case aF => exact (fun _ _ => trivial)); (case aO => exact (by (with_reducible repeat (first | apply Kd.R_alloc | apply Kd.R_drewN | apply Kd.R_drew)); exact HO_6.out)); (case aS => exact (below_size (by repeat (first | (with_reducible first | exact HB.out | apply below_alloc | apply pw_below_drewN | apply below_drew1) | exact HB.out)))); (case aL => have := LMc6.out; omega); intro v240 w7 ho hb hg hat; rw [← Ny239.out] at ho; have n0_ := Aside0.mk (hb); have n1_ := Aside0.mk (ho); clear HB; clear HO_6; have HB := n0_; have HO241 := n1_; clear n0_ n1_; clear ho hb hg hat))
          go_ret
          exact ⟨_, by first | rfl | (simp [errW_none, errW_some] <;> rfl) | (simp [*, errW_none, errW_some] <;> rfl), by (with_reducible repeat (first | apply Kd.R_alloc | apply Kd.R_drewN | apply Kd.R_drew)); exact HO241.out, by repeat (first | (with_reducible first | exact HB.out | apply below_alloc | apply pw_below_drewN | apply below_drew1) | exact HB.out)⟩
        · rw [if_neg c6] at H
          exact absurd H (by simp)

/-! ### spec_Back: function 17 -/
def spec_Back.l0 : Nat → Int → List Int → Option (List Int)
  | 0, _, _ => none
  | k + 1, x0, x3 => if x0 > 0 then ((some (([(wrap64 ((Int.tmod (wrap64 (x0 - 1)) 128) + 128)) % 256] : List Int) : List Int)).bind fun y245 => (if y245.length + x3.length < 140737488355328 then (spec_Back.l0 k (wrap64 (Int.tdiv (wrap64 (x0 - 1)) 128)) (y245 ++ x3)) else (none))) else (some x3)
def spec_Back.f (k : Nat) (a0 : Int) : Option (List Int) := spec_Back.l0 k (wrap64 (Int.tdiv a0 128)) (([(Int.tmod a0 128) % 256] : List Int))
theorem spec_Back.mono_l : ∀ k, (∀ y0 y1, LeO (spec_Back.l0 k y0 y1) (spec_Back.l0 (k + 1) y0 y1))
  | 0 => fun _ _ r h => by simp [spec_Back.l0] at h
  | k + 1 => by
    have ih0 := spec_Back.mono_l k
    · intro y0 y1
      unfold spec_Back.l0
      repeat' first
      | (with_reducible exact ih0 _ _)
      | (with_reducible exact LeO.refl _)
      | (with_reducible exact LeO.none _)
      | (with_reducible refine LeO.ite ?_ ?_)
      | (with_reducible refine LeO.bind ?_ (fun _ => ?_))
      | exact ih0 _ _
      | exact LeO.none _
      | refine LeO.ite ?_ ?_
      | refine LeO.bind ?_ (fun _ => ?_)
theorem spec_Back.mono : ∀ a0 k, LeO (spec_Back.f k a0) (spec_Back.f (k + 1) a0) := by
  intro a0 k
  have ih0 := spec_Back.mono_l k
  unfold spec_Back.f
  repeat' first
      | (with_reducible exact ih0 _ _)
      | (with_reducible exact LeO.refl _)
      | (with_reducible exact LeO.none _)
      | (with_reducible refine LeO.ite ?_ ?_)
      | (with_reducible refine LeO.bind ?_ (fun _ => ?_))
      | exact ih0 _ _
      | exact LeO.none _
      | refine LeO.ite ?_ ?_
      | refine LeO.bind ?_ (fun _ => ?_)
set_option maxHeartbeats 8000000 in
set_option maxRecDepth 100000 in
theorem spec_Back.calls (k : Nat) (a0 : Int) (r : List Int) (w : World) (h : spec_Back.f k a0 = some r) :
    Calls Tryz.prog 17 #[.int .i64 a0] w fun e w' => ∃ v0_ : Value, e = .returned (v0_) ∧ Kd.R (Kd.int .u8) 5 w' w.heap.size (fun _ => True) v0_ r ∧ Below w.heap.size w w' := by
  have HB := Aside0.mk (Below.refl w.heap.size w)
  have H : (spec_Back.l0 k (wrap64 (Int.tdiv a0 128)) (([(Int.tmod a0 128) % 256] : List Int))) = some r := h
  clear h
  obtain ⟨y242, hy242⟩ : ∃ y_ : List Int, y_ = (([(Int.tmod a0 128) % 256] : List Int)) := ⟨_, rfl⟩
  replace H : (spec_Back.l0 k (wrap64 (Int.tdiv a0 128)) y242) = some r := by first | (rw [hy242]; with_reducible exact H) | (have H2_ := (Option.bind_some _ _).symm.trans H; rw [hy242]; with_reducible exact H2_) | (have H2_ := (Option.bind_some _ _).symm.trans H; with_reducible exact H2_) | with_reducible exact H | (rw [hy242]; exact H) | exact H
  have Ny242 := Aside0.mk hy242
  clear hy242
  have H' := Aside0.mk H
  clear H
  go_enter Tryz.func17, Tryz.ntmps17
  go_wp2_with (first | ((with_reducible refine gate_dst (N := 7) rfl ?_); refine Kd.R_lit (Kd.int .u8) _ 5 ?hg (N := 7) ?hd (xs := ([(Int.tmod a0 128) % 256] : List Int)) (inner := [.int .u8 ((Int.tmod a0 128) % 256)]) (ok := fun _ => True) (okp := fun _ => True) ?hr ?hp (fun _ hk => hk) trivial (Below.refl _ _) (Nat.le_refl _) (by simp) ?_; (case hd => rfl); (case hg => rfl); (case hr => first | (go_simp; done) | (go_simp; rfl)); (case hp => exact (Reps.one (show Kd.M (Kd.int .u8) _ _ _ ((Int.tmod a0 128) % 256) [.int .u8 ((Int.tmod a0 128) % 256)] from rfl) (Reps.none _ _))); intro v243 w2 ho3 hb hg_ hnew_; clear hg_ hnew_; (first | rw [← Ny242.out] at ho3 | (simp only [Int.reduceToNat] at ho3; rw [← Ny242.out] at ho3)); have n0_ := Aside0.mk (Kd.R_lower ho3 (below_size (by repeat (first | (with_reducible first | exact HB.out | apply below_alloc | apply pw_below_drewN | apply below_drew1) | exact HB.out)))); have n1_ := Aside0.mk (below_step (by repeat (first | (with_reducible first | exact HB.out | apply below_alloc | apply pw_below_drewN | apply below_drew1) | exact HB.out)) hb); clear HB; have HO244 := n0_; have HB := n1_; clear n0_ n1_; clear hb ho3))
  go_loopg [0, 3] k (fun kq v0 v3 w' => ∃ (x0_1 : Int) (x3_1 : List Int), v0 = .int .i64 x0_1 ∧ Aside0 (spec_Back.l0 kq x0_1 x3_1 = some r) ∧ Aside0 (kq ≤ k) ∧ Aside0 (Kd.R (Kd.int .u8) 5 w' w.heap.size (fun _ => True) v3 x3_1) ∧ Aside0 (Below w.heap.size w w'))
  case atStart => exact ⟨(wrap64 (Int.tdiv a0 128)), (y242), (by first | rfl | (simp; done) | (simp [*]; done)), H', ⟨Nat.le_refl _⟩, ⟨by (with_reducible repeat (first | apply Kd.R_alloc | apply Kd.R_drewN | apply Kd.R_drew)); exact HO244.out⟩, ⟨by repeat (first | (with_reducible first | exact HB.out | apply below_alloc | apply pw_below_drewN | apply below_drew1) | exact HB.out)⟩⟩
  case round =>
    clear H'
    try clear c1
    try clear p2
    obtain ⟨x0_1, x3_1, rfl, HA, HK1, HO_3, HB⟩ := hrel
    cases gk with
    | zero => exact absurd HA.out (by simp [spec_Back.l0])
    | succ k1 =>
      have H := HA.out
      clear HA
      simp only [spec_Back.l0] at H
      by_cases c4 : x0_1 > 0
      · rw [if_pos c4] at H
        have c4b0 : decide (0 < x0_1) = true := decide_eq_true c4
        clear c4
        obtain ⟨y245, hy245⟩ : ∃ y_ : List Int, y_ = (([(wrap64 ((Int.tmod (wrap64 (x0_1 - 1)) 128) + 128)) % 256] : List Int)) := ⟨_, rfl⟩
        replace H : (if y245.length + x3_1.length < 140737488355328 then (spec_Back.l0 k1 (wrap64 (Int.tdiv (wrap64 (x0_1 - 1)) 128)) (y245 ++ x3_1)) else (none)) = some r := by first | (rw [hy245]; with_reducible exact H) | (have H2_ := (Option.bind_some _ _).symm.trans H; rw [hy245]; with_reducible exact H2_) | (have H2_ := (Option.bind_some _ _).symm.trans H; with_reducible exact H2_) | with_reducible exact H | (rw [hy245]; exact H) | exact H
        have Ny245 := Aside0.mk hy245
        clear hy245
        by_cases c5 : y245.length + x3_1.length < 140737488355328
        · rw [if_pos c5] at H
          have LMc5 := Aside0.mk c5
          clear c5
          obtain ⟨y248, hy248⟩ : ∃ y_ : List Int, y_ = (y245 ++ x3_1) := ⟨_, rfl⟩
          replace H : (spec_Back.l0 k1 (wrap64 (Int.tdiv (wrap64 (x0_1 - 1)) 128)) y248) = some r := by first | (rw [hy248]; with_reducible exact H) | (have H2_ := (Option.bind_some _ _).symm.trans H; rw [hy248]; with_reducible exact H2_) | (have H2_ := (Option.bind_some _ _).symm.trans H; with_reducible exact H2_) | with_reducible exact H | (rw [hy248]; exact H) | exact H
          have Ny248 := Aside0.mk hy248
          clear hy248
          have H' := Aside0.mk H
          clear H
          go_wp2_with (first | ((with_reducible refine gate_dst (N := 20) rfl ?_); refine Kd.R_lit (Kd.int .u8) _ 5 ?hg (N := 20) ?hd (xs := ([(wrap64 ((Int.tmod (wrap64 (x0_1 - 1)) 128) + 128)) % 256] : List Int)) (inner := [.int .u8 ((wrap64 ((Int.tmod (wrap64 (x0_1 - 1)) 128) + 128)) % 256)]) (ok := fun _ => True) (okp := fun _ => True) ?hr ?hp (fun _ hk => hk) trivial (Below.refl _ _) (Nat.le_refl _) (by simp) ?_; (case hd => rfl); (case hg => rfl); (case hr => first | (go_simp; done) | (go_simp; rfl)); (case hp => exact (Reps.one (show Kd.M (Kd.int .u8) _ _ _ ((wrap64 ((Int.tmod (wrap64 (x0_1 - 1)) 128) + 128)) % 256) [.int .u8 ((wrap64 ((Int.tmod (wrap64 (x0_1 - 1)) 128) + 128)) % 256)] from rfl) (Reps.none _ _))); intro v246 w6 ho7 hb hg_ hnew_; clear hg_ hnew_; (first | rw [← Ny245.out] at ho7 | (simp only [Int.reduceToNat] at ho7; rw [← Ny245.out] at ho7)); have n0_ := Aside0.mk (Kd.R_elder' (by (with_reducible repeat (first | apply Kd.R_alloc | apply Kd.R_drewN | apply Kd.R_drew)); exact HO_3.out) (Kd.R_base ho7) hb); have n1_ := Aside0.mk (Kd.R_lower (Kd.R_new' ho7 (Kd.R_lt (by (with_reducible repeat (first | apply Kd.R_alloc | apply Kd.R_drewN | apply Kd.R_drew)); exact HO_3.out))) (below_size (by repeat (first | (with_reducible first | exact HB.out | apply below_alloc | apply pw_below_drewN | apply below_drew1) | exact HB.out)))); have n2_ := Aside0.mk (below_step (by repeat (first | (with_reducible first | exact HB.out | apply below_alloc | apply pw_below_drewN | apply below_drew1) | exact HB.out)) hb); clear HO_3; clear HB; have HO_3 := n0_; have HO247 := n1_; have HB := n2_; clear n0_ n1_ n2_; clear hb ho7; obtain ⟨Ao9, co9, eo9⟩ := Kd.R_slice HO_3.out; subst eo9) | ((with_reducible refine gate_builtin (b := .append) (xs := #[.tmp 20, .tmp 21]) rfl ?_); at_builtin; refine Kd.R_append_rows (Kd.int .u8) (w0 := w) w.heap.size rfl (.tmp 20) (.tmp 21) 25 5 (.int .u8 0) 1 rfl Tryz.underlying25 info5 rfl (by decide) (by omega) v246 y245 x3_1 _ _ _ (fun k_ => some k_ ≠ (.slice Ao9 x3_1.length co9 : Value).ownBlock) (fun _ => False) rfl rfl ?aO ?aR (fun _ _ h => h) (fun _ h => h.elim) ?aF ?aB ?aS ?aL ?_; (case aR => repeat (first | exact (Kd.R_reads' HO_3.out).2.2 | (with_reducible refine Kd.C_alloc ?_ _) | (with_reducible refine Kd.C_drewN ?_ _) | (with_reducible refine Kd.C_drew ?_))); (case aB => exact (by repeat (first | (with_reducible first | exact HB.out | apply below_alloc | apply pw_below_drewN | apply below_drew1) | exact HB.out))); (case aF => exact (fun k_ hk => Kd.fresh' (Kd.R_lt (by (with_reducible repeat (first | apply Kd.R_alloc | apply Kd.R_drewN | apply Kd.R_drew)); exact HO_3.out)) k_ hk)); (case aO => exact (by (with_reducible repeat (first | apply Kd.R_alloc | apply Kd.R_drewN | apply Kd.R_drew)); exact Kd.R_mono HO247.out (fun _ hk => hk.2))); (case aS => exact (below_size (by repeat (first | (with_reducible first | exact HB.out | apply below_alloc | apply pw_below_drewN | apply below_drew1) | exact HB.out)))); (case aL => have := LMc5.out; omega); intro v249 w8 ho hb hg hat; rw [← Ny248.out] at ho; have n0_ := Aside0.mk (Kd.R_after (ok := (fun _ => True)) (by (with_reducible repeat (first | apply Kd.R_alloc | apply Kd.R_drewN | apply Kd.R_drew)); exact HO_3.out) hg hat); have n1_ := Aside0.mk (hb); have n2_ := Aside0.mk (ho); clear HO_3; clear HB; clear HO247; have HO_3 := n0_; have HB := n1_; have HO250 := n2_; clear n0_ n1_ n2_; clear ho hb hg hat))
          go_roundg k1
          case measure => have := HK1.out; omega
          case rel => exact ⟨(wrap64 (Int.tdiv (wrap64 (x0_1 - 1)) 128)), (y248), (by first | rfl | (simp; done) | (simp [*]; done)), H', ⟨by have := HK1.out; omega⟩, ⟨by (with_reducible repeat (first | apply Kd.R_alloc | apply Kd.R_drewN | apply Kd.R_drew)); exact Kd.R_mono HO250.out (fun _ hk => trivial)⟩, ⟨by repeat (first | (with_reducible first | exact HB.out | apply below_alloc | apply pw_below_drewN | apply below_drew1) | exact HB.out)⟩⟩
        · rw [if_neg c5] at H
          exact absurd H (by simp)
      · rw [if_neg c4] at H
        have c4b0 : decide (0 < x0_1) = false := decide_eq_false c4
        clear c4
        obtain rfl := Option.some.inj H
        go_wp2
        go_ret
        exact ⟨_, by first | rfl | (simp [errW_none, errW_some] <;> rfl) | (simp [*, errW_none, errW_some] <;> rfl), by (with_reducible repeat (first | apply Kd.R_alloc | apply Kd.R_drewN | apply Kd.R_drew)); exact HO_3.out, by repeat (first | (with_reducible first | exact HB.out | apply below_alloc | apply pw_below_drewN | apply below_drew1) | exact HB.out)⟩

end Go.Proofs.YtohdpnoinfnmiaaGreatDoor.PFnPackOther
