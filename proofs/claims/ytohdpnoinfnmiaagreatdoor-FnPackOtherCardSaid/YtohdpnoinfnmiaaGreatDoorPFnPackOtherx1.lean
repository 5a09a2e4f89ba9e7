-- PRINTED BY print.sh 35421559b90ae4d0a3588c463048766b98c2df88dd9212a6774a882060cdf62d: not written by this session
import Derived.Test.YtohdpnoinfnmiaaGreatDoorPFnPackOtherx0
namespace Go.Proofs.YtohdpnoinfnmiaaGreatDoor.PFnPackOther
open Go.RowKit Go.Proofs.YtohdpnoinfnmiaaGreatDoorW.PrintWords Go.Proofs.YtohdpnoinfnmiaaGreatDoorW.PrintLast Go.Proofs.YtohdpnoinfnmiaaGreatDoorW.PrintMore
attribute [local go_sem] max2_int min2_int max_two min_two max_three min_three max_four min_four   -- for this text's walks alone
set_option linter.unusedVariables false
set_option linter.unusedSimpArgs false

/-! ### laws_zzFits8: function 67 -/
def laws_zzFits8.f (a0_0 : Bool) (a0_1 : Int) (a0_2 : Int) (l0_3 : List Int) (a0_4 : Int) : Option (Bool) := if (l0_3.length : Int) > 2147483647 then (some false) else (some true)
set_option maxHeartbeats 8000000 in
set_option maxRecDepth 100000 in
theorem laws_zzFits8.calls (a0_0 : Bool) (a0_1 : Int) (a0_2 : Int) (A0_3 : Option Addr) (c0_3 : Nat) (l0_3 : List Int) (a0_4 : Int) (r : Bool) (w : World) (hr0_3 : Kd.C (Kd.int .u8) w A0_3 l0_3.length l0_3) (hc0_3 : l0_3.length ≤ c0_3) (h : laws_zzFits8.f a0_0 a0_1 a0_2 l0_3 a0_4 = some r) :
    Calls Tryz.prog 67 #[.agg #[.bool a0_0, .int .i64 a0_1, .int .i64 a0_2, .slice A0_3 l0_3.length c0_3, .int .i64 a0_4]] w fun e w' => e = .returned (.bool r) ∧ Below w.heap.size w w' := by
  have hu105 := Tryz.underlying105
  have HR0_3 := Aside0.mk hr0_3
  have HC0_3 := Aside0.mk hc0_3
  clear hr0_3 hc0_3
  have HB := Aside0.mk (Below.refl w.heap.size w)
  have H : (if (l0_3.length : Int) > 2147483647 then (some false) else (some true)) = some r := h
  clear h
  by_cases c2 : (l0_3.length : Int) > 2147483647
  · rw [if_pos c2] at H
    have c2b0 : decide (2147483647 < (l0_3.length : Int)) = true := decide_eq_true c2
    have c2b1 : decide (2147483647 < l0_3.length) = true := decide_eq_true (by omega)
    clear c2
    obtain rfl := Option.some.inj H
    go_enter Tryz.func67, Tryz.ntmps67
    go_wp2_with (first | ((with_reducible refine gate_dst (N := 1) rfl ?_); refine box_event ?hg (N := 1) ?hd (cs := #[.bool a0_0, .int .i64 a0_1, .int .i64 a0_2, .slice A0_3 l0_3.length c0_3, .int .i64 a0_4]) (t := 105) ?hr ?_; (case hd => rfl); (case hg => rfl); (case hr => first | (go_simp; done) | (go_simp; rfl)); intro gb101 hg w3 hbox hb; have n0_ := Aside0.mk (below_step (by repeat (first | (with_reducible first | exact HB.out | apply below_alloc | apply pw_below_drewN | apply below_drew1) | exact HB.out)) hb); have n1_ := Aside0.mk (hbox); have n2_ := Aside0.mk ((by rw [hg]; exact (below_size (by repeat (first | (with_reducible first | exact HB.out | apply below_alloc | apply pw_below_drewN | apply below_drew1) | exact HB.out))) : w.heap.size ≤ gb101)); have n3_ := Aside0.mk ((by rw [hg]; exact (below_size (by repeat (first | (with_reducible first | exact HB.out | apply below_alloc | apply pw_below_drewN | apply below_drew1) | exact HB.out))) : w.heap.size ≤ gb101)); clear HB; have HB := n0_; have BK101 := n1_; have GW101 := n2_; have GE101 := n3_; clear n0_ n1_ n2_ n3_; clear hb hbox hg; have hcz4_0 : w3.cell? ⟨gb101, 0, none⟩ = some (.bool a0_0) := (blk_cell BK101.out 0).trans rfl; have hcz4_1 : w3.cell? ⟨gb101, 1, none⟩ = some (.int .i64 a0_1) := (blk_cell BK101.out 1).trans rfl; have hcz4_2 : w3.cell? ⟨gb101, 2, none⟩ = some (.int .i64 a0_2) := (blk_cell BK101.out 2).trans rfl; have hcz4_3 : w3.cell? ⟨gb101, 3, none⟩ = some (.slice A0_3 l0_3.length c0_3) := (blk_cell BK101.out 3).trans rfl; have hcz4_4 : w3.cell? ⟨gb101, 4, none⟩ = some (.int .i64 a0_4) := (blk_cell BK101.out 4).trans rfl; have hfz4_0 := blk_frozen BK101.out 0; have hfz4_1 := blk_frozen BK101.out 1; have hfz4_2 := blk_frozen BK101.out 2; have hfz4_3 := blk_frozen BK101.out 3; have hfz4_4 := blk_frozen BK101.out 4))
    go_ret
    exact ⟨by first | rfl | (simp [errW_none, errW_some] <;> rfl) | (simp [*, errW_none, errW_some] <;> rfl), by repeat (first | (with_reducible first | exact HB.out | apply below_alloc | apply pw_below_drewN | apply below_drew1 | refine below_set ?_ GE101.out) | exact HB.out)⟩
  · rw [if_neg c2] at H
    have c2b0 : decide (2147483647 < (l0_3.length : Int)) = false := decide_eq_false c2
    have c2b1 : decide (2147483647 < l0_3.length) = false := decide_eq_false (by omega)
    clear c2
    obtain rfl := Option.some.inj H
    go_enter Tryz.func67, Tryz.ntmps67
    go_wp2_with (first | ((with_reducible refine gate_dst (N := 1) rfl ?_); refine box_event ?hg (N := 1) ?hd (cs := #[.bool a0_0, .int .i64 a0_1, .int .i64 a0_2, .slice A0_3 l0_3.length c0_3, .int .i64 a0_4]) (t := 105) ?hr ?_; (case hd => rfl); (case hg => rfl); (case hr => first | (go_simp; done) | (go_simp; rfl)); intro gb101 hg w5 hbox hb; have n0_ := Aside0.mk (below_step (by repeat (first | (with_reducible first | exact HB.out | apply below_alloc | apply pw_below_drewN | apply below_drew1) | exact HB.out)) hb); have n1_ := Aside0.mk (hbox); have n2_ := Aside0.mk ((by rw [hg]; exact (below_size (by repeat (first | (with_reducible first | exact HB.out | apply below_alloc | apply pw_below_drewN | apply below_drew1) | exact HB.out))) : w.heap.size ≤ gb101)); have n3_ := Aside0.mk ((by rw [hg]; exact (below_size (by repeat (first | (with_reducible first | exact HB.out | apply below_alloc | apply pw_below_drewN | apply below_drew1) | exact HB.out))) : w.heap.size ≤ gb101)); clear HB; have HB := n0_; have BK101 := n1_; have GW101 := n2_; have GE101 := n3_; clear n0_ n1_ n2_ n3_; clear hb hbox hg; have hcz6_0 : w5.cell? ⟨gb101, 0, none⟩ = some (.bool a0_0) := (blk_cell BK101.out 0).trans rfl; have hcz6_1 : w5.cell? ⟨gb101, 1, none⟩ = some (.int .i64 a0_1) := (blk_cell BK101.out 1).trans rfl; have hcz6_2 : w5.cell? ⟨gb101, 2, none⟩ = some (.int .i64 a0_2) := (blk_cell BK101.out 2).trans rfl; have hcz6_3 : w5.cell? ⟨gb101, 3, none⟩ = some (.slice A0_3 l0_3.length c0_3) := (blk_cell BK101.out 3).trans rfl; have hcz6_4 : w5.cell? ⟨gb101, 4, none⟩ = some (.int .i64 a0_4) := (blk_cell BK101.out 4).trans rfl; have hfz6_0 := blk_frozen BK101.out 0; have hfz6_1 := blk_frozen BK101.out 1; have hfz6_2 := blk_frozen BK101.out 2; have hfz6_3 := blk_frozen BK101.out 3; have hfz6_4 := blk_frozen BK101.out 4))
    go_ret
    exact ⟨by first | rfl | (simp [errW_none, errW_some] <;> rfl) | (simp [*, errW_none, errW_some] <;> rfl), by repeat (first | (with_reducible first | exact HB.out | apply below_alloc | apply pw_below_drewN | apply below_drew1 | refine below_set ?_ GE101.out) | exact HB.out)⟩

/-! ### laws_zzFits7: function 33 -/
def laws_zzFits7.l0 : Nat → List (S105) → Int → Int → Option (Bool)
  | 0, _, _, _ => none
  | k + 1, x8, x9, x10 => if x10 < x9 then (if 0 ≤ x10 then (if x10 < (x8.length : Int) then ((laws_zzFits8.f ((rd_T105 x8 x10).f0) ((rd_T105 x8 x10).f1) ((rd_T105 x8 x10).f2) ((rd_T105 x8 x10).f3) ((rd_T105 x8 x10).f4)).bind fun t104 => (if t104 = true then (laws_zzFits7.l0 k x8 x9 (wrap64 (x10 + 1))) else (some false))) else (none)) else (none)) else (some true)
def laws_zzFits7.f (k : Nat) (l0 : List (S105)) : Option (Bool) := if (l0.length : Int) > 2147483647 then (some false) else (laws_zzFits7.l0 k l0 (l0.length : Int) 0)
theorem laws_zzFits7.mono_l : ∀ k, (∀ y0 y1 y2, LeO (laws_zzFits7.l0 k y0 y1 y2) (laws_zzFits7.l0 (k + 1) y0 y1 y2))
  | 0 => fun _ _ _ r h => by simp [laws_zzFits7.l0] at h
  | k + 1 => by
    have ih0 := laws_zzFits7.mono_l k
    · intro y0 y1 y2
      unfold laws_zzFits7.l0
      repeat' first
      | (with_reducible exact ih0 _ _ _)
      | (with_reducible exact LeO.refl _)
      | (with_reducible exact LeO.none _)
      | (with_reducible refine LeO.ite ?_ ?_)
      | (with_reducible refine LeO.bind ?_ (fun _ => ?_))
      | exact ih0 _ _ _
      | exact LeO.none _
      | refine LeO.ite ?_ ?_
      | refine LeO.bind ?_ (fun _ => ?_)
theorem laws_zzFits7.mono : ∀ a0 k, LeO (laws_zzFits7.f k a0) (laws_zzFits7.f (k + 1) a0) := by
  intro a0 k
  have ih0 := laws_zzFits7.mono_l k
  unfold laws_zzFits7.f
  repeat' first
      | (with_reducible exact ih0 _ _ _)
      | (with_reducible exact LeO.refl _)
      | (with_reducible exact LeO.none _)
      | (with_reducible refine LeO.ite ?_ ?_)
      | (with_reducible refine LeO.bind ?_ (fun _ => ?_))
      | exact ih0 _ _ _
      | exact LeO.none _
      | refine LeO.ite ?_ ?_
      | refine LeO.bind ?_ (fun _ => ?_)
set_option maxHeartbeats 8000000 in
set_option maxRecDepth 100000 in
theorem laws_zzFits7.calls (k : Nat) (A0 : Option Addr) (c0 : Nat) (l0 : List (S105)) (r : Bool) (w : World) (hr0 : Kd.C k105 w A0 l0.length l0) (hc0 : l0.length ≤ c0) (h : laws_zzFits7.f k l0 = some r) :
    Calls Tryz.prog 33 #[.slice A0 l0.length c0] w fun e w' => e = .returned (.bool r) ∧ Below w.heap.size w w' := by
  have hu105 := Tryz.underlying105
  have HR0 := Aside0.mk hr0
  have HC0 := Aside0.mk hc0
  clear hr0 hc0
  have HB := Aside0.mk (Below.refl w.heap.size w)
  have H : (if (l0.length : Int) > 2147483647 then (some false) else (laws_zzFits7.l0 k l0 (l0.length : Int) 0)) = some r := h
  clear h
  by_cases c2 : (l0.length : Int) > 2147483647
  · rw [if_pos c2] at H
    have c2b0 : decide (2147483647 < (l0.length : Int)) = true := decide_eq_true c2
    have c2b1 : decide (2147483647 < l0.length) = true := decide_eq_true (by omega)
    clear c2
    obtain rfl := Option.some.inj H
    go_enter Tryz.func33, Tryz.ntmps33
    go_wp2
    go_ret
    exact ⟨by first | rfl | (simp [errW_none, errW_some] <;> rfl) | (simp [*, errW_none, errW_some] <;> rfl), by repeat (first | (with_reducible first | exact HB.out | apply below_alloc | apply pw_below_drewN | apply below_drew1) | exact HB.out)⟩
  · rw [if_neg c2] at H
    have c2b0 : decide (2147483647 < (l0.length : Int)) = false := decide_eq_false c2
    have c2b1 : decide (2147483647 < l0.length) = false := decide_eq_false (by omega)
    clear c2
    have H' := Aside0.mk H
    clear H
    go_enter Tryz.func33, Tryz.ntmps33
    go_wp2
    go_loopg [10] k (fun kq v10 w' => ∃ (x10_1 : Int), v10 = .int .i64 x10_1 ∧ Aside0 (laws_zzFits7.l0 kq l0 (l0.length : Int) x10_1 = some r) ∧ Aside0 (kq ≤ k) ∧ Aside0 (Below w.heap.size w w'))
    case atStart => exact ⟨(0), (by first | rfl | (simp; done) | (simp [*]; done)), H', ⟨Nat.le_refl _⟩, ⟨by repeat (first | (with_reducible first | exact HB.out | apply below_alloc | apply pw_below_drewN | apply below_drew1) | exact HB.out)⟩⟩
    case round =>
      clear H'
      try clear c2
      try clear c2b0
      try clear c2b1
      try clear p2
      obtain ⟨x10_1, rfl, HA, HK1, HB⟩ := hrel
      cases gk with
      | zero => exact absurd HA.out (by simp [laws_zzFits7.l0])
      | succ k1 =>
        have H := HA.out
        clear HA
        simp only [laws_zzFits7.l0] at H
        by_cases c3 : x10_1 < (l0.length : Int)
        · rw [if_pos c3] at H
          have c3b0 : decide (x10_1 < (l0.length : Int)) = true := decide_eq_true c3
          clear c3
          by_cases c4 : 0 ≤ x10_1
          · rw [if_pos c4] at H
            have c4b0 : decide (0 ≤ x10_1) = true := decide_eq_true c4
            clear c4
            by_cases c5 : x10_1 < (l0.length : Int)
            · rw [if_pos c5] at H
              have c5b0 : decide (x10_1 < (l0.length : Int)) = true := decide_eq_true c5
              clear c5
              replace H := Option.bind_eq_some_iff.mp H
              obtain ⟨t104, A60, H⟩ := H
              replace H : (if t104 = true then (laws_zzFits7.l0 k1 l0 (l0.length : Int) (wrap64 (x10_1 + 1))) else (some false)) = some r := H
              have A6 := Aside0.mk A60
              clear A60
              by_cases c7 : t104 = true
              · subst c7
                have H1 : (laws_zzFits7.l0 k1 l0 (l0.length : Int) (wrap64 (x10_1 + 1))) = some r := by rw [if_pos rfl] at H; exact H
                clear H
                have H := H1
                clear H1
                have H' := Aside0.mk H
                clear H
                have p102 : 0 ≤ (x10_1 : Int) := of_decide_eq_true (by first | (with_reducible assumption) | assumption)
                have q102 : x10_1 < (l0.length : Int) := of_decide_eq_true (by first | (with_reducible assumption) | assumption)
                obtain ⟨ad102, A102_3, c102_3, e102, hx102_0, hx102_1, hx102_2, hx102_3, hx102_4, hl102_3, hi102_3⟩ := at_T105 HR0.out x10_1 p102 q102
                cases e102
                replace hx102_0 := (HB.out.cell (World.block_lt_of_cell? w _ hx102_0)).trans hx102_0
                replace hx102_1 := (HB.out.cell (World.block_lt_of_cell? w _ hx102_1)).trans hx102_1
                replace hx102_2 := (HB.out.cell (World.block_lt_of_cell? w _ hx102_2)).trans hx102_2
                replace hx102_3 := (HB.out.cell (World.block_lt_of_cell? w _ hx102_3)).trans hx102_3
                replace hx102_4 := (HB.out.cell (World.block_lt_of_cell? w _ hx102_4)).trans hx102_4
                have HR102_3 := Aside0.mk hi102_3
                have HC102_3 := Aside0.mk hl102_3
                clear hi102_3 hl102_3
                replace p102 := eq_true p102
                replace q102 := eq_true q102
                go_wp2_with (first | ((with_reducible refine gate_dst (N := 4) rfl ?_); refine box_event ?hg (N := 4) ?hd (cs := #[.bool false, .int .i64 0, .int .i64 0, .slice none 0 0, .int .i64 0]) (t := 105) ?hr ?_; (case hd => rfl); (case hg => rfl); (case hr => first | (go_simp; done) | (go_simp; rfl)); intro gb103 hg w8 hbox hb; have n0_ := Aside0.mk (below_step (by repeat (first | (with_reducible first | exact HB.out | apply below_alloc | apply pw_below_drewN | apply below_drew1) | exact HB.out)) hb); have n1_ := Aside0.mk (hbox); have n2_ := Aside0.mk ((by rw [hg]; exact (below_size (by repeat (first | (with_reducible first | exact HB.out | apply below_alloc | apply pw_below_drewN | apply below_drew1) | exact HB.out))) : w.heap.size ≤ gb103)); have n3_ := Aside0.mk ((by rw [hg]; exact (below_size (by repeat (first | (with_reducible first | exact HB.out | apply below_alloc | apply pw_below_drewN | apply below_drew1) | exact HB.out))) : w.heap.size ≤ gb103)); clear HB; have HB := n0_; have BK103 := n1_; have GW103 := n2_; have GE103 := n3_; clear n0_ n1_ n2_ n3_; clear hb hbox hg; have hcz9_0 : w8.cell? ⟨gb103, 0, none⟩ = some (.bool false) := (blk_cell BK103.out 0).trans rfl; have hcz9_1 : w8.cell? ⟨gb103, 1, none⟩ = some (.int .i64 0) := (blk_cell BK103.out 1).trans rfl; have hcz9_2 : w8.cell? ⟨gb103, 2, none⟩ = some (.int .i64 0) := (blk_cell BK103.out 2).trans rfl; have hcz9_3 : w8.cell? ⟨gb103, 3, none⟩ = some (.slice none 0 0) := (blk_cell BK103.out 3).trans rfl; have hcz9_4 : w8.cell? ⟨gb103, 4, none⟩ = some (.int .i64 0) := (blk_cell BK103.out 4).trans rfl; have hfz9_0 := blk_frozen BK103.out 0; have hfz9_1 := blk_frozen BK103.out 1; have hfz9_2 := blk_frozen BK103.out 2; have hfz9_3 := blk_frozen BK103.out 3; have hfz9_4 := blk_frozen BK103.out 4) | ((with_reducible refine gate_callee (f := 67) rfl ?_); refine goesL_ (some 15) rfl rfl Tryz.func67 (by kernel_rfl) rfl #[.agg #[.bool ((rd_T105 l0 x10_1).f0), .int .i64 ((rd_T105 l0 x10_1).f1), .int .i64 ((rd_T105 l0 x10_1).f2), .slice A102_3 ((rd_T105 l0 x10_1).f3).length c102_3, .int .i64 ((rd_T105 l0 x10_1).f4)]] rfl (by (try simp only [List.map_toArray, List.map_cons, List.map_nil]); first | done | rfl | (simp only [List.length_drop, List.length_take]; rfl)) ?_; (with_reducible refine (laws_zzFits8.calls ((rd_T105 l0 x10_1).f0) ((rd_T105 l0 x10_1).f1) ((rd_T105 l0 x10_1).f2) _ _ ((rd_T105 l0 x10_1).f3) ((rd_T105 l0 x10_1).f4) true _ ?side1 ?side2 A6.out).mono ?_); (case side1 => exact Kd.C_below HR102_3.out (by repeat (first | (with_reducible first | exact HB.out | apply below_alloc | apply pw_below_drewN | apply below_drew1 | refine below_set ?_ GE103.out) | exact HB.out))); (case side2 => exact HC102_3.out); rintro e w10 ⟨rfl, hb⟩; refine ⟨_, rfl, ?_⟩; have n0_ := Aside0.mk (blk_below (g := gb103) (o := .cells #[.bool ((rd_T105 l0 x10_1).f0), .int .i64 ((rd_T105 l0 x10_1).f1), .int .i64 ((rd_T105 l0 x10_1).f2), .slice A102_3 ((rd_T105 l0 x10_1).f3).length c102_3, .int .i64 ((rd_T105 l0 x10_1).f4)] 105 (0, 0)) (by (with_reducible repeat (first | refine blk_drewN ?_ _ | refine blk_drew ?_ | refine blk_alloc ?_ _)); refine blk_put (cs := #[.bool ((rd_T105 l0 x10_1).f0), .int .i64 ((rd_T105 l0 x10_1).f1), .int .i64 ((rd_T105 l0 x10_1).f2), .slice A102_3 ((rd_T105 l0 x10_1).f3).length c102_3, .int .i64 0]) ?_ 4 _ rfl; (with_reducible repeat (first | refine blk_drewN ?_ _ | refine blk_drew ?_ | refine blk_alloc ?_ _)); refine blk_put (cs := #[.bool ((rd_T105 l0 x10_1).f0), .int .i64 ((rd_T105 l0 x10_1).f1), .int .i64 ((rd_T105 l0 x10_1).f2), .slice none 0 0, .int .i64 0]) ?_ 3 _ rfl; (with_reducible repeat (first | refine blk_drewN ?_ _ | refine blk_drew ?_ | refine blk_alloc ?_ _)); refine blk_put (cs := #[.bool ((rd_T105 l0 x10_1).f0), .int .i64 ((rd_T105 l0 x10_1).f1), .int .i64 0, .slice none 0 0, .int .i64 0]) ?_ 2 _ rfl; (with_reducible repeat (first | refine blk_drewN ?_ _ | refine blk_drew ?_ | refine blk_alloc ?_ _)); refine blk_put (cs := #[.bool ((rd_T105 l0 x10_1).f0), .int .i64 0, .int .i64 0, .slice none 0 0, .int .i64 0]) ?_ 1 _ rfl; (with_reducible repeat (first | refine blk_drewN ?_ _ | refine blk_drew ?_ | refine blk_alloc ?_ _)); refine blk_put (cs := #[.bool false, .int .i64 0, .int .i64 0, .slice none 0 0, .int .i64 0]) ?_ 0 _ rfl; (with_reducible repeat (first | refine blk_drewN ?_ _ | refine blk_drew ?_ | refine blk_alloc ?_ _)); exact BK103.out) hb); have n1_ := Aside0.mk (below_step (by repeat (first | (with_reducible first | exact HB.out | apply below_alloc | apply pw_below_drewN | apply below_drew1 | refine below_set ?_ GE103.out) | exact HB.out)) hb); clear BK103; clear HB; have BK103 := n0_; have HB := n1_; clear n0_ n1_; (try clear hb); (try clear hb2); (try clear hk); (try clear hi)))
                go_roundg k1
                case measure => have := HK1.out; omega
                case rel => exact ⟨(wrap64 (x10_1 + 1)), (by first | rfl | (simp; done) | (simp [*]; done)), H', ⟨by have := HK1.out; omega⟩, ⟨by repeat (first | (with_reducible first | exact HB.out | apply below_alloc | apply pw_below_drewN | apply below_drew1 | refine below_set ?_ GE103.out) | exact HB.out)⟩⟩
              · replace c7 := Bool.eq_false_iff.mpr c7
                subst c7
                have H1 : (some false) = some r := by rw [if_neg (show ¬ (false = true) by decide)] at H; exact H
                clear H
                have H := H1
                clear H1
                obtain rfl := Option.some.inj H
                have p102 : 0 ≤ (x10_1 : Int) := of_decide_eq_true (by first | (with_reducible assumption) | assumption)
                have q102 : x10_1 < (l0.length : Int) := of_decide_eq_true (by first | (with_reducible assumption) | assumption)
                obtain ⟨ad102, A102_3, c102_3, e102, hx102_0, hx102_1, hx102_2, hx102_3, hx102_4, hl102_3, hi102_3⟩ := at_T105 HR0.out x10_1 p102 q102
                cases e102
                replace hx102_0 := (HB.out.cell (World.block_lt_of_cell? w _ hx102_0)).trans hx102_0
                replace hx102_1 := (HB.out.cell (World.block_lt_of_cell? w _ hx102_1)).trans hx102_1
                replace hx102_2 := (HB.out.cell (World.block_lt_of_cell? w _ hx102_2)).trans hx102_2
                replace hx102_3 := (HB.out.cell (World.block_lt_of_cell? w _ hx102_3)).trans hx102_3
                replace hx102_4 := (HB.out.cell (World.block_lt_of_cell? w _ hx102_4)).trans hx102_4
                have HR102_3 := Aside0.mk hi102_3
                have HC102_3 := Aside0.mk hl102_3
                clear hi102_3 hl102_3
                replace p102 := eq_true p102
                replace q102 := eq_true q102
                go_wp2_with (first | ((with_reducible refine gate_dst (N := 4) rfl ?_); refine box_event ?hg (N := 4) ?hd (cs := #[.bool false, .int .i64 0, .int .i64 0, .slice none 0 0, .int .i64 0]) (t := 105) ?hr ?_; (case hd => rfl); (case hg => rfl); (case hr => first | (go_simp; done) | (go_simp; rfl)); intro gb103 hg w11 hbox hb; have n0_ := Aside0.mk (below_step (by repeat (first | (with_reducible first | exact HB.out | apply below_alloc | apply pw_below_drewN | apply below_drew1) | exact HB.out)) hb); have n1_ := Aside0.mk (hbox); have n2_ := Aside0.mk ((by rw [hg]; exact (below_size (by repeat (first | (with_reducible first | exact HB.out | apply below_alloc | apply pw_below_drewN | apply below_drew1) | exact HB.out))) : w.heap.size ≤ gb103)); have n3_ := Aside0.mk ((by rw [hg]; exact (below_size (by repeat (first | (with_reducible first | exact HB.out | apply below_alloc | apply pw_below_drewN | apply below_drew1) | exact HB.out))) : w.heap.size ≤ gb103)); clear HB; have HB := n0_; have BK103 := n1_; have GW103 := n2_; have GE103 := n3_; clear n0_ n1_ n2_ n3_; clear hb hbox hg; have hcz12_0 : w11.cell? ⟨gb103, 0, none⟩ = some (.bool false) := (blk_cell BK103.out 0).trans rfl; have hcz12_1 : w11.cell? ⟨gb103, 1, none⟩ = some (.int .i64 0) := (blk_cell BK103.out 1).trans rfl; have hcz12_2 : w11.cell? ⟨gb103, 2, none⟩ = some (.int .i64 0) := (blk_cell BK103.out 2).trans rfl; have hcz12_3 : w11.cell? ⟨gb103, 3, none⟩ = some (.slice none 0 0) := (blk_cell BK103.out 3).trans rfl; have hcz12_4 : w11.cell? ⟨gb103, 4, none⟩ = some (.int .i64 0) := (blk_cell BK103.out 4).trans rfl; have hfz12_0 := blk_frozen BK103.out 0; have hfz12_1 := blk_frozen BK103.out 1; have hfz12_2 := blk_frozen BK103.out 2; have hfz12_3 := blk_frozen BK103.out 3; have hfz12_4 := blk_frozen BK103.out 4) | ((with_reducible refine gate_callee (f := 67) rfl ?_); refine goesL_ (some 15) rfl rfl Tryz.func67 (by kernel_rfl) rfl #[.agg #[.bool ((rd_T105 l0 x10_1).f0), .int .i64 ((rd_T105 l0 x10_1).f1), .int .i64 ((rd_T105 l0 x10_1).f2), .slice A102_3 ((rd_T105 l0 x10_1).f3).length c102_3, .int .i64 ((rd_T105 l0 x10_1).f4)]] rfl (by (try simp only [List.map_toArray, List.map_cons, List.map_nil]); first | done | rfl | (simp only [List.length_drop, List.length_take]; rfl)) ?_; (with_reducible refine (laws_zzFits8.calls ((rd_T105 l0 x10_1).f0) ((rd_T105 l0 x10_1).f1) ((rd_T105 l0 x10_1).f2) _ _ ((rd_T105 l0 x10_1).f3) ((rd_T105 l0 x10_1).f4) false _ ?side1 ?side2 A6.out).mono ?_); (case side1 => exact Kd.C_below HR102_3.out (by repeat (first | (with_reducible first | exact HB.out | apply below_alloc | apply pw_below_drewN | apply below_drew1 | refine below_set ?_ GE103.out) | exact HB.out))); (case side2 => exact HC102_3.out); rintro e w13 ⟨rfl, hb⟩; refine ⟨_, rfl, ?_⟩; have n0_ := Aside0.mk (blk_below (g := gb103) (o := .cells #[.bool ((rd_T105 l0 x10_1).f0), .int .i64 ((rd_T105 l0 x10_1).f1), .int .i64 ((rd_T105 l0 x10_1).f2), .slice A102_3 ((rd_T105 l0 x10_1).f3).length c102_3, .int .i64 ((rd_T105 l0 x10_1).f4)] 105 (0, 0)) (by (with_reducible repeat (first | refine blk_drewN ?_ _ | refine blk_drew ?_ | refine blk_alloc ?_ _)); refine blk_put (cs := #[.bool ((rd_T105 l0 x10_1).f0), .int .i64 ((rd_T105 l0 x10_1).f1), .int .i64 ((rd_T105 l0 x10_1).f2), .slice A102_3 ((rd_T105 l0 x10_1).f3).length c102_3, .int .i64 0]) ?_ 4 _ rfl; (with_reducible repeat (first | refine blk_drewN ?_ _ | refine blk_drew ?_ | refine blk_alloc ?_ _)); refine blk_put (cs := #[.bool ((rd_T105 l0 x10_1).f0), .int .i64 ((rd_T105 l0 x10_1).f1), .int .i64 ((rd_T105 l0 x10_1).f2), .slice none 0 0, .int .i64 0]) ?_ 3 _ rfl; (with_reducible repeat (first | refine blk_drewN ?_ _ | refine blk_drew ?_ | refine blk_alloc ?_ _)); refine blk_put (cs := #[.bool ((rd_T105 l0 x10_1).f0), .int .i64 ((rd_T105 l0 x10_1).f1), .int .i64 0, .slice none 0 0, .int .i64 0]) ?_ 2 _ rfl; (with_reducible repeat (first | refine blk_drewN ?_ _ | refine blk_drew ?_ | refine blk_alloc ?_ _)); refine blk_put (cs := #[.bool ((rd_T105 l0 x10_1).f0), .int .i64 0, .int .i64 0, .slice none 0 0, .int .i64 0]) ?_ 1 _ rfl; (with_reducible repeat (first | refine blk_drewN ?_ _ | refine blk_drew ?_ | refine blk_alloc ?_ _)); refine blk_put (cs := #[.bool false, .int .i64 0, .int .i64 0, .slice none 0 0, .int .i64 0]) ?_ 0 _ rfl; (with_reducible repeat (first | refine blk_drewN ?_ _ | refine blk_drew ?_ | refine blk_alloc ?_ _)); exact BK103.out) hb); have n1_ := Aside0.mk (below_step (by repeat (first | (with_reducible first | exact HB.out | apply below_alloc | apply pw_below_drewN | apply below_drew1 | refine below_set ?_ GE103.out) | exact HB.out)) hb); clear BK103; clear HB; have BK103 := n0_; have HB := n1_; clear n0_ n1_; (try clear hb); (try clear hb2); (try clear hk); (try clear hi)))
                go_ret
                exact ⟨by first | rfl | (simp [errW_none, errW_some] <;> rfl) | (simp [*, errW_none, errW_some] <;> rfl), by repeat (first | (with_reducible first | exact HB.out | apply below_alloc | apply pw_below_drewN | apply below_drew1 | refine below_set ?_ GE103.out) | exact HB.out)⟩
            · rw [if_neg c5] at H
              exact absurd H (by simp)
          · rw [if_neg c4] at H
            exact absurd H (by simp)
        · rw [if_neg c3] at H
          have c3b0 : decide (x10_1 < (l0.length : Int)) = false := decide_eq_false c3
          clear c3
          obtain rfl := Option.some.inj H
          go_wp2
          go_ret
          exact ⟨by first | rfl | (simp [errW_none, errW_some] <;> rfl) | (simp [*, errW_none, errW_some] <;> rfl), by repeat (first | (with_reducible first | exact HB.out | apply below_alloc | apply pw_below_drewN | apply below_drew1) | exact HB.out)⟩

/-! ### laws_zzFits26: function 10 -/
def laws_zzFits26.f (k : Nat) (a0_0 : Int) (l0_1 : List Int) (a0_2 : Int) (l0_3 : List (S105)) : Option (Bool) := if (l0_1.length : Int) > 2147483647 then (some false) else ((laws_zzFits7.f k l0_3).bind fun t106 => (if t106 = true then (some true) else (some false)))
theorem laws_zzFits26.mono : ∀ a0 a1 a2 a3 k, LeO (laws_zzFits26.f k a0 a1 a2 a3) (laws_zzFits26.f (k + 1) a0 a1 a2 a3) := by
  intro a0 a1 a2 a3 k
  unfold laws_zzFits26.f
  repeat' first
      | (with_reducible exact laws_zzFits7.mono _ _)
      | (with_reducible exact LeO.refl _)
      | (with_reducible exact LeO.none _)
      | (with_reducible refine LeO.ite ?_ ?_)
      | (with_reducible refine LeO.bind ?_ (fun _ => ?_))
      | exact laws_zzFits7.mono _ _
      | exact LeO.none _
      | refine LeO.ite ?_ ?_
      | refine LeO.bind ?_ (fun _ => ?_)
set_option maxHeartbeats 8000000 in
set_option maxRecDepth 100000 in
theorem laws_zzFits26.calls (k : Nat) (a0_0 : Int) (A0_1 : Option Addr) (c0_1 : Nat) (l0_1 : List Int) (a0_2 : Int) (A0_3 : Option Addr) (c0_3 : Nat) (l0_3 : List (S105)) (r : Bool) (w : World) (hr0_1 : Kd.C (Kd.int .u8) w A0_1 l0_1.length l0_1) (hc0_1 : l0_1.length ≤ c0_1) (hr0_3 : Kd.C k105 w A0_3 l0_3.length l0_3) (hc0_3 : l0_3.length ≤ c0_3) (h : laws_zzFits26.f k a0_0 l0_1 a0_2 l0_3 = some r) :
    Calls Tryz.prog 10 #[.agg #[.int .i64 a0_0, .slice A0_1 l0_1.length c0_1, .int .i64 a0_2, .slice A0_3 l0_3.length c0_3]] w fun e w' => e = .returned (.bool r) ∧ Below w.heap.size w w' := by
  have hu39 := Tryz.underlying39
  have HR0_1 := Aside0.mk hr0_1
  have HC0_1 := Aside0.mk hc0_1
  clear hr0_1 hc0_1
  have HR0_3 := Aside0.mk hr0_3
  have HC0_3 := Aside0.mk hc0_3
  clear hr0_3 hc0_3
  have HB := Aside0.mk (Below.refl w.heap.size w)
  have H : (if (l0_1.length : Int) > 2147483647 then (some false) else ((laws_zzFits7.f k l0_3).bind fun t106 => (if t106 = true then (some true) else (some false)))) = some r := h
  clear h
  by_cases c2 : (l0_1.length : Int) > 2147483647
  · rw [if_pos c2] at H
    have c2b0 : decide (2147483647 < (l0_1.length : Int)) = true := decide_eq_true c2
    have c2b1 : decide (2147483647 < l0_1.length) = true := decide_eq_true (by omega)
    clear c2
    obtain rfl := Option.some.inj H
    go_enter Tryz.func10, Tryz.ntmps10
    go_wp2_with (first | ((with_reducible refine gate_dst (N := 1) rfl ?_); refine box_event ?hg (N := 1) ?hd (cs := #[.int .i64 a0_0, .slice A0_1 l0_1.length c0_1, .int .i64 a0_2, .slice A0_3 l0_3.length c0_3]) (t := 39) ?hr ?_; (case hd => rfl); (case hg => rfl); (case hr => first | (go_simp; done) | (go_simp; rfl)); intro gb105 hg w3 hbox hb; have n0_ := Aside0.mk (below_step (by repeat (first | (with_reducible first | exact HB.out | apply below_alloc | apply pw_below_drewN | apply below_drew1) | exact HB.out)) hb); have n1_ := Aside0.mk (hbox); have n2_ := Aside0.mk ((by rw [hg]; exact (below_size (by repeat (first | (with_reducible first | exact HB.out | apply below_alloc | apply pw_below_drewN | apply below_drew1) | exact HB.out))) : w.heap.size ≤ gb105)); have n3_ := Aside0.mk ((by rw [hg]; exact (below_size (by repeat (first | (with_reducible first | exact HB.out | apply below_alloc | apply pw_below_drewN | apply below_drew1) | exact HB.out))) : w.heap.size ≤ gb105)); clear HB; have HB := n0_; have BK105 := n1_; have GW105 := n2_; have GE105 := n3_; clear n0_ n1_ n2_ n3_; clear hb hbox hg; have hcz4_0 : w3.cell? ⟨gb105, 0, none⟩ = some (.int .i64 a0_0) := (blk_cell BK105.out 0).trans rfl; have hcz4_1 : w3.cell? ⟨gb105, 1, none⟩ = some (.slice A0_1 l0_1.length c0_1) := (blk_cell BK105.out 1).trans rfl; have hcz4_2 : w3.cell? ⟨gb105, 2, none⟩ = some (.int .i64 a0_2) := (blk_cell BK105.out 2).trans rfl; have hcz4_3 : w3.cell? ⟨gb105, 3, none⟩ = some (.slice A0_3 l0_3.length c0_3) := (blk_cell BK105.out 3).trans rfl; have hfz4_0 := blk_frozen BK105.out 0; have hfz4_1 := blk_frozen BK105.out 1; have hfz4_2 := blk_frozen BK105.out 2; have hfz4_3 := blk_frozen BK105.out 3))
    go_ret
    exact ⟨by first | rfl | (simp [errW_none, errW_some] <;> rfl) | (simp [*, errW_none, errW_some] <;> rfl), by repeat (first | (with_reducible first | exact HB.out | apply below_alloc | apply pw_below_drewN | apply below_drew1 | refine below_set ?_ GE105.out) | exact HB.out)⟩
  · rw [if_neg c2] at H
    have c2b0 : decide (2147483647 < (l0_1.length : Int)) = false := decide_eq_false c2
    have c2b1 : decide (2147483647 < l0_1.length) = false := decide_eq_false (by omega)
    clear c2
    replace H := Option.bind_eq_some_iff.mp H
    obtain ⟨t106, A50, H⟩ := H
    replace H : (if t106 = true then (some true) else (some false)) = some r := H
    have A5 := Aside0.mk A50
    clear A50
    by_cases c6 : t106 = true
    · subst c6
      have H1 : (some true) = some r := by rw [if_pos rfl] at H; exact H
      clear H
      have H := H1
      clear H1
      obtain rfl := Option.some.inj H
      go_enter Tryz.func10, Tryz.ntmps10
      go_wp2_with (first | ((with_reducible refine gate_dst (N := 1) rfl ?_); refine box_event ?hg (N := 1) ?hd (cs := #[.int .i64 a0_0, .slice A0_1 l0_1.length c0_1, .int .i64 a0_2, .slice A0_3 l0_3.length c0_3]) (t := 39) ?hr ?_; (case hd => rfl); (case hg => rfl); (case hr => first | (go_simp; done) | (go_simp; rfl)); intro gb105 hg w7 hbox hb; have n0_ := Aside0.mk (below_step (by repeat (first | (with_reducible first | exact HB.out | apply below_alloc | apply pw_below_drewN | apply below_drew1) | exact HB.out)) hb); have n1_ := Aside0.mk (hbox); have n2_ := Aside0.mk ((by rw [hg]; exact (below_size (by repeat (first | (with_reducible first | exact HB.out | apply below_alloc | apply pw_below_drewN | apply below_drew1) | exact HB.out))) : w.heap.size ≤ gb105)); have n3_ := Aside0.mk ((by rw [hg]; exact (below_size (by repeat (first | (with_reducible first | exact HB.out | apply below_alloc | apply pw_below_drewN | apply below_drew1) | exact HB.out))) : w.heap.size ≤ gb105)); clear HB; have HB := n0_; have BK105 := n1_; have GW105 := n2_; have GE105 := n3_; clear n0_ n1_ n2_ n3_; clear hb hbox hg; have hcz8_0 : w7.cell? ⟨gb105, 0, none⟩ = some (.int .i64 a0_0) := (blk_cell BK105.out 0).trans rfl; have hcz8_1 : w7.cell? ⟨gb105, 1, none⟩ = some (.slice A0_1 l0_1.length c0_1) := (blk_cell BK105.out 1).trans rfl; have hcz8_2 : w7.cell? ⟨gb105, 2, none⟩ = some (.int .i64 a0_2) := (blk_cell BK105.out 2).trans rfl; have hcz8_3 : w7.cell? ⟨gb105, 3, none⟩ = some (.slice A0_3 l0_3.length c0_3) := (blk_cell BK105.out 3).trans rfl; have hfz8_0 := blk_frozen BK105.out 0; have hfz8_1 := blk_frozen BK105.out 1; have hfz8_2 := blk_frozen BK105.out 2; have hfz8_3 := blk_frozen BK105.out 3) | ((with_reducible refine gate_callee (f := 33) rfl ?_); refine goesL_ (some 9) rfl rfl Tryz.func33 (by kernel_rfl) rfl #[.slice A0_3 l0_3.length c0_3] rfl (by (try simp only [List.map_toArray, List.map_cons, List.map_nil]); first | done | rfl | (simp only [List.length_drop, List.length_take]; rfl)) ?_; (with_reducible refine (laws_zzFits7.calls k _ _ l0_3 true _ ?side1 ?side2 A5.out).mono ?_); (case side1 => repeat (first | exact (Kd.C_below HR0_3.out HB.out) | (with_reducible refine Kd.C_alloc ?_ _) | (with_reducible refine Kd.C_drewN ?_ _) | (with_reducible refine Kd.C_drew ?_))); (case side2 => exact HC0_3.out); rintro e w9 ⟨rfl, hb⟩; refine ⟨_, rfl, ?_⟩; have n0_ := Aside0.mk (blk_below (g := gb105) (o := .cells #[.int .i64 a0_0, .slice A0_1 l0_1.length c0_1, .int .i64 a0_2, .slice A0_3 l0_3.length c0_3] 39 (0, 0)) (by (with_reducible repeat (first | refine blk_drewN ?_ _ | refine blk_drew ?_ | refine blk_alloc ?_ _)); exact BK105.out) hb); have n1_ := Aside0.mk (below_step (by repeat (first | (with_reducible first | exact HB.out | apply below_alloc | apply pw_below_drewN | apply below_drew1 | refine below_set ?_ GE105.out) | exact HB.out)) hb); clear BK105; clear HB; have BK105 := n0_; have HB := n1_; clear n0_ n1_; (try clear hb); (try clear hb2); (try clear hk); (try clear hi)))
      go_ret
      exact ⟨by first | rfl | (simp [errW_none, errW_some] <;> rfl) | (simp [*, errW_none, errW_some] <;> rfl), by repeat (first | (with_reducible first | exact HB.out | apply below_alloc | apply pw_below_drewN | apply below_drew1 | refine below_set ?_ GE105.out) | exact HB.out)⟩
    · replace c6 := Bool.eq_false_iff.mpr c6
      subst c6
      have H1 : (some false) = some r := by rw [if_neg (show ¬ (false = true) by decide)] at H; exact H
      clear H
      have H := H1
      clear H1
      obtain rfl := Option.some.inj H
      go_enter Tryz.func10, Tryz.ntmps10
      go_wp2_with (first | ((with_reducible refine gate_dst (N := 1) rfl ?_); refine box_event ?hg (N := 1) ?hd (cs := #[.int .i64 a0_0, .slice A0_1 l0_1.length c0_1, .int .i64 a0_2, .slice A0_3 l0_3.length c0_3]) (t := 39) ?hr ?_; (case hd => rfl); (case hg => rfl); (case hr => first | (go_simp; done) | (go_simp; rfl)); intro gb105 hg w10 hbox hb; have n0_ := Aside0.mk (below_step (by repeat (first | (with_reducible first | exact HB.out | apply below_alloc | apply pw_below_drewN | apply below_drew1) | exact HB.out)) hb); have n1_ := Aside0.mk (hbox); have n2_ := Aside0.mk ((by rw [hg]; exact (below_size (by repeat (first | (with_reducible first | exact HB.out | apply below_alloc | apply pw_below_drewN | apply below_drew1) | exact HB.out))) : w.heap.size ≤ gb105)); have n3_ := Aside0.mk ((by rw [hg]; exact (below_size (by repeat (first | (with_reducible first | exact HB.out | apply below_alloc | apply pw_below_drewN | apply below_drew1) | exact HB.out))) : w.heap.size ≤ gb105)); clear HB; have HB := n0_; have BK105 := n1_; have GW105 := n2_; have GE105 := n3_; clear n0_ n1_ n2_ n3_; clear hb hbox hg; have hcz11_0 : w10.cell? ⟨gb105, 0, none⟩ = some (.int .i64 a0_0) := (blk_cell BK105.out 0).trans rfl; have hcz11_1 : w10.cell? ⟨gb105, 1, none⟩ = some (.slice A0_1 l0_1.length c0_1) := (blk_cell BK105.out 1).trans rfl; have hcz11_2 : w10.cell? ⟨gb105, 2, none⟩ = some (.int .i64 a0_2) := (blk_cell BK105.out 2).trans rfl; have hcz11_3 : w10.cell? ⟨gb105, 3, none⟩ = some (.slice A0_3 l0_3.length c0_3) := (blk_cell BK105.out 3).trans rfl; have hfz11_0 := blk_frozen BK105.out 0; have hfz11_1 := blk_frozen BK105.out 1; have hfz11_2 := blk_frozen BK105.out 2; have hfz11_3 := blk_frozen BK105.out 3) | ((with_reducible refine gate_callee (f := 33) rfl ?_); refine goesL_ (some 9) rfl rfl Tryz.func33 (by kernel_rfl) rfl #[.slice A0_3 l0_3.length c0_3] rfl (by (try simp only [List.map_toArray, List.map_cons, List.map_nil]); first | done | rfl | (simp only [List.length_drop, List.length_take]; rfl)) ?_; (with_reducible refine (laws_zzFits7.calls k _ _ l0_3 false _ ?side1 ?side2 A5.out).mono ?_); (case side1 => repeat (first | exact (Kd.C_below HR0_3.out HB.out) | (with_reducible refine Kd.C_alloc ?_ _) | (with_reducible refine Kd.C_drewN ?_ _) | (with_reducible refine Kd.C_drew ?_))); (case side2 => exact HC0_3.out); rintro e w12 ⟨rfl, hb⟩; refine ⟨_, rfl, ?_⟩; have n0_ := Aside0.mk (blk_below (g := gb105) (o := .cells #[.int .i64 a0_0, .slice A0_1 l0_1.length c0_1, .int .i64 a0_2, .slice A0_3 l0_3.length c0_3] 39 (0, 0)) (by (with_reducible repeat (first | refine blk_drewN ?_ _ | refine blk_drew ?_ | refine blk_alloc ?_ _)); exact BK105.out) hb); have n1_ := Aside0.mk (below_step (by repeat (first | (with_reducible first | exact HB.out | apply below_alloc | apply pw_below_drewN | apply below_drew1 | refine below_set ?_ GE105.out) | exact HB.out)) hb); clear BK105; clear HB; have BK105 := n0_; have HB := n1_; clear n0_ n1_; (try clear hb); (try clear hb2); (try clear hk); (try clear hi)))
      go_ret
      exact ⟨by first | rfl | (simp [errW_none, errW_some] <;> rfl) | (simp [*, errW_none, errW_some] <;> rfl), by repeat (first | (with_reducible first | exact HB.out | apply below_alloc | apply pw_below_drewN | apply below_drew1 | refine below_set ?_ GE105.out) | exact HB.out)⟩

/-! ### laws_zzFits25: function 4 -/
def laws_zzFits25.l0 : Nat → List (S39) → Int → Int → Option (Bool)
  | 0, _, _, _ => none
  | k + 1, x8, x9, x10 => if x10 < x9 then (if 0 ≤ x10 then (if x10 < (x8.length : Int) then ((laws_zzFits26.f k ((rd_T39 x8 x10).f0) ((rd_T39 x8 x10).f1) ((rd_T39 x8 x10).f2) ((rd_T39 x8 x10).f3)).bind fun t109 => (if t109 = true then (laws_zzFits25.l0 k x8 x9 (wrap64 (x10 + 1))) else (some false))) else (none)) else (none)) else (some true)
def laws_zzFits25.f (k : Nat) (l0 : List (S39)) : Option (Bool) := if (l0.length : Int) > 2147483647 then (some false) else (laws_zzFits25.l0 k l0 (l0.length : Int) 0)
theorem laws_zzFits25.mono_l : ∀ k, (∀ y0 y1 y2, LeO (laws_zzFits25.l0 k y0 y1 y2) (laws_zzFits25.l0 (k + 1) y0 y1 y2))
  | 0 => fun _ _ _ r h => by simp [laws_zzFits25.l0] at h
  | k + 1 => by
    have ih0 := laws_zzFits25.mono_l k
    · intro y0 y1 y2
      unfold laws_zzFits25.l0
      repeat' first
      | (with_reducible exact ih0 _ _ _)
      | (with_reducible exact laws_zzFits26.mono _ _ _ _ _)
      | (with_reducible exact LeO.refl _)
      | (with_reducible exact LeO.none _)
      | (with_reducible refine LeO.ite ?_ ?_)
      | (with_reducible refine LeO.bind ?_ (fun _ => ?_))
      | exact ih0 _ _ _
      | exact laws_zzFits26.mono _ _ _ _ _
      | exact LeO.none _
      | refine LeO.ite ?_ ?_
      | refine LeO.bind ?_ (fun _ => ?_)
theorem laws_zzFits25.mono : ∀ a0 k, LeO (laws_zzFits25.f k a0) (laws_zzFits25.f (k + 1) a0) := by
  intro a0 k
  have ih0 := laws_zzFits25.mono_l k
  unfold laws_zzFits25.f
  repeat' first
      | (with_reducible exact ih0 _ _ _)
      | (with_reducible exact laws_zzFits26.mono _ _ _ _ _)
      | (with_reducible exact LeO.refl _)
      | (with_reducible exact LeO.none _)
      | (with_reducible refine LeO.ite ?_ ?_)
      | (with_reducible refine LeO.bind ?_ (fun _ => ?_))
      | exact ih0 _ _ _
      | exact laws_zzFits26.mono _ _ _ _ _
      | exact LeO.none _
      | refine LeO.ite ?_ ?_
      | refine LeO.bind ?_ (fun _ => ?_)
set_option maxHeartbeats 8000000 in
set_option maxRecDepth 100000 in
theorem laws_zzFits25.calls (k : Nat) (A0 : Option Addr) (c0 : Nat) (l0 : List (S39)) (r : Bool) (w : World) (hr0 : Kd.C k39 w A0 l0.length l0) (hc0 : l0.length ≤ c0) (h : laws_zzFits25.f k l0 = some r) :
    Calls Tryz.prog 4 #[.slice A0 l0.length c0] w fun e w' => e = .returned (.bool r) ∧ Below w.heap.size w w' := by
  have hu39 := Tryz.underlying39
  have HR0 := Aside0.mk hr0
  have HC0 := Aside0.mk hc0
  clear hr0 hc0
  have HB := Aside0.mk (Below.refl w.heap.size w)
  have H : (if (l0.length : Int) > 2147483647 then (some false) else (laws_zzFits25.l0 k l0 (l0.length : Int) 0)) = some r := h
  clear h
  by_cases c2 : (l0.length : Int) > 2147483647
  · rw [if_pos c2] at H
    have c2b0 : decide (2147483647 < (l0.length : Int)) = true := decide_eq_true c2
    have c2b1 : decide (2147483647 < l0.length) = true := decide_eq_true (by omega)
    clear c2
    obtain rfl := Option.some.inj H
    go_enter Tryz.func4, Tryz.ntmps4
    go_wp2
    go_ret
    exact ⟨by first | rfl | (simp [errW_none, errW_some] <;> rfl) | (simp [*, errW_none, errW_some] <;> rfl), by repeat (first | (with_reducible first | exact HB.out | apply below_alloc | apply pw_below_drewN | apply below_drew1) | exact HB.out)⟩
  · rw [if_neg c2] at H
    have c2b0 : decide (2147483647 < (l0.length : Int)) = false := decide_eq_false c2
    have c2b1 : decide (2147483647 < l0.length) = false := decide_eq_false (by omega)
    clear c2
    have H' := Aside0.mk H
    clear H
    go_enter Tryz.func4, Tryz.ntmps4
    go_wp2
    go_loopg [10] k (fun kq v10 w' => ∃ (x10_1 : Int), v10 = .int .i64 x10_1 ∧ Aside0 (laws_zzFits25.l0 kq l0 (l0.length : Int) x10_1 = some r) ∧ Aside0 (kq ≤ k) ∧ Aside0 (Below w.heap.size w w'))
    case atStart => exact ⟨(0), (by first | rfl | (simp; done) | (simp [*]; done)), H', ⟨Nat.le_refl _⟩, ⟨by repeat (first | (with_reducible first | exact HB.out | apply below_alloc | apply pw_below_drewN | apply below_drew1) | exact HB.out)⟩⟩
    case round =>
      clear H'
      try clear c2
      try clear c2b0
      try clear c2b1
      try clear p2
      obtain ⟨x10_1, rfl, HA, HK1, HB⟩ := hrel
      cases gk with
      | zero => exact absurd HA.out (by simp [laws_zzFits25.l0])
      | succ k1 =>
        have H := HA.out
        clear HA
        simp only [laws_zzFits25.l0] at H
        by_cases c3 : x10_1 < (l0.length : Int)
        · rw [if_pos c3] at H
          have c3b0 : decide (x10_1 < (l0.length : Int)) = true := decide_eq_true c3
          clear c3
          by_cases c4 : 0 ≤ x10_1
          · rw [if_pos c4] at H
            have c4b0 : decide (0 ≤ x10_1) = true := decide_eq_true c4
            clear c4
            by_cases c5 : x10_1 < (l0.length : Int)
            · rw [if_pos c5] at H
              have c5b0 : decide (x10_1 < (l0.length : Int)) = true := decide_eq_true c5
              clear c5
              replace H := Option.bind_eq_some_iff.mp H
              obtain ⟨t109, A60, H⟩ := H
              replace H : (if t109 = true then (laws_zzFits25.l0 k1 l0 (l0.length : Int) (wrap64 (x10_1 + 1))) else (some false)) = some r := H
              have A6 := Aside0.mk A60
              clear A60
              by_cases c7 : t109 = true
              · subst c7
                have H1 : (laws_zzFits25.l0 k1 l0 (l0.length : Int) (wrap64 (x10_1 + 1))) = some r := by rw [if_pos rfl] at H; exact H
                clear H
                have H := H1
                clear H1
                have H' := Aside0.mk H
                clear H
                have p107 : 0 ≤ (x10_1 : Int) := of_decide_eq_true (by first | (with_reducible assumption) | assumption)
                have q107 : x10_1 < (l0.length : Int) := of_decide_eq_true (by first | (with_reducible assumption) | assumption)
                obtain ⟨ad107, A107_1, c107_1, A107_3, c107_3, e107, hx107_0, hx107_1, hx107_2, hx107_3, hl107_1, hi107_1, hl107_3, hi107_3⟩ := at_T39 HR0.out x10_1 p107 q107
                cases e107
                replace hx107_0 := (HB.out.cell (World.block_lt_of_cell? w _ hx107_0)).trans hx107_0
                replace hx107_1 := (HB.out.cell (World.block_lt_of_cell? w _ hx107_1)).trans hx107_1
                replace hx107_2 := (HB.out.cell (World.block_lt_of_cell? w _ hx107_2)).trans hx107_2
                replace hx107_3 := (HB.out.cell (World.block_lt_of_cell? w _ hx107_3)).trans hx107_3
                have HR107_1 := Aside0.mk hi107_1
                have HC107_1 := Aside0.mk hl107_1
                clear hi107_1 hl107_1
                have HR107_3 := Aside0.mk hi107_3
                have HC107_3 := Aside0.mk hl107_3
                clear hi107_3 hl107_3
                replace p107 := eq_true p107
                replace q107 := eq_true q107
                go_wp2_with (first | ((with_reducible refine gate_dst (N := 4) rfl ?_); refine box_event ?hg (N := 4) ?hd (cs := #[.int .i64 0, .slice none 0 0, .int .i64 0, .slice none 0 0]) (t := 39) ?hr ?_; (case hd => rfl); (case hg => rfl); (case hr => first | (go_simp; done) | (go_simp; rfl)); intro gb108 hg w8 hbox hb; have n0_ := Aside0.mk (below_step (by repeat (first | (with_reducible first | exact HB.out | apply below_alloc | apply pw_below_drewN | apply below_drew1) | exact HB.out)) hb); have n1_ := Aside0.mk (hbox); have n2_ := Aside0.mk ((by rw [hg]; exact (below_size (by repeat (first | (with_reducible first | exact HB.out | apply below_alloc | apply pw_below_drewN | apply below_drew1) | exact HB.out))) : w.heap.size ≤ gb108)); have n3_ := Aside0.mk ((by rw [hg]; exact (below_size (by repeat (first | (with_reducible first | exact HB.out | apply below_alloc | apply pw_below_drewN | apply below_drew1) | exact HB.out))) : w.heap.size ≤ gb108)); clear HB; have HB := n0_; have BK108 := n1_; have GW108 := n2_; have GE108 := n3_; clear n0_ n1_ n2_ n3_; clear hb hbox hg; have hcz9_0 : w8.cell? ⟨gb108, 0, none⟩ = some (.int .i64 0) := (blk_cell BK108.out 0).trans rfl; have hcz9_1 : w8.cell? ⟨gb108, 1, none⟩ = some (.slice none 0 0) := (blk_cell BK108.out 1).trans rfl; have hcz9_2 : w8.cell? ⟨gb108, 2, none⟩ = some (.int .i64 0) := (blk_cell BK108.out 2).trans rfl; have hcz9_3 : w8.cell? ⟨gb108, 3, none⟩ = some (.slice none 0 0) := (blk_cell BK108.out 3).trans rfl; have hfz9_0 := blk_frozen BK108.out 0; have hfz9_1 := blk_frozen BK108.out 1; have hfz9_2 := blk_frozen BK108.out 2; have hfz9_3 := blk_frozen BK108.out 3) | ((with_reducible refine gate_callee (f := 10) rfl ?_); refine goesL_ (some 15) rfl rfl Tryz.func10 (by kernel_rfl) rfl #[.agg #[.int .i64 ((rd_T39 l0 x10_1).f0), .slice A107_1 ((rd_T39 l0 x10_1).f1).length c107_1, .int .i64 ((rd_T39 l0 x10_1).f2), .slice A107_3 ((rd_T39 l0 x10_1).f3).length c107_3]] rfl (by (try simp only [List.map_toArray, List.map_cons, List.map_nil]); first | done | rfl | (simp only [List.length_drop, List.length_take]; rfl)) ?_; (with_reducible refine (laws_zzFits26.calls k1 ((rd_T39 l0 x10_1).f0) _ _ ((rd_T39 l0 x10_1).f1) ((rd_T39 l0 x10_1).f2) _ _ ((rd_T39 l0 x10_1).f3) true _ ?side1 ?side2 ?side3 ?side4 A6.out).mono ?_); (case side1 => exact Kd.C_below HR107_1.out (by repeat (first | (with_reducible first | exact HB.out | apply below_alloc | apply pw_below_drewN | apply below_drew1 | refine below_set ?_ GE108.out) | exact HB.out))); (case side2 => exact HC107_1.out); (case side3 => exact Kd.C_below HR107_3.out (by repeat (first | (with_reducible first | exact HB.out | apply below_alloc | apply pw_below_drewN | apply below_drew1 | refine below_set ?_ GE108.out) | exact HB.out))); (case side4 => exact HC107_3.out); rintro e w10 ⟨rfl, hb⟩; refine ⟨_, rfl, ?_⟩; have n0_ := Aside0.mk (blk_below (g := gb108) (o := .cells #[.int .i64 ((rd_T39 l0 x10_1).f0), .slice A107_1 ((rd_T39 l0 x10_1).f1).length c107_1, .int .i64 ((rd_T39 l0 x10_1).f2), .slice A107_3 ((rd_T39 l0 x10_1).f3).length c107_3] 39 (0, 0)) (by (with_reducible repeat (first | refine blk_drewN ?_ _ | refine blk_drew ?_ | refine blk_alloc ?_ _)); refine blk_put (cs := #[.int .i64 ((rd_T39 l0 x10_1).f0), .slice A107_1 ((rd_T39 l0 x10_1).f1).length c107_1, .int .i64 ((rd_T39 l0 x10_1).f2), .slice none 0 0]) ?_ 3 _ rfl; (with_reducible repeat (first | refine blk_drewN ?_ _ | refine blk_drew ?_ | refine blk_alloc ?_ _)); refine blk_put (cs := #[.int .i64 ((rd_T39 l0 x10_1).f0), .slice A107_1 ((rd_T39 l0 x10_1).f1).length c107_1, .int .i64 0, .slice none 0 0]) ?_ 2 _ rfl; (with_reducible repeat (first | refine blk_drewN ?_ _ | refine blk_drew ?_ | refine blk_alloc ?_ _)); refine blk_put (cs := #[.int .i64 ((rd_T39 l0 x10_1).f0), .slice none 0 0, .int .i64 0, .slice none 0 0]) ?_ 1 _ rfl; (with_reducible repeat (first | refine blk_drewN ?_ _ | refine blk_drew ?_ | refine blk_alloc ?_ _)); refine blk_put (cs := #[.int .i64 0, .slice none 0 0, .int .i64 0, .slice none 0 0]) ?_ 0 _ rfl; (with_reducible repeat (first | refine blk_drewN ?_ _ | refine blk_drew ?_ | refine blk_alloc ?_ _)); exact BK108.out) hb); have n1_ := Aside0.mk (below_step (by repeat (first | (with_reducible first | exact HB.out | apply below_alloc | apply pw_below_drewN | apply below_drew1 | refine below_set ?_ GE108.out) | exact HB.out)) hb); clear BK108; clear HB; have BK108 := n0_; have HB := n1_; clear n0_ n1_; (try clear hb); (try clear hb2); (try clear hk); (try clear hi)))
                go_roundg k1
                case measure => have := HK1.out; omega
                case rel => exact ⟨(wrap64 (x10_1 + 1)), (by first | rfl | (simp; done) | (simp [*]; done)), H', ⟨by have := HK1.out; omega⟩, ⟨by repeat (first | (with_reducible first | exact HB.out | apply below_alloc | apply pw_below_drewN | apply below_drew1 | refine below_set ?_ GE108.out) | exact HB.out)⟩⟩
              · replace c7 := Bool.eq_false_iff.mpr c7
                subst c7
                have H1 : (some false) = some r := by rw [if_neg (show ¬ (false = true) by decide)] at H; exact H
                clear H
                have H := H1
                clear H1
                obtain rfl := Option.some.inj H
                have p107 : 0 ≤ (x10_1 : Int) := of_decide_eq_true (by first | (with_reducible assumption) | assumption)
                have q107 : x10_1 < (l0.length : Int) := of_decide_eq_true (by first | (with_reducible assumption) | assumption)
                obtain ⟨ad107, A107_1, c107_1, A107_3, c107_3, e107, hx107_0, hx107_1, hx107_2, hx107_3, hl107_1, hi107_1, hl107_3, hi107_3⟩ := at_T39 HR0.out x10_1 p107 q107
                cases e107
                replace hx107_0 := (HB.out.cell (World.block_lt_of_cell? w _ hx107_0)).trans hx107_0
                replace hx107_1 := (HB.out.cell (World.block_lt_of_cell? w _ hx107_1)).trans hx107_1
                replace hx107_2 := (HB.out.cell (World.block_lt_of_cell? w _ hx107_2)).trans hx107_2
                replace hx107_3 := (HB.out.cell (World.block_lt_of_cell? w _ hx107_3)).trans hx107_3
                have HR107_1 := Aside0.mk hi107_1
                have HC107_1 := Aside0.mk hl107_1
                clear hi107_1 hl107_1
                have HR107_3 := Aside0.mk hi107_3
                have HC107_3 := Aside0.mk hl107_3
                clear hi107_3 hl107_3
                replace p107 := eq_true p107
                replace q107 := eq_true q107
                go_wp2_with (first | ((with_reducible refine gate_dst (N := 4) rfl ?_); refine box_event ?hg (N := 4) ?hd (cs := #[.int .i64 0, .slice none 0 0, .int .i64 0, .slice none 0 0]) (t := 39) ?hr ?_; (case hd => rfl); (case hg => rfl); (case hr => first | (go_simp; done) | (go_simp; rfl)); intro gb108 hg w11 hbox hb; have n0_ := Aside0.mk (below_step (by repeat (first | (with_reducible first | exact HB.out | apply below_alloc | apply pw_below_drewN | apply below_drew1) | exact HB.out)) hb); have n1_ := Aside0.mk (hbox); have n2_ := Aside0.mk ((by rw [hg]; exact (below_size (by repeat (first | (with_reducible first | exact HB.out | apply below_alloc | apply pw_below_drewN | apply below_drew1) | exact HB.out))) : w.heap.size ≤ gb108)); have n3_ := Aside0.mk ((by rw [hg]; exact (below_size (by repeat (first | (with_reducible first | exact HB.out | apply below_alloc | apply pw_below_drewN | apply below_drew1) | exact HB.out))) : w.heap.size ≤ gb108)); clear HB; have HB := n0_; have BK108 := n1_; have GW108 := n2_; have GE108 := n3_; clear n0_ n1_ n2_ n3_; clear hb hbox hg; have hcz12_0 : w11.cell? ⟨gb108, 0, none⟩ = some (.int .i64 0) := (blk_cell BK108.out 0).trans rfl; have hcz12_1 : w11.cell? ⟨gb108, 1, none⟩ = some (.slice none 0 0) := (blk_cell BK108.out 1).trans rfl; have hcz12_2 : w11.cell? ⟨gb108, 2, none⟩ = some (.int .i64 0) := (blk_cell BK108.out 2).trans rfl; have hcz12_3 : w11.cell? ⟨gb108, 3, none⟩ = some (.slice none 0 0) := (blk_cell BK108.out 3).trans rfl; have hfz12_0 := blk_frozen BK108.out 0; have hfz12_1 := blk_frozen BK108.out 1; have hfz12_2 := blk_frozen BK108.out 2; have hfz12_3 := blk_frozen BK108.out 3) | ((with_reducible refine gate_callee (f := 10) rfl ?_); refine goesL_ (some 15) rfl rfl Tryz.func10 (by kernel_rfl) rfl #[.agg #[.int .i64 ((rd_T39 l0 x10_1).f0), .slice A107_1 ((rd_T39 l0 x10_1).f1).length c107_1, .int .i64 ((rd_T39 l0 x10_1).f2), .slice A107_3 ((rd_T39 l0 x10_1).f3).length c107_3]] rfl (by (try simp only [List.map_toArray, List.map_cons, List.map_nil]); first | done | rfl | (simp only [List.length_drop, List.length_take]; rfl)) ?_; (with_reducible refine (laws_zzFits26.calls k1 ((rd_T39 l0 x10_1).f0) _ _ ((rd_T39 l0 x10_1).f1) ((rd_T39 l0 x10_1).f2) _ _ ((rd_T39 l0 x10_1).f3) false _ ?side1 ?side2 ?side3 ?side4 A6.out).mono ?_); (case side1 => exact Kd.C_below HR107_1.out (by repeat (first | (with_reducible first | exact HB.out | apply below_alloc | apply pw_below_drewN | apply below_drew1 | refine below_set ?_ GE108.out) | exact HB.out))); (case side2 => exact HC107_1.out); (case side3 => exact Kd.C_below HR107_3.out (by repeat (first | (with_reducible first | exact HB.out | apply below_alloc | apply pw_below_drewN | apply below_drew1 | refine below_set ?_ GE108.out) | exact HB.out))); (case side4 => exact HC107_3.out); rintro e w13 ⟨rfl, hb⟩; refine ⟨_, rfl, ?_⟩; have n0_ := Aside0.mk (blk_below (g := gb108) (o := .cells #[.int .i64 ((rd_T39 l0 x10_1).f0), .slice A107_1 ((rd_T39 l0 x10_1).f1).length c107_1, .int .i64 ((rd_T39 l0 x10_1).f2), .slice A107_3 ((rd_T39 l0 x10_1).f3).length c107_3] 39 (0, 0)) (by (with_reducible repeat (first | refine blk_drewN ?_ _ | refine blk_drew ?_ | refine blk_alloc ?_ _)); refine blk_put (cs := #[.int .i64 ((rd_T39 l0 x10_1).f0), .slice A107_1 ((rd_T39 l0 x10_1).f1).length c107_1, .int .i64 ((rd_T39 l0 x10_1).f2), .slice none 0 0]) ?_ 3 _ rfl; (with_reducible repeat (first | refine blk_drewN ?_ _ | refine blk_drew ?_ | refine blk_alloc ?_ _)); refine blk_put (cs := #[.int .i64 ((rd_T39 l0 x10_1).f0), .slice A107_1 ((rd_T39 l0 x10_1).f1).length c107_1, .int .i64 0, .slice none 0 0]) ?_ 2 _ rfl; (with_reducible repeat (first | refine blk_drewN ?_ _ | refine blk_drew ?_ | refine blk_alloc ?_ _)); refine blk_put (cs := #[.int .i64 ((rd_T39 l0 x10_1).f0), .slice none 0 0, .int .i64 0, .slice none 0 0]) ?_ 1 _ rfl; (with_reducible repeat (first | refine blk_drewN ?_ _ | refine blk_drew ?_ | refine blk_alloc ?_ _)); refine blk_put (cs := #[.int .i64 0, .slice none 0 0, .int .i64 0, .slice none 0 0]) ?_ 0 _ rfl; (with_reducible repeat (first | refine blk_drewN ?_ _ | refine blk_drew ?_ | refine blk_alloc ?_ _)); exact BK108.out) hb); have n1_ := Aside0.mk (below_step (by repeat (first | (with_reducible first | exact HB.out | apply below_alloc | apply pw_below_drewN | apply below_drew1 | refine below_set ?_ GE108.out) | exact HB.out)) hb); clear BK108; clear HB; have BK108 := n0_; have HB := n1_; clear n0_ n1_; (try clear hb); (try clear hb2); (try clear hk); (try clear hi)))
                go_ret
                exact ⟨by first | rfl | (simp [errW_none, errW_some] <;> rfl) | (simp [*, errW_none, errW_some] <;> rfl), by repeat (first | (with_reducible first | exact HB.out | apply below_alloc | apply pw_below_drewN | apply below_drew1 | refine below_set ?_ GE108.out) | exact HB.out)⟩
            · rw [if_neg c5] at H
              exact absurd H (by simp)
          · rw [if_neg c4] at H
            exact absurd H (by simp)
        · rw [if_neg c3] at H
          have c3b0 : decide (x10_1 < (l0.length : Int)) = false := decide_eq_false c3
          clear c3
          obtain rfl := Option.some.inj H
          go_wp2
          go_ret
          exact ⟨by first | rfl | (simp [errW_none, errW_some] <;> rfl) | (simp [*, errW_none, errW_some] <;> rfl), by repeat (first | (with_reducible first | exact HB.out | apply below_alloc | apply pw_below_drewN | apply below_drew1) | exact HB.out)⟩

/-! ### spec_GoodStep: function 68 -/
def spec_GoodStep.f (a0_0 : Bool) (a0_1 : Int) (a0_2 : Int) (l0_3 : List Int) (a0_4 : Int) (l1 : List Int) : Option (Bool) := if a0_0 = true then (if a0_1 ≥ 0 then (if a0_2 ≥ 1 then (if a0_2 < 16777216 then (if a0_1 < (l1.length : Int) then (some (decide (a0_2 ≤ (wrap64 ((l1.length : Int) - a0_1))))) else (some false)) else (some false)) else (some false)) else (some false)) else (if (l0_3.length : Int) ≥ 1 then (some (decide ((l0_3.length : Int) ≤ 127))) else (some false))
set_option maxHeartbeats 8000000 in
set_option maxRecDepth 100000 in
theorem spec_GoodStep.calls (a0_0 : Bool) (a0_1 : Int) (a0_2 : Int) (A0_3 : Option Addr) (c0_3 : Nat) (l0_3 : List Int) (a0_4 : Int) (A1 : Option Addr) (c1 : Nat) (l1 : List Int) (r : Bool) (w : World) (hr0_3 : Kd.C (Kd.int .u8) w A0_3 l0_3.length l0_3) (hc0_3 : l0_3.length ≤ c0_3) (hr1 : Kd.C (Kd.int .u8) w A1 l1.length l1) (hc1 : l1.length ≤ c1) (h : spec_GoodStep.f a0_0 a0_1 a0_2 l0_3 a0_4 l1 = some r) :
    Calls Tryz.prog 68 #[.agg #[.bool a0_0, .int .i64 a0_1, .int .i64 a0_2, .slice A0_3 l0_3.length c0_3, .int .i64 a0_4], .slice A1 l1.length c1] w fun e w' => e = .returned (.bool r) ∧ Below w.heap.size w w' := by
  have hu105 := Tryz.underlying105
  have HR0_3 := Aside0.mk hr0_3
  have HC0_3 := Aside0.mk hc0_3
  clear hr0_3 hc0_3
  have HR1 := Aside0.mk hr1
  have HC1 := Aside0.mk hc1
  clear hr1 hc1
  have HB := Aside0.mk (Below.refl w.heap.size w)
  have H : (if a0_0 = true then (if a0_1 ≥ 0 then (if a0_2 ≥ 1 then (if a0_2 < 16777216 then (if a0_1 < (l1.length : Int) then (some (decide (a0_2 ≤ (wrap64 ((l1.length : Int) - a0_1))))) else (some false)) else (some false)) else (some false)) else (some false)) else (if (l0_3.length : Int) ≥ 1 then (some (decide ((l0_3.length : Int) ≤ 127))) else (some false))) = some r := h
  clear h
  by_cases c3 : a0_0 = true
  · subst c3
    have H1 : (if a0_1 ≥ 0 then (if a0_2 ≥ 1 then (if a0_2 < 16777216 then (if a0_1 < (l1.length : Int) then (some (decide (a0_2 ≤ (wrap64 ((l1.length : Int) - a0_1))))) else (some false)) else (some false)) else (some false)) else (some false)) = some r := by rw [if_pos rfl] at H; exact H
    clear H
    have H := H1
    clear H1
    by_cases c4 : a0_1 ≥ 0
    · rw [if_pos c4] at H
      have c4b0 : decide (0 ≤ a0_1) = true := decide_eq_true c4
      clear c4
      by_cases c5 : a0_2 ≥ 1
      · rw [if_pos c5] at H
        have c5b0 : decide (1 ≤ a0_2) = true := decide_eq_true c5
        clear c5
        by_cases c6 : a0_2 < 16777216
        · rw [if_pos c6] at H
          have c6b0 : decide (a0_2 < 16777216) = true := decide_eq_true c6
          clear c6
          by_cases c7 : a0_1 < (l1.length : Int)
          · rw [if_pos c7] at H
            have c7b0 : decide (a0_1 < (l1.length : Int)) = true := decide_eq_true c7
            clear c7
            obtain rfl := Option.some.inj H
            go_enter Tryz.func68, Tryz.ntmps68
            go_wp2_with (first | ((with_reducible refine gate_dst (N := 2) rfl ?_); (try (refine gate_guard (by rfl) ?_; dsimp only)); refine box_event ?hg (N := 2) ?hd (cs := #[.bool true, .int .i64 a0_1, .int .i64 a0_2, .slice A0_3 l0_3.length c0_3, .int .i64 a0_4]) (t := 105) ?hr ?_; (case hd => rfl); (case hg => rfl); (case hr => first | (go_simp; done) | (go_simp; rfl)); intro gb110 hg w8 hbox hb; have n0_ := Aside0.mk (below_step (by repeat (first | (with_reducible first | exact HB.out | apply below_alloc | apply pw_below_drewN | apply below_drew1) | exact HB.out)) hb); have n1_ := Aside0.mk (hbox); have n2_ := Aside0.mk ((by rw [hg]; exact (below_size (by repeat (first | (with_reducible first | exact HB.out | apply below_alloc | apply pw_below_drewN | apply below_drew1) | exact HB.out))) : w.heap.size ≤ gb110)); have n3_ := Aside0.mk ((by rw [hg]; exact (below_size (by repeat (first | (with_reducible first | exact HB.out | apply below_alloc | apply pw_below_drewN | apply below_drew1) | exact HB.out))) : w.heap.size ≤ gb110)); clear HB; have HB := n0_; have BK110 := n1_; have GW110 := n2_; have GE110 := n3_; clear n0_ n1_ n2_ n3_; clear hb hbox hg; have hcz9_0 : w8.cell? ⟨gb110, 0, none⟩ = some (.bool true) := (blk_cell BK110.out 0).trans rfl; have hcz9_1 : w8.cell? ⟨gb110, 1, none⟩ = some (.int .i64 a0_1) := (blk_cell BK110.out 1).trans rfl; have hcz9_2 : w8.cell? ⟨gb110, 2, none⟩ = some (.int .i64 a0_2) := (blk_cell BK110.out 2).trans rfl; have hcz9_3 : w8.cell? ⟨gb110, 3, none⟩ = some (.slice A0_3 l0_3.length c0_3) := (blk_cell BK110.out 3).trans rfl; have hcz9_4 : w8.cell? ⟨gb110, 4, none⟩ = some (.int .i64 a0_4) := (blk_cell BK110.out 4).trans rfl; have hfz9_0 := blk_frozen BK110.out 0; have hfz9_1 := blk_frozen BK110.out 1; have hfz9_2 := blk_frozen BK110.out 2; have hfz9_3 := blk_frozen BK110.out 3; have hfz9_4 := blk_frozen BK110.out 4))
            go_ret
            exact ⟨by first | rfl | (simp [errW_none, errW_some] <;> rfl) | (simp [*, errW_none, errW_some] <;> rfl), by repeat (first | (with_reducible first | exact HB.out | apply below_alloc | apply pw_below_drewN | apply below_drew1 | refine below_set ?_ GE110.out) | exact HB.out)⟩
          · rw [if_neg c7] at H
            have c7b0 : decide (a0_1 < (l1.length : Int)) = false := decide_eq_false c7
            clear c7
            obtain rfl := Option.some.inj H
            go_enter Tryz.func68, Tryz.ntmps68
            go_wp2_with (first | ((with_reducible refine gate_dst (N := 2) rfl ?_); (try (refine gate_guard (by rfl) ?_; dsimp only)); refine box_event ?hg (N := 2) ?hd (cs := #[.bool true, .int .i64 a0_1, .int .i64 a0_2, .slice A0_3 l0_3.length c0_3, .int .i64 a0_4]) (t := 105) ?hr ?_; (case hd => rfl); (case hg => rfl); (case hr => first | (go_simp; done) | (go_simp; rfl)); intro gb110 hg w10 hbox hb; have n0_ := Aside0.mk (below_step (by repeat (first | (with_reducible first | exact HB.out | apply below_alloc | apply pw_below_drewN | apply below_drew1) | exact HB.out)) hb); have n1_ := Aside0.mk (hbox); have n2_ := Aside0.mk ((by rw [hg]; exact (below_size (by repeat (first | (with_reducible first | exact HB.out | apply below_alloc | apply pw_below_drewN | apply below_drew1) | exact HB.out))) : w.heap.size ≤ gb110)); have n3_ := Aside0.mk ((by rw [hg]; exact (below_size (by repeat (first | (with_reducible first | exact HB.out | apply below_alloc | apply pw_below_drewN | apply below_drew1) | exact HB.out))) : w.heap.size ≤ gb110)); clear HB; have HB := n0_; have BK110 := n1_; have GW110 := n2_; have GE110 := n3_; clear n0_ n1_ n2_ n3_; clear hb hbox hg; have hcz11_0 : w10.cell? ⟨gb110, 0, none⟩ = some (.bool true) := (blk_cell BK110.out 0).trans rfl; have hcz11_1 : w10.cell? ⟨gb110, 1, none⟩ = some (.int .i64 a0_1) := (blk_cell BK110.out 1).trans rfl; have hcz11_2 : w10.cell? ⟨gb110, 2, none⟩ = some (.int .i64 a0_2) := (blk_cell BK110.out 2).trans rfl; have hcz11_3 : w10.cell? ⟨gb110, 3, none⟩ = some (.slice A0_3 l0_3.length c0_3) := (blk_cell BK110.out 3).trans rfl; have hcz11_4 : w10.cell? ⟨gb110, 4, none⟩ = some (.int .i64 a0_4) := (blk_cell BK110.out 4).trans rfl; have hfz11_0 := blk_frozen BK110.out 0; have hfz11_1 := blk_frozen BK110.out 1; have hfz11_2 := blk_frozen BK110.out 2; have hfz11_3 := blk_frozen BK110.out 3; have hfz11_4 := blk_frozen BK110.out 4))
            go_ret
            exact ⟨by first | rfl | (simp [errW_none, errW_some] <;> rfl) | (simp [*, errW_none, errW_some] <;> rfl), by repeat (first | (with_reducible first | exact HB.out | apply below_alloc | apply pw_below_drewN | apply below_drew1 | refine below_set ?_ GE110.out) | exact HB.out)⟩
        · rw [if_neg c6] at H
          have c6b0 : decide (a0_2 < 16777216) = false := decide_eq_false c6
          clear c6
          obtain rfl := Option.some.inj H
          go_enter Tryz.func68, Tryz.ntmps68
          go_wp2_with (first | ((with_reducible refine gate_dst (N := 2) rfl ?_); (try (refine gate_guard (by rfl) ?_; dsimp only)); refine box_event ?hg (N := 2) ?hd (cs := #[.bool true, .int .i64 a0_1, .int .i64 a0_2, .slice A0_3 l0_3.length c0_3, .int .i64 a0_4]) (t := 105) ?hr ?_; (case hd => rfl); (case hg => rfl); (case hr => first | (go_simp; done) | (go_simp; rfl)); intro gb110 hg w12 hbox hb; have n0_ := Aside0.mk (below_step (by repeat (first | (with_reducible first | exact HB.out | apply below_alloc | apply pw_below_drewN | apply below_drew1) | exact HB.out)) hb); have n1_ := Aside0.mk (hbox); have n2_ := Aside0.mk ((by rw [hg]; exact (below_size (by repeat (first | (with_reducible first | exact HB.out | apply below_alloc | apply pw_below_drewN | apply below_drew1) | exact HB.out))) : w.heap.size ≤ gb110)); have n3_ := Aside0.mk ((by rw [hg]; exact (below_size (by repeat (first | (with_reducible first | exact HB.out | apply below_alloc | apply pw_below_drewN | apply below_drew1) | exact HB.out))) : w.heap.size ≤ gb110)); clear HB; have HB := n0_; have BK110 := n1_; have GW110 := n2_; have GE110 := n3_; clear n0_ n1_ n2_ n3_; clear hb hbox hg; have hcz13_0 : w12.cell? ⟨gb110, 0, none⟩ = some (.bool true) := (blk_cell BK110.out 0).trans rfl; have hcz13_1 : w12.cell? ⟨gb110, 1, none⟩ = some (.int .i64 a0_1) := (blk_cell BK110.out 1).trans rfl; have hcz13_2 : w12.cell? ⟨gb110, 2, none⟩ = some (.int .i64 a0_2) := (blk_cell BK110.out 2).trans rfl; have hcz13_3 : w12.cell? ⟨gb110, 3, none⟩ = some (.slice A0_3 l0_3.length c0_3) := (blk_cell BK110.out 3).trans rfl; have hcz13_4 : w12.cell? ⟨gb110, 4, none⟩ = some (.int .i64 a0_4) := (blk_cell BK110.out 4).trans rfl; have hfz13_0 := blk_frozen BK110.out 0; have hfz13_1 := blk_frozen BK110.out 1; have hfz13_2 := blk_frozen BK110.out 2; have hfz13_3 := blk_frozen BK110.out 3; have hfz13_4 := blk_frozen BK110.out 4))
          go_ret
          exact ⟨by first | rfl | (simp [errW_none, errW_some] <;> rfl) | (simp [*, errW_none, errW_some] <;> rfl), by repeat (first | (with_reducible first | exact HB.out | apply below_alloc | apply pw_below_drewN | apply below_drew1 | refine below_set ?_ GE110.out) | exact HB.out)⟩
      · rw [if_neg c5] at H
        have c5b0 : decide (1 ≤ a0_2) = false := decide_eq_false c5
        clear c5
        obtain rfl := Option.some.inj H
        go_enter Tryz.func68, Tryz.ntmps68
        go_wp2_with (first | ((with_reducible refine gate_dst (N := 2) rfl ?_); (try (refine gate_guard (by rfl) ?_; dsimp only)); refine box_event ?hg (N := 2) ?hd (cs := #[.bool true, .int .i64 a0_1, .int .i64 a0_2, .slice A0_3 l0_3.length c0_3, .int .i64 a0_4]) (t := 105) ?hr ?_; (case hd => rfl); (case hg => rfl); (case hr => first | (go_simp; done) | (go_simp; rfl)); intro gb110 hg w14 hbox hb; have n0_ := Aside0.mk (below_step (by repeat (first | (with_reducible first | exact HB.out | apply below_alloc | apply pw_below_drewN | apply below_drew1) | exact HB.out)) hb); have n1_ := Aside0.mk (hbox); have n2_ := Aside0.mk ((by rw [hg]; exact (below_size (by repeat (first | (with_reducible first | exact HB.out | apply below_alloc | apply pw_below_drewN | apply below_drew1) | exact HB.out))) : w.heap.size ≤ gb110)); have n3_ := Aside0.mk ((by rw [hg]; exact (below_size (by repeat (first | (with_reducible first | exact HB.out | apply below_alloc | apply pw_below_drewN | apply below_drew1) | exact HB.out))) : w.heap.size ≤ gb110)); clear HB; have HB := n0_; have BK110 := n1_; have GW110 := n2_; have GE110 := n3_; clear n0_ n1_ n2_ n3_; clear hb hbox hg; have hcz15_0 : w14.cell? ⟨gb110, 0, none⟩ = some (.bool true) := (blk_cell BK110.out 0).trans rfl; have hcz15_1 : w14.cell? ⟨gb110, 1, none⟩ = some (.int .i64 a0_1) := (blk_cell BK110.out 1).trans rfl; have hcz15_2 : w14.cell? ⟨gb110, 2, none⟩ = some (.int .i64 a0_2) := (blk_cell BK110.out 2).trans rfl; have hcz15_3 : w14.cell? ⟨gb110, 3, none⟩ = some (.slice A0_3 l0_3.length c0_3) := (blk_cell BK110.out 3).trans rfl; have hcz15_4 : w14.cell? ⟨gb110, 4, none⟩ = some (.int .i64 a0_4) := (blk_cell BK110.out 4).trans rfl; have hfz15_0 := blk_frozen BK110.out 0; have hfz15_1 := blk_frozen BK110.out 1; have hfz15_2 := blk_frozen BK110.out 2; have hfz15_3 := blk_frozen BK110.out 3; have hfz15_4 := blk_frozen BK110.out 4))
        go_ret
        exact ⟨by first | rfl | (simp [errW_none, errW_some] <;> rfl) | (simp [*, errW_none, errW_some] <;> rfl), by repeat (first | (with_reducible first | exact HB.out | apply below_alloc | apply pw_below_drewN | apply below_drew1 | refine below_set ?_ GE110.out) | exact HB.out)⟩
    · rw [if_neg c4] at H
      have c4b0 : decide (0 ≤ a0_1) = false := decide_eq_false c4
      clear c4
      obtain rfl := Option.some.inj H
      go_enter Tryz.func68, Tryz.ntmps68
      go_wp2_with (first | ((with_reducible refine gate_dst (N := 2) rfl ?_); (try (refine gate_guard (by rfl) ?_; dsimp only)); refine box_event ?hg (N := 2) ?hd (cs := #[.bool true, .int .i64 a0_1, .int .i64 a0_2, .slice A0_3 l0_3.length c0_3, .int .i64 a0_4]) (t := 105) ?hr ?_; (case hd => rfl); (case hg => rfl); (case hr => first | (go_simp; done) | (go_simp; rfl)); intro gb110 hg w16 hbox hb; have n0_ := Aside0.mk (below_step (by repeat (first | (with_reducible first | exact HB.out | apply below_alloc | apply pw_below_drewN | apply below_drew1) | exact HB.out)) hb); have n1_ := Aside0.mk (hbox); have n2_ := Aside0.mk ((by rw [hg]; exact (below_size (by repeat (first | (with_reducible first | exact HB.out | apply below_alloc | apply pw_below_drewN | apply below_drew1) | exact HB.out))) : w.heap.size ≤ gb110)); have n3_ := Aside0.mk ((by rw [hg]; exact (below_size (by repeat (first | (with_reducible first | exact HB.out | apply below_alloc | apply pw_below_drewN | apply below_drew1) | exact HB.out))) : w.heap.size ≤ gb110)); clear HB; have HB := n0_; have BK110 := n1_; have GW110 := n2_; have GE110 := n3_; clear n0_ n1_ n2_ n3_; clear hb hbox hg; have hcz17_0 : w16.cell? ⟨gb110, 0, none⟩ = some (.bool true) := (blk_cell BK110.out 0).trans rfl; have hcz17_1 : w16.cell? ⟨gb110, 1, none⟩ = some (.int .i64 a0_1) := (blk_cell BK110.out 1).trans rfl; have hcz17_2 : w16.cell? ⟨gb110, 2, none⟩ = some (.int .i64 a0_2) := (blk_cell BK110.out 2).trans rfl; have hcz17_3 : w16.cell? ⟨gb110, 3, none⟩ = some (.slice A0_3 l0_3.length c0_3) := (blk_cell BK110.out 3).trans rfl; have hcz17_4 : w16.cell? ⟨gb110, 4, none⟩ = some (.int .i64 a0_4) := (blk_cell BK110.out 4).trans rfl; have hfz17_0 := blk_frozen BK110.out 0; have hfz17_1 := blk_frozen BK110.out 1; have hfz17_2 := blk_frozen BK110.out 2; have hfz17_3 := blk_frozen BK110.out 3; have hfz17_4 := blk_frozen BK110.out 4))
      go_ret
      exact ⟨by first | rfl | (simp [errW_none, errW_some] <;> rfl) | (simp [*, errW_none, errW_some] <;> rfl), by repeat (first | (with_reducible first | exact HB.out | apply below_alloc | apply pw_below_drewN | apply below_drew1 | refine below_set ?_ GE110.out) | exact HB.out)⟩
  · replace c3 := Bool.eq_false_iff.mpr c3
    subst c3
    have H1 : (if (l0_3.length : Int) ≥ 1 then (some (decide ((l0_3.length : Int) ≤ 127))) else (some false)) = some r := by rw [if_neg (show ¬ (false = true) by decide)] at H; exact H
    clear H
    have H := H1
    clear H1
    by_cases c18 : (l0_3.length : Int) ≥ 1
    · rw [if_pos c18] at H
      have c18b0 : decide (1 ≤ (l0_3.length : Int)) = true := decide_eq_true c18
      have c18b1 : decide (1 ≤ l0_3.length) = true := decide_eq_true (by omega)
      clear c18
      obtain rfl := Option.some.inj H
      go_enter Tryz.func68, Tryz.ntmps68
      go_wp2_with (first | ((with_reducible refine gate_dst (N := 2) rfl ?_); (try (refine gate_guard (by rfl) ?_; dsimp only)); refine box_event ?hg (N := 2) ?hd (cs := #[.bool false, .int .i64 a0_1, .int .i64 a0_2, .slice A0_3 l0_3.length c0_3, .int .i64 a0_4]) (t := 105) ?hr ?_; (case hd => rfl); (case hg => rfl); (case hr => first | (go_simp; done) | (go_simp; rfl)); intro gb110 hg w19 hbox hb; have n0_ := Aside0.mk (below_step (by repeat (first | (with_reducible first | exact HB.out | apply below_alloc | apply pw_below_drewN | apply below_drew1) | exact HB.out)) hb); have n1_ := Aside0.mk (hbox); have n2_ := Aside0.mk ((by rw [hg]; exact (below_size (by repeat (first | (with_reducible first | exact HB.out | apply below_alloc | apply pw_below_drewN | apply below_drew1) | exact HB.out))) : w.heap.size ≤ gb110)); have n3_ := Aside0.mk ((by rw [hg]; exact (below_size (by repeat (first | (with_reducible first | exact HB.out | apply below_alloc | apply pw_below_drewN | apply below_drew1) | exact HB.out))) : w.heap.size ≤ gb110)); clear HB; have HB := n0_; have BK110 := n1_; have GW110 := n2_; have GE110 := n3_; clear n0_ n1_ n2_ n3_; clear hb hbox hg; have hcz20_0 : w19.cell? ⟨gb110, 0, none⟩ = some (.bool false) := (blk_cell BK110.out 0).trans rfl; have hcz20_1 : w19.cell? ⟨gb110, 1, none⟩ = some (.int .i64 a0_1) := (blk_cell BK110.out 1).trans rfl; have hcz20_2 : w19.cell? ⟨gb110, 2, none⟩ = some (.int .i64 a0_2) := (blk_cell BK110.out 2).trans rfl; have hcz20_3 : w19.cell? ⟨gb110, 3, none⟩ = some (.slice A0_3 l0_3.length c0_3) := (blk_cell BK110.out 3).trans rfl; have hcz20_4 : w19.cell? ⟨gb110, 4, none⟩ = some (.int .i64 a0_4) := (blk_cell BK110.out 4).trans rfl; have hfz20_0 := blk_frozen BK110.out 0; have hfz20_1 := blk_frozen BK110.out 1; have hfz20_2 := blk_frozen BK110.out 2; have hfz20_3 := blk_frozen BK110.out 3; have hfz20_4 := blk_frozen BK110.out 4))
      go_ret
      exact ⟨by first | rfl | (simp [errW_none, errW_some] <;> rfl) | (simp [*, errW_none, errW_some] <;> rfl), by repeat (first | (with_reducible first | exact HB.out | apply below_alloc | apply pw_below_drewN | apply below_drew1 | refine below_set ?_ GE110.out) | exact HB.out)⟩
    · rw [if_neg c18] at H
      have c18b0 : decide (1 ≤ (l0_3.length : Int)) = false := decide_eq_false c18
      have c18b1 : decide (1 ≤ l0_3.length) = false := decide_eq_false (by omega)
      clear c18
      obtain rfl := Option.some.inj H
      go_enter Tryz.func68, Tryz.ntmps68
      go_wp2_with (first | ((with_reducible refine gate_dst (N := 2) rfl ?_); (try (refine gate_guard (by rfl) ?_; dsimp only)); refine box_event ?hg (N := 2) ?hd (cs := #[.bool false, .int .i64 a0_1, .int .i64 a0_2, .slice A0_3 l0_3.length c0_3, .int .i64 a0_4]) (t := 105) ?hr ?_; (case hd => rfl); (case hg => rfl); (case hr => first | (go_simp; done) | (go_simp; rfl)); intro gb110 hg w21 hbox hb; have n0_ := Aside0.mk (below_step (by repeat (first | (with_reducible first | exact HB.out | apply below_alloc | apply pw_below_drewN | apply below_drew1) | exact HB.out)) hb); have n1_ := Aside0.mk (hbox); have n2_ := Aside0.mk ((by rw [hg]; exact (below_size (by repeat (first | (with_reducible first | exact HB.out | apply below_alloc | apply pw_below_drewN | apply below_drew1) | exact HB.out))) : w.heap.size ≤ gb110)); have n3_ := Aside0.mk ((by rw [hg]; exact (below_size (by repeat (first | (with_reducible first | exact HB.out | apply below_alloc | apply pw_below_drewN | apply below_drew1) | exact HB.out))) : w.heap.size ≤ gb110)); clear HB; have HB := n0_; have BK110 := n1_; have GW110 := n2_; have GE110 := n3_; clear n0_ n1_ n2_ n3_; clear hb hbox hg; have hcz22_0 : w21.cell? ⟨gb110, 0, none⟩ = some (.bool false) := (blk_cell BK110.out 0).trans rfl; have hcz22_1 : w21.cell? ⟨gb110, 1, none⟩ = some (.int .i64 a0_1) := (blk_cell BK110.out 1).trans rfl; have hcz22_2 : w21.cell? ⟨gb110, 2, none⟩ = some (.int .i64 a0_2) := (blk_cell BK110.out 2).trans rfl; have hcz22_3 : w21.cell? ⟨gb110, 3, none⟩ = some (.slice A0_3 l0_3.length c0_3) := (blk_cell BK110.out 3).trans rfl; have hcz22_4 : w21.cell? ⟨gb110, 4, none⟩ = some (.int .i64 a0_4) := (blk_cell BK110.out 4).trans rfl; have hfz22_0 := blk_frozen BK110.out 0; have hfz22_1 := blk_frozen BK110.out 1; have hfz22_2 := blk_frozen BK110.out 2; have hfz22_3 := blk_frozen BK110.out 3; have hfz22_4 := blk_frozen BK110.out 4))
      go_ret
      exact ⟨by first | rfl | (simp [errW_none, errW_some] <;> rfl) | (simp [*, errW_none, errW_some] <;> rfl), by repeat (first | (with_reducible first | exact HB.out | apply below_alloc | apply pw_below_drewN | apply below_drew1 | refine below_set ?_ GE110.out) | exact HB.out)⟩

/-! ### spec_GoodSteps: function 34 -/
def spec_GoodSteps.l0 : Nat → List (S105) → List Int → List (S105) → Int → Int → Option (Bool)
  | 0, _, _, _, _, _ => none
  | k + 1, x0, x1, x7, x8, x9 => if x9 < x8 then (if 0 ≤ x9 then (if x9 < (x7.length : Int) then ((spec_GoodStep.f ((rd_T105 x7 x9).f0) ((rd_T105 x7 x9).f1) ((rd_T105 x7 x9).f2) ((rd_T105 x7 x9).f3) ((rd_T105 x7 x9).f4) x1).bind fun t113 => (if t113 = true then (spec_GoodSteps.l0 k x0 x1 x7 x8 (wrap64 (x9 + 1))) else (some false))) else (none)) else (none)) else (if (x0.length : Int) > 0 then (if (x0.length : Int) ≤ 500 then (some (decide ((x1.length : Int) ≤ 1000000))) else (some false)) else (some false))
def spec_GoodSteps.f (k : Nat) (l0 : List (S105)) (l1 : List Int) : Option (Bool) := spec_GoodSteps.l0 k l0 l1 l0 (l0.length : Int) 0
theorem spec_GoodSteps.mono_l : ∀ k, (∀ y0 y1 y2 y3 y4, LeO (spec_GoodSteps.l0 k y0 y1 y2 y3 y4) (spec_GoodSteps.l0 (k + 1) y0 y1 y2 y3 y4))
  | 0 => fun _ _ _ _ _ r h => by simp [spec_GoodSteps.l0] at h
  | k + 1 => by
    have ih0 := spec_GoodSteps.mono_l k
    · intro y0 y1 y2 y3 y4
      unfold spec_GoodSteps.l0
      repeat' first
      | (with_reducible exact ih0 _ _ _ _ _)
      | (with_reducible exact LeO.refl _)
      | (with_reducible exact LeO.none _)
      | (with_reducible refine LeO.ite ?_ ?_)
      | (with_reducible refine LeO.bind ?_ (fun _ => ?_))
      | exact ih0 _ _ _ _ _
      | exact LeO.none _
      | refine LeO.ite ?_ ?_
      | refine LeO.bind ?_ (fun _ => ?_)
theorem spec_GoodSteps.mono : ∀ a0 a1 k, LeO (spec_GoodSteps.f k a0 a1) (spec_GoodSteps.f (k + 1) a0 a1) := by
  intro a0 a1 k
  have ih0 := spec_GoodSteps.mono_l k
  unfold spec_GoodSteps.f
  repeat' first
      | (with_reducible exact ih0 _ _ _ _ _)
      | (with_reducible exact LeO.refl _)
      | (with_reducible exact LeO.none _)
      | (with_reducible refine LeO.ite ?_ ?_)
      | (with_reducible refine LeO.bind ?_ (fun _ => ?_))
      | exact ih0 _ _ _ _ _
      | exact LeO.none _
      | refine LeO.ite ?_ ?_
      | refine LeO.bind ?_ (fun _ => ?_)
set_option maxHeartbeats 8000000 in
set_option maxRecDepth 100000 in
theorem spec_GoodSteps.calls (k : Nat) (A0 : Option Addr) (c0 : Nat) (l0 : List (S105)) (A1 : Option Addr) (c1 : Nat) (l1 : List Int) (r : Bool) (w : World) (hr0 : Kd.C k105 w A0 l0.length l0) (hc0 : l0.length ≤ c0) (hr1 : Kd.C (Kd.int .u8) w A1 l1.length l1) (hc1 : l1.length ≤ c1) (h : spec_GoodSteps.f k l0 l1 = some r) :
    Calls Tryz.prog 34 #[.slice A0 l0.length c0, .slice A1 l1.length c1] w fun e w' => e = .returned (.bool r) ∧ Below w.heap.size w w' := by
  have hu105 := Tryz.underlying105
  have HR0 := Aside0.mk hr0
  have HC0 := Aside0.mk hc0
  clear hr0 hc0
  have HR1 := Aside0.mk hr1
  have HC1 := Aside0.mk hc1
  clear hr1 hc1
  have HB := Aside0.mk (Below.refl w.heap.size w)
  have H : (spec_GoodSteps.l0 k l0 l1 l0 (l0.length : Int) 0) = some r := h
  clear h
  have H' := Aside0.mk H
  clear H
  go_enter Tryz.func34, Tryz.ntmps34
  go_wp2
  go_loopg [9] k (fun kq v9 w' => ∃ (x9_1 : Int), v9 = .int .i64 x9_1 ∧ Aside0 (spec_GoodSteps.l0 kq l0 l1 l0 (l0.length : Int) x9_1 = some r) ∧ Aside0 (kq ≤ k) ∧ Aside0 (Below w.heap.size w w'))
  case atStart => exact ⟨(0), (by first | rfl | (simp; done) | (simp [*]; done)), H', ⟨Nat.le_refl _⟩, ⟨by repeat (first | (with_reducible first | exact HB.out | apply below_alloc | apply pw_below_drewN | apply below_drew1) | exact HB.out)⟩⟩
  case round =>
    clear H'
    try clear c1
    try clear p2
    obtain ⟨x9_1, rfl, HA, HK1, HB⟩ := hrel
    cases gk with
    | zero => exact absurd HA.out (by simp [spec_GoodSteps.l0])
    | succ k1 =>
      have H := HA.out
      clear HA
      simp only [spec_GoodSteps.l0] at H
      by_cases c3 : x9_1 < (l0.length : Int)
      · rw [if_pos c3] at H
        have c3b0 : decide (x9_1 < (l0.length : Int)) = true := decide_eq_true c3
        clear c3
        by_cases c4 : 0 ≤ x9_1
        · rw [if_pos c4] at H
          have c4b0 : decide (0 ≤ x9_1) = true := decide_eq_true c4
          clear c4
          by_cases c5 : x9_1 < (l0.length : Int)
          · rw [if_pos c5] at H
            have c5b0 : decide (x9_1 < (l0.length : Int)) = true := decide_eq_true c5
            clear c5
            replace H := Option.bind_eq_some_iff.mp H
            obtain ⟨t113, A60, H⟩ := H
            replace H : (if t113 = true then (spec_GoodSteps.l0 k1 l0 l1 l0 (l0.length : Int) (wrap64 (x9_1 + 1))) else (some false)) = some r := H
            have A6 := Aside0.mk A60
            clear A60
            by_cases c7 : t113 = true
            · subst c7
              have H1 : (spec_GoodSteps.l0 k1 l0 l1 l0 (l0.length : Int) (wrap64 (x9_1 + 1))) = some r := by rw [if_pos rfl] at H; exact H
              clear H
              have H := H1
              clear H1
              have H' := Aside0.mk H
              clear H
              have p111 : 0 ≤ (x9_1 : Int) := of_decide_eq_true (by first | (with_reducible assumption) | assumption)
              have q111 : x9_1 < (l0.length : Int) := of_decide_eq_true (by first | (with_reducible assumption) | assumption)
              obtain ⟨ad111, A111_3, c111_3, e111, hx111_0, hx111_1, hx111_2, hx111_3, hx111_4, hl111_3, hi111_3⟩ := at_T105 HR0.out x9_1 p111 q111
              cases e111
              replace hx111_0 := (HB.out.cell (World.block_lt_of_cell? w _ hx111_0)).trans hx111_0
              replace hx111_1 := (HB.out.cell (World.block_lt_of_cell? w _ hx111_1)).trans hx111_1
              replace hx111_2 := (HB.out.cell (World.block_lt_of_cell? w _ hx111_2)).trans hx111_2
              replace hx111_3 := (HB.out.cell (World.block_lt_of_cell? w _ hx111_3)).trans hx111_3
              replace hx111_4 := (HB.out.cell (World.block_lt_of_cell? w _ hx111_4)).trans hx111_4
              have HR111_3 := Aside0.mk hi111_3
              have HC111_3 := Aside0.mk hl111_3
              clear hi111_3 hl111_3
              replace p111 := eq_true p111
              replace q111 := eq_true q111
              go_wp2_with (first | ((with_reducible refine gate_dst (N := 6) rfl ?_); (try (refine gate_guard (by rfl) ?_; dsimp only)); refine box_event ?hg (N := 6) ?hd (cs := #[.bool false, .int .i64 0, .int .i64 0, .slice none 0 0, .int .i64 0]) (t := 105) ?hr ?_; (case hd => rfl); (case hg => rfl); (case hr => first | (go_simp; done) | (go_simp; rfl)); intro gb112 hg w8 hbox hb; have n0_ := Aside0.mk (below_step (by repeat (first | (with_reducible first | exact HB.out | apply below_alloc | apply pw_below_drewN | apply below_drew1) | exact HB.out)) hb); have n1_ := Aside0.mk (hbox); have n2_ := Aside0.mk ((by rw [hg]; exact (below_size (by repeat (first | (with_reducible first | exact HB.out | apply below_alloc | apply pw_below_drewN | apply below_drew1) | exact HB.out))) : w.heap.size ≤ gb112)); have n3_ := Aside0.mk ((by rw [hg]; exact (below_size (by repeat (first | (with_reducible first | exact HB.out | apply below_alloc | apply pw_below_drewN | apply below_drew1) | exact HB.out))) : w.heap.size ≤ gb112)); clear HB; have HB := n0_; have BK112 := n1_; have GW112 := n2_; have GE112 := n3_; clear n0_ n1_ n2_ n3_; clear hb hbox hg; have hcz9_0 : w8.cell? ⟨gb112, 0, none⟩ = some (.bool false) := (blk_cell BK112.out 0).trans rfl; have hcz9_1 : w8.cell? ⟨gb112, 1, none⟩ = some (.int .i64 0) := (blk_cell BK112.out 1).trans rfl; have hcz9_2 : w8.cell? ⟨gb112, 2, none⟩ = some (.int .i64 0) := (blk_cell BK112.out 2).trans rfl; have hcz9_3 : w8.cell? ⟨gb112, 3, none⟩ = some (.slice none 0 0) := (blk_cell BK112.out 3).trans rfl; have hcz9_4 : w8.cell? ⟨gb112, 4, none⟩ = some (.int .i64 0) := (blk_cell BK112.out 4).trans rfl; have hfz9_0 := blk_frozen BK112.out 0; have hfz9_1 := blk_frozen BK112.out 1; have hfz9_2 := blk_frozen BK112.out 2; have hfz9_3 := blk_frozen BK112.out 3; have hfz9_4 := blk_frozen BK112.out 4) | ((with_reducible refine gate_callee (f := 68) rfl ?_); refine goesL_ (some 15) rfl rfl Tryz.func68 (by kernel_rfl) rfl #[.agg #[.bool ((rd_T105 l0 x9_1).f0), .int .i64 ((rd_T105 l0 x9_1).f1), .int .i64 ((rd_T105 l0 x9_1).f2), .slice A111_3 ((rd_T105 l0 x9_1).f3).length c111_3, .int .i64 ((rd_T105 l0 x9_1).f4)], .slice A1 l1.length c1] rfl (by (try simp only [List.map_toArray, List.map_cons, List.map_nil]); first | done | rfl | (simp only [List.length_drop, List.length_take]; rfl)) ?_; (with_reducible refine (spec_GoodStep.calls ((rd_T105 l0 x9_1).f0) ((rd_T105 l0 x9_1).f1) ((rd_T105 l0 x9_1).f2) _ _ ((rd_T105 l0 x9_1).f3) ((rd_T105 l0 x9_1).f4) _ _ l1 true _ ?side1 ?side2 ?side3 ?side4 A6.out).mono ?_); (case side1 => exact Kd.C_below HR111_3.out (by repeat (first | (with_reducible first | exact HB.out | apply below_alloc | apply pw_below_drewN | apply below_drew1 | refine below_set ?_ GE112.out) | exact HB.out))); (case side2 => exact HC111_3.out); (case side3 => exact Kd.C_below HR1.out (by repeat (first | (with_reducible first | exact HB.out | apply below_alloc | apply pw_below_drewN | apply below_drew1 | refine below_set ?_ GE112.out) | exact HB.out))); (case side4 => exact HC1.out); rintro e w10 ⟨rfl, hb⟩; refine ⟨_, rfl, ?_⟩; have n0_ := Aside0.mk (blk_below (g := gb112) (o := .cells #[.bool ((rd_T105 l0 x9_1).f0), .int .i64 ((rd_T105 l0 x9_1).f1), .int .i64 ((rd_T105 l0 x9_1).f2), .slice A111_3 ((rd_T105 l0 x9_1).f3).length c111_3, .int .i64 ((rd_T105 l0 x9_1).f4)] 105 (0, 0)) (by (with_reducible repeat (first | refine blk_drewN ?_ _ | refine blk_drew ?_ | refine blk_alloc ?_ _)); refine blk_put (cs := #[.bool ((rd_T105 l0 x9_1).f0), .int .i64 ((rd_T105 l0 x9_1).f1), .int .i64 ((rd_T105 l0 x9_1).f2), .slice A111_3 ((rd_T105 l0 x9_1).f3).length c111_3, .int .i64 0]) ?_ 4 _ rfl; (with_reducible repeat (first | refine blk_drewN ?_ _ | refine blk_drew ?_ | refine blk_alloc ?_ _)); refine blk_put (cs := #[.bool ((rd_T105 l0 x9_1).f0), .int .i64 ((rd_T105 l0 x9_1).f1), .int .i64 ((rd_T105 l0 x9_1).f2), .slice none 0 0, .int .i64 0]) ?_ 3 _ rfl; (with_reducible repeat (first | refine blk_drewN ?_ _ | refine blk_drew ?_ | refine blk_alloc ?_ _)); refine blk_put (cs := #[.bool ((rd_T105 l0 x9_1).f0), .int .i64 ((rd_T105 l0 x9_1).f1), .int .i64 0, .slice none 0 0, .int .i64 0]) ?_ 2 _ rfl; (with_reducible repeat (first | refine blk_drewN ?_ _ | refine blk_drew ?_ | refine blk_alloc ?_ _)); refine blk_put (cs := #[.bool ((rd_T105 l0 x9_1).f0), .int .i64 0, .int .i64 0, .slice none 0 0, .int .i64 0]) ?_ 1 _ rfl; (with_reducible repeat (first | refine blk_drewN ?_ _ | refine blk_drew ?_ | refine blk_alloc ?_ _)); refine blk_put (cs := #[.bool false, .int .i64 0, .int .i64 0, .slice none 0 0, .int .i64 0]) ?_ 0 _ rfl; (with_reducible repeat (first | refine blk_drewN ?_ _ | refine blk_drew ?_ | refine blk_alloc ?_ _)); exact BK112.out) hb); have n1_ := Aside0.mk (below_step (by repeat (first | (with_reducible first | exact HB.out | apply below_alloc | apply pw_below_drewN | apply below_drew1 | refine below_set ?_ GE112.out) | exact HB.out)) hb); clear BK112; clear HB; have BK112 := n0_; have HB := n1_; clear n0_ n1_; (try clear hb); (try clear hb2); (try clear hk); (try clear hi)))
              go_roundg k1
              case measure => have := HK1.out; omega
              case rel => exact ⟨(wrap64 (x9_1 + 1)), (by first | rfl | (simp; done) | (simp [*]; done)), H', ⟨by have := HK1.out; omega⟩, ⟨by repeat (first | (with_reducible first | exact HB.out | apply below_alloc | apply pw_below_drewN | apply below_drew1 | refine below_set ?_ GE112.out) | exact HB.out)⟩⟩
            · replace c7 := Bool.eq_false_iff.mpr c7
              subst c7
              have H1 : (some false) = some r := by rw [if_neg (show ¬ (false = true) by decide)] at H; exact H
              clear H
              have H := H1
              clear H1
              obtain rfl := Option.some.inj H
              have p111 : 0 ≤ (x9_1 : Int) := of_decide_eq_true (by first | (with_reducible assumption) | assumption)
              have q111 : x9_1 < (l0.length : Int) := of_decide_eq_true (by first | (with_reducible assumption) | assumption)
              obtain ⟨ad111, A111_3, c111_3, e111, hx111_0, hx111_1, hx111_2, hx111_3, hx111_4, hl111_3, hi111_3⟩ := at_T105 HR0.out x9_1 p111 q111
              cases e111
              replace hx111_0 := (HB.out.cell (World.block_lt_of_cell? w _ hx111_0)).trans hx111_0
              replace hx111_1 := (HB.out.cell (World.block_lt_of_cell? w _ hx111_1)).trans hx111_1
              replace hx111_2 := (HB.out.cell (World.block_lt_of_cell? w _ hx111_2)).trans hx111_2
              replace hx111_3 := (HB.out.cell (World.block_lt_of_cell? w _ hx111_3)).trans hx111_3
              replace hx111_4 := (HB.out.cell (World.block_lt_of_cell? w _ hx111_4)).trans hx111_4
              have HR111_3 := Aside0.mk hi111_3
              have HC111_3 := Aside0.mk hl111_3
              clear hi111_3 hl111_3
              replace p111 := eq_true p111
              replace q111 := eq_true q111
              go_wp2_with (first | ((with_reducible refine gate_dst (N := 6) rfl ?_); (try (refine gate_guard (by rfl) ?_; dsimp only)); refine box_event ?hg (N := 6) ?hd (cs := #[.bool false, .int .i64 0, .int .i64 0, .slice none 0 0, .int .i64 0]) (t := 105) ?hr ?_; (case hd => rfl); (case hg => rfl); (case hr => first | (go_simp; done) | (go_simp; rfl)); intro gb112 hg w11 hbox hb; have n0_ := Aside0.mk (below_step (by repeat (first | (with_reducible first | exact HB.out | apply below_alloc | apply pw_below_drewN | apply below_drew1) | exact HB.out)) hb); have n1_ := Aside0.mk (hbox); have n2_ := Aside0.mk ((by rw [hg]; exact (below_size (by repeat (first | (with_reducible first | exact HB.out | apply below_alloc | apply pw_below_drewN | apply below_drew1) | exact HB.out))) : w.heap.size ≤ gb112)); have n3_ := Aside0.mk ((by rw [hg]; exact (below_size (by repeat (first | (with_reducible first | exact HB.out | apply below_alloc | apply pw_below_drewN | apply below_drew1) | exact HB.out))) : w.heap.size ≤ gb112)); clear HB; have HB := n0_; have BK112 := n1_; have GW112 := n2_; have GE112 := n3_; clear n0_ n1_ n2_ n3_; clear hb hbox hg; have hcz12_0 : w11.cell? ⟨gb112, 0, none⟩ = some (.bool false) := (blk_cell BK112.out 0).trans rfl; have hcz12_1 : w11.cell? ⟨gb112, 1, none⟩ = some (.int .i64 0) := (blk_cell BK112.out 1).trans rfl; have hcz12_2 : w11.cell? ⟨gb112, 2, none⟩ = some (.int .i64 0) := (blk_cell BK112.out 2).trans rfl; have hcz12_3 : w11.cell? ⟨gb112, 3, none⟩ = some (.slice none 0 0) := (blk_cell BK112.out 3).trans rfl; have hcz12_4 : w11.cell? ⟨gb112, 4, none⟩ = some (.int .i64 0) := (blk_cell BK112.out 4).trans rfl; have hfz12_0 := blk_frozen BK112.out 0; have hfz12_1 := blk_frozen BK112.out 1; have hfz12_2 := blk_frozen BK112.out 2; have hfz12_3 := blk_frozen BK112.out 3; have hfz12_4 := blk_frozen BK112.out 4) | ((with_reducible refine gate_callee (f := 68) rfl ?_); refine goesL_ (some 15) rfl rfl Tryz.func68 (by kernel_rfl) rfl #[.agg #[.bool ((rd_T105 l0 x9_1).f0), .int .i64 ((rd_T105 l0 x9_1).f1), .int .i64 ((rd_T105 l0 x9_1).f2), .slice A111_3 ((rd_T105 l0 x9_1).f3).length c111_3, .int .i64 ((rd_T105 l0 x9_1).f4)], .slice A1 l1.length c1] rfl (by (try simp only [List.map_toArray, List.map_cons, List.map_nil]); first | done | rfl | (simp only [List.length_drop, List.length_take]; rfl)) ?_; (with_reducible refine (spec_GoodStep.calls ((rd_T105 l0 x9_1).f0) ((rd_T105 l0 x9_1).f1) ((rd_T105 l0 x9_1).f2) _ _ ((rd_T105 l0 x9_1).f3) ((rd_T105 l0 x9_1).f4) _ _ l1 false _ ?side1 ?side2 ?side3 ?side4 A6.out).mono ?_); (case side1 => exact Kd.C_below HR111_3.out (by repeat (first | (with_reducible first | exact HB.out | apply below_alloc | apply pw_below_drewN | apply below_drew1 | refine below_set ?_ GE112.out) | exact HB.out))); (case side2 => exact HC111_3.out); (case side3 => exact Kd.C_below HR1.out (by repeat (first | (with_reducible first | exact HB.out | apply below_alloc | apply pw_below_drewN | apply below_drew1 | refine below_set ?_ GE112.out) | exact HB.out))); (case side4 => exact HC1.out); rintro e w13 ⟨rfl, hb⟩; refine ⟨_, rfl, ?_⟩; have n0_ := Aside0.mk (blk_below (g := gb112) (o := .cells #[.bool ((rd_T105 l0 x9_1).f0), .int .i64 ((rd_T105 l0 x9_1).f1), .int .i64 ((rd_T105 l0 x9_1).f2), .slice A111_3 ((rd_T105 l0 x9_1).f3).length c111_3, .int .i64 ((rd_T105 l0 x9_1).f4)] 105 (0, 0)) (by (with_reducible repeat (first | refine blk_drewN ?_ _ | refine blk_drew ?_ | refine blk_alloc ?_ _)); refine blk_put (cs := #[.bool ((rd_T105 l0 x9_1).f0), .int .i64 ((rd_T105 l0 x9_1).f1), .int .i64 ((rd_T105 l0 x9_1).f2), .slice A111_3 ((rd_T105 l0 x9_1).f3).length c111_3, .int .i64 0]) ?_ 4 _ rfl; (with_reducible repeat (first | refine blk_drewN ?_ _ | refine blk_drew ?_ | refine blk_alloc ?_ _)); refine blk_put (cs := #[.bool ((rd_T105 l0 x9_1).f0), .int .i64 ((rd_T105 l0 x9_1).f1), .int .i64 ((rd_T105 l0 x9_1).f2), .slice none 0 0, .int .i64 0]) ?_ 3 _ rfl; (with_reducible repeat (first | refine blk_drewN ?_ _ | refine blk_drew ?_ | refine blk_alloc ?_ _)); refine blk_put (cs := #[.bool ((rd_T105 l0 x9_1).f0), .int .i64 ((rd_T105 l0 x9_1).f1), .int .i64 0, .slice none 0 0, .int .i64 0]) ?_ 2 _ rfl; (with_reducible repeat (first | refine blk_drewN ?_ _ | refine blk_drew ?_ | refine blk_alloc ?_ _)); refine blk_put (cs := #[.bool ((rd_T105 l0 x9_1).f0), .int .i64 0, .int .i64 0, .slice none 0 0, .int .i64 0]) ?_ 1 _ rfl; (with_reducible repeat (first | refine blk_drewN ?_ _ | refine blk_drew ?_ | refine blk_alloc ?_ _)); refine blk_put (cs := #[.bool false, .int .i64 0, .int .i64 0, .slice none 0 0, .int .i64 0]) ?_ 0 _ rfl; (with_reducible repeat (first | refine blk_drewN ?_ _ | refine blk_drew ?_ | refine blk_alloc ?_ _)); exact BK112.out) hb); have n1_ := Aside0.mk (below_step (by repeat (first | (with_reducible first | exact HB.out | apply below_alloc | apply pw_below_drewN | apply below_drew1 | refine below_set ?_ GE112.out) | exact HB.out)) hb); clear BK112; clear HB; have BK112 := n0_; have HB := n1_; clear n0_ n1_; (try clear hb); (try clear hb2); (try clear hk); (try clear hi)))
              go_ret
              exact ⟨by first | rfl | (simp [errW_none, errW_some] <;> rfl) | (simp [*, errW_none, errW_some] <;> rfl), by repeat (first | (with_reducible first | exact HB.out | apply below_alloc | apply pw_below_drewN | apply below_drew1 | refine below_set ?_ GE112.out) | exact HB.out)⟩
          · rw [if_neg c5] at H
            exact absurd H (by simp)
        · rw [if_neg c4] at H
          exact absurd H (by simp)
      · rw [if_neg c3] at H
        have c3b0 : decide (x9_1 < (l0.length : Int)) = false := decide_eq_false c3
        clear c3
        by_cases c14 : (l0.length : Int) > 0
        · rw [if_pos c14] at H
          have c14b0 : decide (0 < (l0.length : Int)) = true := decide_eq_true c14
          have c14b1 : decide (0 < l0.length) = true := decide_eq_true (by omega)
          clear c14
          by_cases c15 : (l0.length : Int) ≤ 500
          · rw [if_pos c15] at H
            have c15b0 : decide ((l0.length : Int) ≤ 500) = true := decide_eq_true c15
            have c15b1 : decide (l0.length ≤ 500) = true := decide_eq_true (by omega)
            clear c15
            obtain rfl := Option.some.inj H
            go_wp2
            go_ret
            exact ⟨by first | rfl | (simp [errW_none, errW_some] <;> rfl) | (simp [*, errW_none, errW_some] <;> rfl), by repeat (first | (with_reducible first | exact HB.out | apply below_alloc | apply pw_below_drewN | apply below_drew1) | exact HB.out)⟩
          · rw [if_neg c15] at H
            have c15b0 : decide ((l0.length : Int) ≤ 500) = false := decide_eq_false c15
            have c15b1 : decide (l0.length ≤ 500) = false := decide_eq_false (by omega)
            clear c15
            obtain rfl := Option.some.inj H
            go_wp2
            go_ret
            exact ⟨by first | rfl | (simp [errW_none, errW_some] <;> rfl) | (simp [*, errW_none, errW_some] <;> rfl), by repeat (first | (with_reducible first | exact HB.out | apply below_alloc | apply pw_below_drewN | apply below_drew1) | exact HB.out)⟩
        · rw [if_neg c14] at H
          have c14b0 : decide (0 < (l0.length : Int)) = false := decide_eq_false c14
          have c14b1 : decide (0 < l0.length) = false := decide_eq_false (by omega)
          clear c14
          obtain rfl := Option.some.inj H
          go_wp2
          go_ret
          exact ⟨by first | rfl | (simp [errW_none, errW_some] <;> rfl) | (simp [*, errW_none, errW_some] <;> rfl), by repeat (first | (with_reducible first | exact HB.out | apply below_alloc | apply pw_below_drewN | apply below_drew1) | exact HB.out)⟩

/-! ### spec_Made: function 35 -/
def spec_Made.l0 : Nat → List Int → List Int → List (S105) → Int → Int → Option (List Int)
  | 0, _, _, _, _, _ => none
  | k + 1, x0, x5, x8, x9, x10 => if x10 < x9 then (if 0 ≤ x10 then (if x10 < (x8.length : Int) then (if (rd_T105 x8 x10).f0 = true then (if 0 ≤ ((rd_T105 x8 x10).f1) then (if ((rd_T105 x8 x10).f1) ≤ (wrap64 (((rd_T105 x8 x10).f1) + ((rd_T105 x8 x10).f2))) then (if (wrap64 (((rd_T105 x8 x10).f1) + ((rd_T105 x8 x10).f2))) ≤ (x0.length : Int) then (if x5.length + ((x0.take ((wrap64 (((rd_T105 x8 x10).f1) + ((rd_T105 x8 x10).f2))) : Int).toNat).drop (((rd_T105 x8 x10).f1) : Int).toNat).length < 140737488355328 then (spec_Made.l0 k x0 (x5 ++ ((x0.take ((wrap64 (((rd_T105 x8 x10).f1) + ((rd_T105 x8 x10).f2))) : Int).toNat).drop (((rd_T105 x8 x10).f1) : Int).toNat)) x8 x9 (wrap64 (x10 + 1))) else (none)) else (none)) else (none)) else (none)) else (if x5.length + ((rd_T105 x8 x10).f3).length < 140737488355328 then (spec_Made.l0 k x0 (x5 ++ ((rd_T105 x8 x10).f3)) x8 x9 (wrap64 (x10 + 1))) else (none))) else (none)) else (none)) else (some x5)
def spec_Made.f (k : Nat) (l0 : List Int) (l1 : List (S105)) : Option (List Int) := spec_Made.l0 k l0 ([] : List Int) l1 (l1.length : Int) 0
theorem spec_Made.mono_l : ∀ k, (∀ y0 y1 y2 y3 y4, LeO (spec_Made.l0 k y0 y1 y2 y3 y4) (spec_Made.l0 (k + 1) y0 y1 y2 y3 y4))
  | 0 => fun _ _ _ _ _ r h => by simp [spec_Made.l0] at h
  | k + 1 => by
    have ih0 := spec_Made.mono_l k
    · intro y0 y1 y2 y3 y4
      unfold spec_Made.l0
      repeat' first
      | (with_reducible exact ih0 _ _ _ _ _)
      | (with_reducible exact LeO.refl _)
      | (with_reducible exact LeO.none _)
      | (with_reducible refine LeO.ite ?_ ?_)
      | (with_reducible refine LeO.bind ?_ (fun _ => ?_))
      | exact ih0 _ _ _ _ _
      | exact LeO.none _
      | refine LeO.ite ?_ ?_
      | refine LeO.bind ?_ (fun _ => ?_)
theorem spec_Made.mono : ∀ a0 a1 k, LeO (spec_Made.f k a0 a1) (spec_Made.f (k + 1) a0 a1) := by
  intro a0 a1 k
  have ih0 := spec_Made.mono_l k
  unfold spec_Made.f
  repeat' first
      | (with_reducible exact ih0 _ _ _ _ _)
      | (with_reducible exact LeO.refl _)
      | (with_reducible exact LeO.none _)
      | (with_reducible refine LeO.ite ?_ ?_)
      | (with_reducible refine LeO.bind ?_ (fun _ => ?_))
      | exact ih0 _ _ _ _ _
      | exact LeO.none _
      | refine LeO.ite ?_ ?_
      | refine LeO.bind ?_ (fun _ => ?_)
set_option maxHeartbeats 8000000 in
set_option maxRecDepth 100000 in
theorem spec_Made.calls (k : Nat) (A0 : Option Addr) (c0 : Nat) (l0 : List Int) (A1 : Option Addr) (c1 : Nat) (l1 : List (S105)) (r : List Int) (w : World) (hr0 : Kd.C (Kd.int .u8) w A0 l0.length l0) (hc0 : l0.length ≤ c0) (hr1 : Kd.C k105 w A1 l1.length l1) (hc1 : l1.length ≤ c1) (h : spec_Made.f k l0 l1 = some r) :
    Calls Tryz.prog 35 #[.slice A0 l0.length c0, .slice A1 l1.length c1] w fun e w' => ∃ v0_ : Value, e = .returned (v0_) ∧ Kd.R (Kd.int .u8) 5 w' w.heap.size (fun _ => True) v0_ r ∧ Below w.heap.size w w' := by
  have hu105 := Tryz.underlying105
  have HR0 := Aside0.mk hr0
  have HC0 := Aside0.mk hc0
  clear hr0 hc0
  have HR1 := Aside0.mk hr1
  have HC1 := Aside0.mk hc1
  clear hr1 hc1
  have HB := Aside0.mk (Below.refl w.heap.size w)
  have H : (spec_Made.l0 k l0 ([] : List Int) l1 (l1.length : Int) 0) = some r := h
  clear h
  have H' := Aside0.mk H
  clear H
  go_enter Tryz.func35, Tryz.ntmps35
  go_wp2
  go_loopg [5, 10] k (fun kq v5 v10 w' => ∃ (x5_1 : List Int) (x10_1 : Int), v10 = .int .i64 x10_1 ∧ Aside0 (spec_Made.l0 kq l0 x5_1 l1 (l1.length : Int) x10_1 = some r) ∧ Aside0 (kq ≤ k) ∧ Aside0 (Kd.R (Kd.int .u8) 5 w' w.heap.size (fun _ => True) v5 x5_1) ∧ Aside0 (Below w.heap.size w w'))
  case atStart => exact ⟨(([] : List Int)), (0), (by first | rfl | (simp; done) | (simp [*]; done)), H', ⟨Nat.le_refl _⟩, ⟨by first | exact Kd.R_nil _ _ _ _ _ | exact Kd.N_nil _ _ _ _ _ | exact Kd.V_nil _ _ _ _ _ | exact Kd.Q_nil _ _ _ _ _ | exact Kd.S_nil _ _ _ _ _⟩, ⟨by repeat (first | (with_reducible first | exact HB.out | apply below_alloc | apply pw_below_drewN | apply below_drew1) | exact HB.out)⟩⟩
  case round =>
    clear H'
    try clear c1
    try clear p2
    obtain ⟨x5_1, x10_1, rfl, HA, HK1, HO_5, HB⟩ := hrel
    cases gk with
    | zero => exact absurd HA.out (by simp [spec_Made.l0])
    | succ k1 =>
      have H := HA.out
      clear HA
      simp only [spec_Made.l0] at H
      by_cases c3 : x10_1 < (l1.length : Int)
      · rw [if_pos c3] at H
        have c3b0 : decide (x10_1 < (l1.length : Int)) = true := decide_eq_true c3
        clear c3
        by_cases c4 : 0 ≤ x10_1
        · rw [if_pos c4] at H
          have c4b0 : decide (0 ≤ x10_1) = true := decide_eq_true c4
          clear c4
          by_cases c5 : x10_1 < (l1.length : Int)
          · rw [if_pos c5] at H
            have c5b0 : decide (x10_1 < (l1.length : Int)) = true := decide_eq_true c5
            clear c5
            obtain ⟨bq6, hbq6⟩ : ∃ b_ : Bool, b_ = ((rd_T105 l1 x10_1).f0) := ⟨_, rfl⟩
            replace H : (if bq6 = true then (if 0 ≤ ((rd_T105 l1 x10_1).f1) then (if ((rd_T105 l1 x10_1).f1) ≤ (wrap64 (((rd_T105 l1 x10_1).f1) + ((rd_T105 l1 x10_1).f2))) then (if (wrap64 (((rd_T105 l1 x10_1).f1) + ((rd_T105 l1 x10_1).f2))) ≤ (l0.length : Int) then (if x5_1.length + ((l0.take ((wrap64 (((rd_T105 l1 x10_1).f1) + ((rd_T105 l1 x10_1).f2))) : Int).toNat).drop (((rd_T105 l1 x10_1).f1) : Int).toNat).length < 140737488355328 then (spec_Made.l0 k1 l0 (x5_1 ++ ((l0.take ((wrap64 (((rd_T105 l1 x10_1).f1) + ((rd_T105 l1 x10_1).f2))) : Int).toNat).drop (((rd_T105 l1 x10_1).f1) : Int).toNat)) l1 (l1.length : Int) (wrap64 (x10_1 + 1))) else (none)) else (none)) else (none)) else (none)) else (if x5_1.length + ((rd_T105 l1 x10_1).f3).length < 140737488355328 then (spec_Made.l0 k1 l0 (x5_1 ++ ((rd_T105 l1 x10_1).f3)) l1 (l1.length : Int) (wrap64 (x10_1 + 1))) else (none))) = some r := by rw [← hbq6] at H; exact H
            have Nbq6 := Aside0.mk hbq6
            clear hbq6
            by_cases c7 : bq6 = true
            · subst c7
              have H1 : (if 0 ≤ ((rd_T105 l1 x10_1).f1) then (if ((rd_T105 l1 x10_1).f1) ≤ (wrap64 (((rd_T105 l1 x10_1).f1) + ((rd_T105 l1 x10_1).f2))) then (if (wrap64 (((rd_T105 l1 x10_1).f1) + ((rd_T105 l1 x10_1).f2))) ≤ (l0.length : Int) then (if x5_1.length + ((l0.take ((wrap64 (((rd_T105 l1 x10_1).f1) + ((rd_T105 l1 x10_1).f2))) : Int).toNat).drop (((rd_T105 l1 x10_1).f1) : Int).toNat).length < 140737488355328 then (spec_Made.l0 k1 l0 (x5_1 ++ ((l0.take ((wrap64 (((rd_T105 l1 x10_1).f1) + ((rd_T105 l1 x10_1).f2))) : Int).toNat).drop (((rd_T105 l1 x10_1).f1) : Int).toNat)) l1 (l1.length : Int) (wrap64 (x10_1 + 1))) else (none)) else (none)) else (none)) else (none)) = some r := by rw [if_pos rfl] at H; exact H
              clear H
              have H := H1
              clear H1
              by_cases c8 : 0 ≤ ((rd_T105 l1 x10_1).f1)
              · rw [if_pos c8] at H
                have c8b0 := eq_true c8
                have c8b1 : decide (0 ≤ ((rd_T105 l1 x10_1).f1)) = true := decide_eq_true c8
                clear c8
                by_cases c9 : ((rd_T105 l1 x10_1).f1) ≤ (wrap64 (((rd_T105 l1 x10_1).f1) + ((rd_T105 l1 x10_1).f2)))
                · rw [if_pos c9] at H
                  have c9b0 := eq_true c9
                  have c9b1 : decide (((rd_T105 l1 x10_1).f1) ≤ (wrap64 (((rd_T105 l1 x10_1).f1) + ((rd_T105 l1 x10_1).f2)))) = true := decide_eq_true c9
                  by_cases c10 : (wrap64 (((rd_T105 l1 x10_1).f1) + ((rd_T105 l1 x10_1).f2))) ≤ (l0.length : Int)
                  · rw [if_pos c10] at H
                    have c10b0 := eq_true c10
                    have c10b1 : decide ((wrap64 (((rd_T105 l1 x10_1).f1) + ((rd_T105 l1 x10_1).f2))) ≤ (l0.length : Int)) = true := decide_eq_true c10
                    by_cases c11 : x5_1.length + ((l0.take ((wrap64 (((rd_T105 l1 x10_1).f1) + ((rd_T105 l1 x10_1).f2))) : Int).toNat).drop (((rd_T105 l1 x10_1).f1) : Int).toNat).length < 140737488355328
                    · rw [if_pos c11] at H
                      have LMc11 := Aside0.mk c11
                      clear c11
                      obtain ⟨y117, hy117⟩ : ∃ y_ : List Int, y_ = (x5_1 ++ ((l0.take ((wrap64 (((rd_T105 l1 x10_1).f1) + ((rd_T105 l1 x10_1).f2))) : Int).toNat).drop (((rd_T105 l1 x10_1).f1) : Int).toNat)) := ⟨_, rfl⟩
                      replace H : (spec_Made.l0 k1 l0 y117 l1 (l1.length : Int) (wrap64 (x10_1 + 1))) = some r := by first | (rw [hy117]; with_reducible exact H) | (have H2_ := (Option.bind_some _ _).symm.trans H; rw [hy117]; with_reducible exact H2_) | (have H2_ := (Option.bind_some _ _).symm.trans H; with_reducible exact H2_) | with_reducible exact H | (rw [hy117]; exact H) | exact H
                      have Ny117 := Aside0.mk hy117
                      clear hy117
                      have H' := Aside0.mk H
                      clear H
                      have p114 : 0 ≤ (x10_1 : Int) := of_decide_eq_true (by first | (with_reducible assumption) | assumption)
                      have q114 : x10_1 < (l1.length : Int) := of_decide_eq_true (by first | (with_reducible assumption) | assumption)
                      obtain ⟨ad114, A114_3, c114_3, e114, hx114_0, hx114_1, hx114_2, hx114_3, hx114_4, hl114_3, hi114_3⟩ := at_T105 HR1.out x10_1 p114 q114
                      (try rw [← Nbq6.out] at hx114_0)
                      cases e114
                      replace hx114_0 := (HB.out.cell (World.block_lt_of_cell? w _ hx114_0)).trans hx114_0
                      replace hx114_1 := (HB.out.cell (World.block_lt_of_cell? w _ hx114_1)).trans hx114_1
                      replace hx114_2 := (HB.out.cell (World.block_lt_of_cell? w _ hx114_2)).trans hx114_2
                      replace hx114_3 := (HB.out.cell (World.block_lt_of_cell? w _ hx114_3)).trans hx114_3
                      replace hx114_4 := (HB.out.cell (World.block_lt_of_cell? w _ hx114_4)).trans hx114_4
                      have HR114_3 := Aside0.mk hi114_3
                      have HC114_3 := Aside0.mk hl114_3
                      clear hi114_3 hl114_3
                      replace p114 := eq_true p114
                      replace q114 := eq_true q114
                      go_wp2_with (first | ((with_reducible refine gate_dst (N := 7) rfl ?_); refine box_event ?hg (N := 7) ?hd (cs := #[.bool false, .int .i64 0, .int .i64 0, .slice none 0 0, .int .i64 0]) (t := 105) ?hr ?_; (case hd => rfl); (case hg => rfl); (case hr => first | (go_simp; done) | (go_simp; rfl)); intro gb115 hg w12 hbox hb; have n0_ := Aside0.mk (Kd.R_below (by (with_reducible repeat (first | apply Kd.R_alloc | apply Kd.R_drewN | apply Kd.R_drew)); exact HO_5.out) hb); have n1_ := Aside0.mk (below_step (by repeat (first | (with_reducible first | exact HB.out | apply below_alloc | apply pw_below_drewN | apply below_drew1) | exact HB.out)) hb); have n2_ := Aside0.mk (hbox); have n3_ := Aside0.mk ((by rw [hg]; exact (below_size (by repeat (first | (with_reducible first | exact HB.out | apply below_alloc | apply pw_below_drewN | apply below_drew1) | exact HB.out))) : w.heap.size ≤ gb115)); have n4_ := Aside0.mk ((by rw [hg]; exact (below_size (by repeat (first | (with_reducible first | exact HB.out | apply below_alloc | apply pw_below_drewN | apply below_drew1) | exact HB.out))) : w.heap.size ≤ gb115)); clear HO_5; clear HB; have HO_5 := n0_; have HB := n1_; have BK115 := n2_; have GW115 := n3_; have GE115 := n4_; clear n0_ n1_ n2_ n3_ n4_; clear hb hbox hg; have hcz13_0 : w12.cell? ⟨gb115, 0, none⟩ = some (.bool false) := (blk_cell BK115.out 0).trans rfl; have hcz13_1 : w12.cell? ⟨gb115, 1, none⟩ = some (.int .i64 0) := (blk_cell BK115.out 1).trans rfl; have hcz13_2 : w12.cell? ⟨gb115, 2, none⟩ = some (.int .i64 0) := (blk_cell BK115.out 2).trans rfl; have hcz13_3 : w12.cell? ⟨gb115, 3, none⟩ = some (.slice none 0 0) := (blk_cell BK115.out 3).trans rfl; have hcz13_4 : w12.cell? ⟨gb115, 4, none⟩ = some (.int .i64 0) := (blk_cell BK115.out 4).trans rfl; have hfz13_0 := blk_frozen BK115.out 0; have hfz13_1 := blk_frozen BK115.out 1; have hfz13_2 := blk_frozen BK115.out 2; have hfz13_3 := blk_frozen BK115.out 3; have hfz13_4 := blk_frozen BK115.out 4; obtain ⟨i014, hi014, _, hsz14, _⟩ := info_parts info5; obtain ⟨A14, hcut14, hA14, hC14⟩ := print_mid_of (P := Tryz.prog) (Value.int .u8) 0 25 5 .i64 .i64 Tryz.underlying25 hi014 hsz14 A0 c0 l0 ((rd_T105 l1 x10_1).f1) (wrap64 (((rd_T105 l1 x10_1).f1) + ((rd_T105 l1 x10_1).f2))) (of_decide_eq_true (by first | (with_reducible assumption) | assumption)) (by first | omega | exact of_decide_eq_true (by first | (with_reducible assumption) | assumption)) (of_decide_eq_true (by first | (with_reducible assumption) | assumption)) HC0.out; have HR116 := Aside0.mk (Kd.C_of_reads (h1 := fun _ => rfl) (hA14 _ (Kd.reads_of_C HR0.out))); have HC116 := Aside0.mk hC14; clear hA14 hC14 hi014 hsz14) | ((with_reducible refine gate_builtin (b := .append) (xs := #[.tmp 16, .tmp 25]) rfl ?_); at_builtin; refine Kd.R_append_rows (Kd.int .u8) (w0 := w) w.heap.size rfl (.tmp 16) (.tmp 25) 25 5 (.int .u8 0) 1 rfl Tryz.underlying25 info5 rfl (by decide) (by omega) u5 x5_1 ((l0.take ((wrap64 (((rd_T105 l1 x10_1).f1) + ((rd_T105 l1 x10_1).f2))) : Int).toNat).drop (((rd_T105 l1 x10_1).f1) : Int).toNat) _ _ _ (fun _ => True) (fun _ => False) rfl rfl ?aO ?aR (fun _ _ h => h) (fun _ h => h.elim) ?aF ?aB ?aS ?aL ?_; (case aR => first | (rw [← show ((l0.take ((wrap64 (((rd_T105 l1 x10_1).f1) + ((rd_T105 l1 x10_1).f2))) : Int).toNat).drop (((rd_T105 l1 x10_1).f1) : Int).toNat).length = ((wrap64 (((rd_T105 l1 x10_1).f1) + ((rd_T105 l1 x10_1).f2))).toNat - ((rd_T105 l1 x10_1).f1).toNat) from (by rw [List.length_drop, List.length_take]; have h_ : ((wrap64 (((rd_T105 l1 x10_1).f1) + ((rd_T105 l1 x10_1).f2))) : Int) ≤ (l0.length : Int) := of_decide_eq_true (by first | (with_reducible assumption) | assumption); omega)]; exact Kd.C_below HR116.out (by repeat (first | (with_reducible first | exact HB.out | apply below_alloc | apply pw_below_drewN | apply below_drew1 | refine below_set ?_ GE115.out) | exact HB.out))) | (exact Kd.C_below HR116.out (by repeat (first | (with_reducible first | exact HB.out | apply below_alloc | apply pw_below_drewN | apply below_drew1 | refine below_set ?_ GE115.out) | exact HB.out)))); (case aB => exact (by repeat (first | (with_reducible first | exact HB.out | apply below_alloc | apply pw_below_drewN | apply below_drew1 | refine below_set ?_ GE115.out) | exact HB.out))); (case aF => exact (fun _ _ => trivial)); (case aO => exact (by (with_reducible repeat (first | apply Kd.R_alloc | apply Kd.R_drewN | apply Kd.R_drew)); exact Kd.R_mono (Kd.R_far (p := ⟨gb115, 4, none⟩) (Kd.R_far (p := ⟨gb115, 3, none⟩) (Kd.R_far (p := ⟨gb115, 2, none⟩) (Kd.R_far (p := ⟨gb115, 1, none⟩) (Kd.R_far (p := ⟨gb115, 0, none⟩) (Kd.R_types HO_5.out BK115.out (by decide)) (fun _ hk => hk.2) (.bool true)) (fun _ hk => hk.2) (.int .i64 ((rd_T105 l1 x10_1).f1))) (fun _ hk => hk.2) (.int .i64 ((rd_T105 l1 x10_1).f2))) (fun _ hk => hk.2) (.slice A114_3 ((rd_T105 l1 x10_1).f3).length c114_3)) (fun _ hk => hk.2) (.int .i64 ((rd_T105 l1 x10_1).f4))) (fun _ hk => trivial))); (case aS => exact (below_size (by repeat (first | (with_reducible first | exact HB.out | apply below_alloc | apply pw_below_drewN | apply below_drew1 | refine below_set ?_ GE115.out) | exact HB.out)))); (case aL => have := LMc11.out; have hlx_ := (show ((l0.take ((wrap64 (((rd_T105 l1 x10_1).f1) + ((rd_T105 l1 x10_1).f2))) : Int).toNat).drop (((rd_T105 l1 x10_1).f1) : Int).toNat).length = ((wrap64 (((rd_T105 l1 x10_1).f1) + ((rd_T105 l1 x10_1).f2))).toNat - ((rd_T105 l1 x10_1).f1).toNat) from (by rw [List.length_drop, List.length_take]; have h_ : ((wrap64 (((rd_T105 l1 x10_1).f1) + ((rd_T105 l1 x10_1).f2))) : Int) ≤ (l0.length : Int) := of_decide_eq_true (by first | (with_reducible assumption) | assumption); omega)); omega); intro v118 w15 ho hb hg hat; rw [← Ny117.out] at ho; have n0_ := Aside0.mk (blk_grown (g := gb115) (o := .cells #[.bool true, .int .i64 ((rd_T105 l1 x10_1).f1), .int .i64 ((rd_T105 l1 x10_1).f2), .slice A114_3 ((rd_T105 l1 x10_1).f3).length c114_3, .int .i64 ((rd_T105 l1 x10_1).f4)] 105 (0, 0)) (by (with_reducible repeat (first | refine blk_drewN ?_ _ | refine blk_drew ?_ | refine blk_alloc ?_ _)); refine blk_put (cs := #[.bool true, .int .i64 ((rd_T105 l1 x10_1).f1), .int .i64 ((rd_T105 l1 x10_1).f2), .slice A114_3 ((rd_T105 l1 x10_1).f3).length c114_3, .int .i64 0]) ?_ 4 _ rfl; (with_reducible repeat (first | refine blk_drewN ?_ _ | refine blk_drew ?_ | refine blk_alloc ?_ _)); refine blk_put (cs := #[.bool true, .int .i64 ((rd_T105 l1 x10_1).f1), .int .i64 ((rd_T105 l1 x10_1).f2), .slice none 0 0, .int .i64 0]) ?_ 3 _ rfl; (with_reducible repeat (first | refine blk_drewN ?_ _ | refine blk_drew ?_ | refine blk_alloc ?_ _)); refine blk_put (cs := #[.bool true, .int .i64 ((rd_T105 l1 x10_1).f1), .int .i64 0, .slice none 0 0, .int .i64 0]) ?_ 2 _ rfl; (with_reducible repeat (first | refine blk_drewN ?_ _ | refine blk_drew ?_ | refine blk_alloc ?_ _)); refine blk_put (cs := #[.bool true, .int .i64 0, .int .i64 0, .slice none 0 0, .int .i64 0]) ?_ 1 _ rfl; (with_reducible repeat (first | refine blk_drewN ?_ _ | refine blk_drew ?_ | refine blk_alloc ?_ _)); refine blk_put (cs := #[.bool false, .int .i64 0, .int .i64 0, .slice none 0 0, .int .i64 0]) ?_ 0 _ rfl; (with_reducible repeat (first | refine blk_drewN ?_ _ | refine blk_drew ?_ | refine blk_alloc ?_ _)); exact BK115.out) hg (Kd.R_ne HO_5.out BK115.out (by decide))); have n1_ := Aside0.mk (hb); have n2_ := Aside0.mk (ho); clear BK115; clear HB; clear HO_5; have BK115 := n0_; have HB := n1_; have HO119 := n2_; clear n0_ n1_ n2_; clear ho hb hg hat))
                      go_roundg k1
                      case measure => have := HK1.out; omega
                      case rel => exact ⟨(y117), (wrap64 (x10_1 + 1)), (by first | rfl | (simp; done) | (simp [*]; done)), H', ⟨by have := HK1.out; omega⟩, ⟨by (with_reducible repeat (first | apply Kd.R_alloc | apply Kd.R_drewN | apply Kd.R_drew)); exact HO119.out⟩, ⟨by repeat (first | (with_reducible first | exact HB.out | apply below_alloc | apply pw_below_drewN | apply below_drew1 | refine below_set ?_ GE115.out) | exact HB.out)⟩⟩
                    · rw [if_neg c11] at H
                      exact absurd H (by simp)
                  · rw [if_neg c10] at H
                    exact absurd H (by simp)
                · rw [if_neg c9] at H
                  exact absurd H (by simp)
              · rw [if_neg c8] at H
                exact absurd H (by simp)
            · replace c7 := Bool.eq_false_iff.mpr c7
              subst c7
              have H1 : (if x5_1.length + ((rd_T105 l1 x10_1).f3).length < 140737488355328 then (spec_Made.l0 k1 l0 (x5_1 ++ ((rd_T105 l1 x10_1).f3)) l1 (l1.length : Int) (wrap64 (x10_1 + 1))) else (none)) = some r := by rw [if_neg (show ¬ (false = true) by decide)] at H; exact H
              clear H
              have H := H1
              clear H1
              by_cases c16 : x5_1.length + ((rd_T105 l1 x10_1).f3).length < 140737488355328
              · rw [if_pos c16] at H
                have LMc16 := Aside0.mk c16
                clear c16
                obtain ⟨y120, hy120⟩ : ∃ y_ : List Int, y_ = (x5_1 ++ ((rd_T105 l1 x10_1).f3)) := ⟨_, rfl⟩
                replace H : (spec_Made.l0 k1 l0 y120 l1 (l1.length : Int) (wrap64 (x10_1 + 1))) = some r := by first | (rw [hy120]; with_reducible exact H) | (have H2_ := (Option.bind_some _ _).symm.trans H; rw [hy120]; with_reducible exact H2_) | (have H2_ := (Option.bind_some _ _).symm.trans H; with_reducible exact H2_) | with_reducible exact H | (rw [hy120]; exact H) | exact H
                have Ny120 := Aside0.mk hy120
                clear hy120
                have H' := Aside0.mk H
                clear H
                have p114 : 0 ≤ (x10_1 : Int) := of_decide_eq_true (by first | (with_reducible assumption) | assumption)
                have q114 : x10_1 < (l1.length : Int) := of_decide_eq_true (by first | (with_reducible assumption) | assumption)
                obtain ⟨ad114, A114_3, c114_3, e114, hx114_0, hx114_1, hx114_2, hx114_3, hx114_4, hl114_3, hi114_3⟩ := at_T105 HR1.out x10_1 p114 q114
                (try rw [← Nbq6.out] at hx114_0)
                cases e114
                replace hx114_0 := (HB.out.cell (World.block_lt_of_cell? w _ hx114_0)).trans hx114_0
                replace hx114_1 := (HB.out.cell (World.block_lt_of_cell? w _ hx114_1)).trans hx114_1
                replace hx114_2 := (HB.out.cell (World.block_lt_of_cell? w _ hx114_2)).trans hx114_2
                replace hx114_3 := (HB.out.cell (World.block_lt_of_cell? w _ hx114_3)).trans hx114_3
                replace hx114_4 := (HB.out.cell (World.block_lt_of_cell? w _ hx114_4)).trans hx114_4
                have HR114_3 := Aside0.mk hi114_3
                have HC114_3 := Aside0.mk hl114_3
                clear hi114_3 hl114_3
                replace p114 := eq_true p114
                replace q114 := eq_true q114
                go_wp2_with (first | ((with_reducible refine gate_dst (N := 7) rfl ?_); refine box_event ?hg (N := 7) ?hd (cs := #[.bool false, .int .i64 0, .int .i64 0, .slice none 0 0, .int .i64 0]) (t := 105) ?hr ?_; (case hd => rfl); (case hg => rfl); (case hr => first | (go_simp; done) | (go_simp; rfl)); intro gb115 hg w17 hbox hb; have n0_ := Aside0.mk (Kd.R_below (by (with_reducible repeat (first | apply Kd.R_alloc | apply Kd.R_drewN | apply Kd.R_drew)); exact HO_5.out) hb); have n1_ := Aside0.mk (below_step (by repeat (first | (with_reducible first | exact HB.out | apply below_alloc | apply pw_below_drewN | apply below_drew1) | exact HB.out)) hb); have n2_ := Aside0.mk (hbox); have n3_ := Aside0.mk ((by rw [hg]; exact (below_size (by repeat (first | (with_reducible first | exact HB.out | apply below_alloc | apply pw_below_drewN | apply below_drew1) | exact HB.out))) : w.heap.size ≤ gb115)); have n4_ := Aside0.mk ((by rw [hg]; exact (below_size (by repeat (first | (with_reducible first | exact HB.out | apply below_alloc | apply pw_below_drewN | apply below_drew1) | exact HB.out))) : w.heap.size ≤ gb115)); clear HO_5; clear HB; have HO_5 := n0_; have HB := n1_; have BK115 := n2_; have GW115 := n3_; have GE115 := n4_; clear n0_ n1_ n2_ n3_ n4_; clear hb hbox hg; have hcz18_0 : w17.cell? ⟨gb115, 0, none⟩ = some (.bool false) := (blk_cell BK115.out 0).trans rfl; have hcz18_1 : w17.cell? ⟨gb115, 1, none⟩ = some (.int .i64 0) := (blk_cell BK115.out 1).trans rfl; have hcz18_2 : w17.cell? ⟨gb115, 2, none⟩ = some (.int .i64 0) := (blk_cell BK115.out 2).trans rfl; have hcz18_3 : w17.cell? ⟨gb115, 3, none⟩ = some (.slice none 0 0) := (blk_cell BK115.out 3).trans rfl; have hcz18_4 : w17.cell? ⟨gb115, 4, none⟩ = some (.int .i64 0) := (blk_cell BK115.out 4).trans rfl; have hfz18_0 := blk_frozen BK115.out 0; have hfz18_1 := blk_frozen BK115.out 1; have hfz18_2 := blk_frozen BK115.out 2; have hfz18_3 := blk_frozen BK115.out 3; have hfz18_4 := blk_frozen BK115.out 4) | ((with_reducible refine gate_builtin (b := .append) (xs := #[.tmp 27, .tmp 29]) rfl ?_); at_builtin; refine Kd.R_append_rows (Kd.int .u8) (w0 := w) w.heap.size rfl (.tmp 27) (.tmp 29) 25 5 (.int .u8 0) 1 rfl Tryz.underlying25 info5 rfl (by decide) (by omega) u5 x5_1 ((rd_T105 l1 x10_1).f3) _ _ _ (fun _ => True) (fun _ => False) rfl rfl ?aO ?aR (fun _ _ h => h) (fun _ h => h.elim) ?aF ?aB ?aS ?aL ?_; (case aR => exact Kd.C_below HR114_3.out (by repeat (first | (with_reducible first | exact HB.out | apply below_alloc | apply pw_below_drewN | apply below_drew1 | refine below_set ?_ GE115.out) | exact HB.out))); (case aB => exact (by repeat (first | (with_reducible first | exact HB.out | apply below_alloc | apply pw_below_drewN | apply below_drew1 | refine below_set ?_ GE115.out) | exact HB.out))); (case aF => exact (fun _ _ => trivial)); (case aO => exact (by (with_reducible repeat (first | apply Kd.R_alloc | apply Kd.R_drewN | apply Kd.R_drew)); exact Kd.R_mono (Kd.R_far (p := ⟨gb115, 4, none⟩) (Kd.R_far (p := ⟨gb115, 3, none⟩) (Kd.R_far (p := ⟨gb115, 2, none⟩) (Kd.R_far (p := ⟨gb115, 1, none⟩) (Kd.R_far (p := ⟨gb115, 0, none⟩) (Kd.R_types HO_5.out BK115.out (by decide)) (fun _ hk => hk.2) (.bool false)) (fun _ hk => hk.2) (.int .i64 ((rd_T105 l1 x10_1).f1))) (fun _ hk => hk.2) (.int .i64 ((rd_T105 l1 x10_1).f2))) (fun _ hk => hk.2) (.slice A114_3 ((rd_T105 l1 x10_1).f3).length c114_3)) (fun _ hk => hk.2) (.int .i64 ((rd_T105 l1 x10_1).f4))) (fun _ hk => trivial))); (case aS => exact (below_size (by repeat (first | (with_reducible first | exact HB.out | apply below_alloc | apply pw_below_drewN | apply below_drew1 | refine below_set ?_ GE115.out) | exact HB.out)))); (case aL => have := LMc16.out; omega); intro v121 w19 ho hb hg hat; rw [← Ny120.out] at ho; have n0_ := Aside0.mk (blk_grown (g := gb115) (o := .cells #[.bool false, .int .i64 ((rd_T105 l1 x10_1).f1), .int .i64 ((rd_T105 l1 x10_1).f2), .slice A114_3 ((rd_T105 l1 x10_1).f3).length c114_3, .int .i64 ((rd_T105 l1 x10_1).f4)] 105 (0, 0)) (by (with_reducible repeat (first | refine blk_drewN ?_ _ | refine blk_drew ?_ | refine blk_alloc ?_ _)); refine blk_put (cs := #[.bool false, .int .i64 ((rd_T105 l1 x10_1).f1), .int .i64 ((rd_T105 l1 x10_1).f2), .slice A114_3 ((rd_T105 l1 x10_1).f3).length c114_3, .int .i64 0]) ?_ 4 _ rfl; (with_reducible repeat (first | refine blk_drewN ?_ _ | refine blk_drew ?_ | refine blk_alloc ?_ _)); refine blk_put (cs := #[.bool false, .int .i64 ((rd_T105 l1 x10_1).f1), .int .i64 ((rd_T105 l1 x10_1).f2), .slice none 0 0, .int .i64 0]) ?_ 3 _ rfl; (with_reducible repeat (first | refine blk_drewN ?_ _ | refine blk_drew ?_ | refine blk_alloc ?_ _)); refine blk_put (cs := #[.bool false, .int .i64 ((rd_T105 l1 x10_1).f1), .int .i64 0, .slice none 0 0, .int .i64 0]) ?_ 2 _ rfl; (with_reducible repeat (first | refine blk_drewN ?_ _ | refine blk_drew ?_ | refine blk_alloc ?_ _)); refine blk_put (cs := #[.bool false, .int .i64 0, .int .i64 0, .slice none 0 0, .int .i64 0]) ?_ 1 _ rfl; (with_reducible repeat (first | refine blk_drewN ?_ _ | refine blk_drew ?_ | refine blk_alloc ?_ _)); refine blk_put (cs := #[.bool false, .int .i64 0, .int .i64 0, .slice none 0 0, .int .i64 0]) ?_ 0 _ rfl; (with_reducible repeat (first | refine blk_drewN ?_ _ | refine blk_drew ?_ | refine blk_alloc ?_ _)); exact BK115.out) hg (Kd.R_ne HO_5.out BK115.out (by decide))); have n1_ := Aside0.mk (hb); have n2_ := Aside0.mk (ho); clear BK115; clear HB; clear HO_5; have BK115 := n0_; have HB := n1_; have HO122 := n2_; clear n0_ n1_ n2_; clear ho hb hg hat))
                go_roundg k1
                case measure => have := HK1.out; omega
                case rel => exact ⟨(y120), (wrap64 (x10_1 + 1)), (by first | rfl | (simp; done) | (simp [*]; done)), H', ⟨by have := HK1.out; omega⟩, ⟨by (with_reducible repeat (first | apply Kd.R_alloc | apply Kd.R_drewN | apply Kd.R_drew)); exact HO122.out⟩, ⟨by repeat (first | (with_reducible first | exact HB.out | apply below_alloc | apply pw_below_drewN | apply below_drew1 | refine below_set ?_ GE115.out) | exact HB.out)⟩⟩
              · rw [if_neg c16] at H
                exact absurd H (by simp)
          · rw [if_neg c5] at H
            exact absurd H (by simp)
        · rw [if_neg c4] at H
          exact absurd H (by simp)
      · rw [if_neg c3] at H
        have c3b0 : decide (x10_1 < (l1.length : Int)) = false := decide_eq_false c3
        clear c3
        obtain rfl := Option.some.inj H
        go_wp2
        go_ret
        exact ⟨_, by first | rfl | (simp [errW_none, errW_some] <;> rfl) | (simp [*, errW_none, errW_some] <;> rfl), by (with_reducible repeat (first | apply Kd.R_alloc | apply Kd.R_drewN | apply Kd.R_drew)); exact HO_5.out, by repeat (first | (with_reducible first | exact HB.out | apply below_alloc | apply pw_below_drewN | apply below_drew1) | exact HB.out)⟩

-- NOT PRINTED: function 11 (spec_Objects)

/-! ### spec_Put32: function 14 -/
def spec_Put32.f (a0 : Int) : Option (List Int) := some (([(a0 / 16777216) % 256, (a0 / 65536) % 256, (a0 / 256) % 256, (a0) % 256] : List Int))
set_option maxHeartbeats 8000000 in
set_option maxRecDepth 100000 in
theorem spec_Put32.calls (a0 : Int) (r : List Int) (w : World) (h : spec_Put32.f a0 = some r) :
    Calls Tryz.prog 14 #[.int .u32 a0] w fun e w' => ∃ v0_ : Value, e = .returned (v0_) ∧ Kd.R (Kd.int .u8) 5 w' w.heap.size (fun _ => True) v0_ r ∧ Below w.heap.size w w' := by
  have HB := Aside0.mk (Below.refl w.heap.size w)
  have H : (some (([(a0 / 16777216) % 256, (a0 / 65536) % 256, (a0 / 256) % 256, (a0) % 256] : List Int))) = some r := h
  clear h
  obtain ⟨y125, hy125⟩ : ∃ y_ : List Int, y_ = (([(a0 / 16777216) % 256, (a0 / 65536) % 256, (a0 / 256) % 256, (a0) % 256] : List Int)) := ⟨_, rfl⟩
  replace H : (some y125) = some r := by first | (rw [hy125]; with_reducible exact H) | (have H2_ := (Option.bind_some _ _).symm.trans H; rw [hy125]; with_reducible exact H2_) | (have H2_ := (Option.bind_some _ _).symm.trans H; with_reducible exact H2_) | with_reducible exact H | (rw [hy125]; exact H) | exact H
  have Ny125 := Aside0.mk hy125
  clear hy125
  obtain rfl := Option.some.inj H
  go_enter Tryz.func14, Tryz.ntmps14
  go_wp2_with (first | ((with_reducible refine gate_dst (N := 14) rfl ?_); refine Kd.R_lit (Kd.int .u8) _ 5 ?hg (N := 14) ?hd (xs := ([(a0 / 16777216) % 256, (a0 / 65536) % 256, (a0 / 256) % 256, (a0) % 256] : List Int)) (inner := [.int .u8 ((a0 / 16777216) % 256), .int .u8 ((a0 / 65536) % 256), .int .u8 ((a0 / 256) % 256), .int .u8 ((a0) % 256)]) (ok := fun _ => True) (okp := fun _ => True) ?hr ?hp (fun _ hk => hk) trivial (Below.refl _ _) (Nat.le_refl _) (by simp) ?_; (case hd => rfl); (case hg => rfl); (case hr => first | (go_simp; done) | (go_simp; rfl)); (case hp => exact (Reps.one (show Kd.M (Kd.int .u8) _ _ _ ((a0 / 16777216) % 256) [.int .u8 ((a0 / 16777216) % 256)] from rfl) (Reps.one (show Kd.M (Kd.int .u8) _ _ _ ((a0 / 65536) % 256) [.int .u8 ((a0 / 65536) % 256)] from rfl) (Reps.one (show Kd.M (Kd.int .u8) _ _ _ ((a0 / 256) % 256) [.int .u8 ((a0 / 256) % 256)] from rfl) (Reps.one (show Kd.M (Kd.int .u8) _ _ _ ((a0) % 256) [.int .u8 ((a0) % 256)] from rfl) (Reps.none _ _)))))); intro v126 w2 ho3 hb hg_ hnew_; clear hg_ hnew_; (first | rw [← Ny125.out] at ho3 | (simp only [Int.reduceToNat] at ho3; rw [← Ny125.out] at ho3)); have n0_ := Aside0.mk (Kd.R_lower ho3 (below_size (by repeat (first | (with_reducible first | exact HB.out | apply below_alloc | apply pw_below_drewN | apply below_drew1) | exact HB.out)))); have n1_ := Aside0.mk (below_step (by repeat (first | (with_reducible first | exact HB.out | apply below_alloc | apply pw_below_drewN | apply below_drew1) | exact HB.out)) hb); clear HB; have HO127 := n0_; have HB := n1_; clear n0_ n1_; clear hb ho3))
  go_ret
  exact ⟨_, by first | rfl | (simp [errW_none, errW_some] <;> rfl) | (simp [*, errW_none, errW_some] <;> rfl), by (with_reducible repeat (first | apply Kd.R_alloc | apply Kd.R_drewN | apply Kd.R_drew)); exact HO127.out, by repeat (first | (with_reducible first | exact HB.out | apply below_alloc | apply pw_below_drewN | apply below_drew1) | exact HB.out)⟩

end Go.Proofs.YtohdpnoinfnmiaaGreatDoor.PFnPackOther
