-- AFTER A TEXT PRINTED BY print.sh (part x4), turned in spec_Stored.calls:  35421559b90ae4d0a3588c463048766b98c2df88dd9212a6774a882060cdf62d: not written by this session
import Derived.Test.YtohdpnoinfnmiaaGreatDoorPFnPackOtherx0
import Derived.Test.YtohdpnoinfnmiaaGreatDoorPFnPackOtherx1
namespace Go.Proofs.YtohdpnoinfnmiaaGreatDoor.PFnPackOther
open Go.RowKit Go.Proofs.YtohdpnoinfnmiaaGreatDoorW.PrintWords Go.Proofs.YtohdpnoinfnmiaaGreatDoorW.PrintLast Go.Proofs.YtohdpnoinfnmiaaGreatDoorW.PrintMore
attribute [local go_sem] max2_int min2_int max_two min_two max_three min_three max_four min_four   -- for this text's walks alone
set_option linter.unusedVariables false
set_option linter.unusedSimpArgs false

/-! ### spec_Adler32: function 42 -/
def spec_Adler32.l0 : Nat → Int → Int → List Int → Int → Int → Option (Int)
  | 0, _, _, _, _, _ => none
  | k + 1, x3, x4, x7, x8, x9 => if x9 < x8 then (if 0 ≤ x9 then (if x9 < (x7.length : Int) then (spec_Adler32.l0 k (((x3 + ((rd x7 x9) % 4294967296)) % 4294967296) % 65521) (((x4 + (((x3 + ((rd x7 x9) % 4294967296)) % 4294967296) % 65521)) % 4294967296) % 65521) x7 x8 (wrap64 (x9 + 1))) else (none)) else (none)) else (some (Go.bits .or .u32 ((x4 * 65536) % 4294967296) x3))
def spec_Adler32.f (k : Nat) (l0 : List Int) : Option (Int) := spec_Adler32.l0 k 1 0 l0 (l0.length : Int) 0
theorem spec_Adler32.mono_l : ∀ k, (∀ y0 y1 y2 y3 y4, LeO (spec_Adler32.l0 k y0 y1 y2 y3 y4) (spec_Adler32.l0 (k + 1) y0 y1 y2 y3 y4))
  | 0 => fun _ _ _ _ _ r h => by simp [spec_Adler32.l0] at h
  | k + 1 => by
    have ih0 := spec_Adler32.mono_l k
    · intro y0 y1 y2 y3 y4
      unfold spec_Adler32.l0
      repeat' first
      | (with_reducible exact ih0 _ _ _ _ _)
      | (with_reducible exact LeO.refl _)
      | (with_reducible exact LeO.none _)
      | (with_reducible refine LeO.ite ?_ ?_)
      | (with_reducible refine LeO.bind ?_ (fun _ => ?_))
      | exact ih0 _ _ _ _ _
      | exact LeO.none _
      | refine LeO.ite ?_ ?_
      | refine LeO.bind ?_ (fun _ => ?_)
theorem spec_Adler32.mono : ∀ a0 k, LeO (spec_Adler32.f k a0) (spec_Adler32.f (k + 1) a0) := by
  intro a0 k
  have ih0 := spec_Adler32.mono_l k
  unfold spec_Adler32.f
  repeat' first
      | (with_reducible exact ih0 _ _ _ _ _)
      | (with_reducible exact LeO.refl _)
      | (with_reducible exact LeO.none _)
      | (with_reducible refine LeO.ite ?_ ?_)
      | (with_reducible refine LeO.bind ?_ (fun _ => ?_))
      | exact ih0 _ _ _ _ _
      | exact LeO.none _
      | refine LeO.ite ?_ ?_
      | refine LeO.bind ?_ (fun _ => ?_)
set_option maxHeartbeats 8000000 in
set_option maxRecDepth 100000 in
theorem spec_Adler32.calls (k : Nat) (A0 : Option Addr) (c0 : Nat) (l0 : List Int) (r : Int) (w : World) (hr0 : Kd.C (Kd.int .u8) w A0 l0.length l0) (hc0 : l0.length ≤ c0) (h : spec_Adler32.f k l0 = some r) :
    Calls Tryz.prog 42 #[.slice A0 l0.length c0] w fun e w' => e = .returned (.int .u32 r) ∧ Drawn0 w w' := by
  have HR0 := Aside0.mk hr0
  have HC0 := Aside0.mk hc0
  clear hr0 hc0
  have H : (spec_Adler32.l0 k 1 0 l0 (l0.length : Int) 0) = some r := h
  clear h
  have H' := Aside0.mk H
  clear H
  go_enter Tryz.func42, Tryz.ntmps42
  go_wp2
  go_loopg [3, 4, 9] k (fun kq v3 v4 v9 w' => ∃ (x3_1 : Int) (x4_1 : Int) (x9_1 : Int), v3 = .int .u32 x3_1 ∧ v4 = .int .u32 x4_1 ∧ v9 = .int .i64 x9_1 ∧ Aside0 (spec_Adler32.l0 kq x3_1 x4_1 l0 (l0.length : Int) x9_1 = some r) ∧ Aside0 (kq ≤ k) ∧ Drawn0 w w')
  case atStart => exact ⟨(1), (0), (0), (by first | rfl | (simp; done) | (simp [*]; done)), (by first | rfl | (simp; done) | (simp [*]; done)), (by first | rfl | (simp; done) | (simp [*]; done)), H', ⟨Nat.le_refl _⟩, by repeat (first | exact Drawn0.refl _ | apply Drawn0.step)⟩
  case round =>
    clear H'
    obtain ⟨x3_1, x4_1, x9_1, rfl, rfl, rfl, HA, HK1, ⟨m1, rfl⟩⟩ := hrel
    cases gk with
    | zero => exact absurd HA.out (by simp [spec_Adler32.l0])
    | succ k1 =>
      have H := HA.out
      clear HA
      simp only [spec_Adler32.l0] at H
      by_cases c2 : x9_1 < (l0.length : Int)
      · rw [if_pos c2] at H
        have c2b0 : decide (x9_1 < (l0.length : Int)) = true := decide_eq_true c2
        clear c2
        by_cases c3 : 0 ≤ x9_1
        · rw [if_pos c3] at H
          have c3b0 : decide (0 ≤ x9_1) = true := decide_eq_true c3
          clear c3
          by_cases c4 : x9_1 < (l0.length : Int)
          · rw [if_pos c4] at H
            have c4b0 : decide (x9_1 < (l0.length : Int)) = true := decide_eq_true c4
            clear c4
            have H' := Aside0.mk H
            clear H
            have p251 : 0 ≤ (x9_1 : Int) := of_decide_eq_true (by first | (with_reducible assumption) | assumption)
            have q251 : x9_1 < (l0.length : Int) := of_decide_eq_true (by first | (with_reducible assumption) | assumption)
            obtain ⟨ad251, e251, hx251_0⟩ := Kd.at_int HR0.out x9_1 p251 q251
            cases e251
            replace p251 := eq_true p251
            replace q251 := eq_true q251
            go_wp2
            go_roundg k1
            case measure => have := HK1.out; omega
            case rel => exact ⟨(((x3_1 + ((rd l0 x9_1) % 4294967296)) % 4294967296) % 65521), (((x4_1 + (((x3_1 + ((rd l0 x9_1) % 4294967296)) % 4294967296) % 65521)) % 4294967296) % 65521), (wrap64 (x9_1 + 1)), (by first | rfl | (simp; done) | (simp [*]; done)), (by first | rfl | (simp; done) | (simp [*]; done)), (by first | rfl | (simp; done) | (simp [*]; done)), H', ⟨by have := HK1.out; omega⟩, by repeat (first | exact Drawn0.refl _ | apply Drawn0.step)⟩
          · rw [if_neg c4] at H
            exact absurd H (by simp)
        · rw [if_neg c3] at H
          exact absurd H (by simp)
      · rw [if_neg c2] at H
        have c2b0 : decide (x9_1 < (l0.length : Int)) = false := decide_eq_false c2
        clear c2
        obtain rfl := Option.some.inj H
        go_wp2
        go_ret
        exact ⟨by first | rfl | (simp; done) | (simp [*]; done), by repeat (first | exact Drawn0.refl _ | apply Drawn0.step)⟩

/-! ### spec_Stored: function 20 -/
mutual
def spec_Stored.l0 : Nat → List Int → List Int → List Int → Option (List Int)
  | 0, _, _, _ => none
  | k + 1, x0, x3, x4 => if (mn (x4.length : Int) 65535) = (x4.length : Int) then (spec_Stored.j1 k x0 x3 x4 (mn (x4.length : Int) 65535) 1) else (spec_Stored.j1 k x0 x3 x4 (mn (x4.length : Int) 65535) 0)
def spec_Stored.j1 : Nat → List Int → List Int → List Int → Int → Int → Option (List Int)
  | 0, _, _, _, _, _ => none
  | k + 1, x0, x3, x4, x5, x6 => (some (([x6, (x5) % 256, (x5 / 256) % 256, (Go.bits .xor .i64 (-1) x5) % 256, ((Go.bits .xor .i64 (-1) x5) / 256) % 256] : List Int) : List Int)).bind fun y255 => (if x3.length + y255.length < 140737488355328 then ((some (x3 ++ y255 : List Int)).bind fun y258 => (if 0 ≤ x5 then (if x5 ≤ (x4.length : Int) then ((some (x4.take (x5 : Int).toNat : List Int)).bind fun y261 => (if y258.length + y261.length < 140737488355328 then ((some (y258 ++ y261 : List Int)).bind fun y266 => (if x6 = 1 then ((spec_Adler32.f k x0).bind fun t274 => ((spec_Put32.f t274).bind fun t275 => (if y266.length + t275.length < 140737488355328 then (some (y266 ++ t275)) else (none)))) else (spec_Stored.l0 k x0 y266 (x4.drop (x5 : Int).toNat)))) else (none))) else (none)) else (none))) else (none))
end
def spec_Stored.f (k : Nat) (l0 : List Int) : Option (List Int) := spec_Stored.l0 k l0 (([120, 1] : List Int)) l0
theorem spec_Stored.mono_l : ∀ k, (∀ y0 y1 y2, LeO (spec_Stored.l0 k y0 y1 y2) (spec_Stored.l0 (k + 1) y0 y1 y2)) ∧ (∀ y0 y1 y2 y3 y4, LeO (spec_Stored.j1 k y0 y1 y2 y3 y4) (spec_Stored.j1 (k + 1) y0 y1 y2 y3 y4))
  | 0 => ⟨fun _ _ _ r h => by simp [spec_Stored.l0] at h, fun _ _ _ _ _ r h => by simp [spec_Stored.j1] at h⟩
  | k + 1 => by
    obtain ⟨ih0, ih1⟩ := spec_Stored.mono_l k
    refine ⟨?_, ?_⟩
    · intro y0 y1 y2
      unfold spec_Stored.l0
      repeat' first
      | (with_reducible exact ih0 _ _ _)
      | (with_reducible exact ih1 _ _ _ _ _)
      | (with_reducible exact spec_Adler32.mono _ _)
      | (with_reducible exact LeO.refl _)
      | (with_reducible exact LeO.none _)
      | (with_reducible refine LeO.ite ?_ ?_)
      | (with_reducible refine LeO.bind ?_ (fun _ => ?_))
      | exact ih0 _ _ _
      | exact ih1 _ _ _ _ _
      | exact spec_Adler32.mono _ _
      | exact LeO.none _
      | refine LeO.ite ?_ ?_
      | refine LeO.bind ?_ (fun _ => ?_)
    · intro y0 y1 y2 y3 y4
      unfold spec_Stored.j1
      repeat' first
      | (with_reducible exact ih0 _ _ _)
      | (with_reducible exact ih1 _ _ _ _ _)
      | (with_reducible exact spec_Adler32.mono _ _)
      | (with_reducible exact LeO.refl _)
      | (with_reducible exact LeO.none _)
      | (with_reducible refine LeO.ite ?_ ?_)
      | (with_reducible refine LeO.bind ?_ (fun _ => ?_))
      | exact ih0 _ _ _
      | exact ih1 _ _ _ _ _
      | exact spec_Adler32.mono _ _
      | exact LeO.none _
      | refine LeO.ite ?_ ?_
      | refine LeO.bind ?_ (fun _ => ?_)
theorem spec_Stored.mono : ∀ a0 k, LeO (spec_Stored.f k a0) (spec_Stored.f (k + 1) a0) := by
  intro a0 k
  obtain ⟨ih0, ih1⟩ := spec_Stored.mono_l k
  unfold spec_Stored.f
  repeat' first
      | (with_reducible exact ih0 _ _ _)
      | (with_reducible exact ih1 _ _ _ _ _)
      | (with_reducible exact spec_Adler32.mono _ _)
      | (with_reducible exact LeO.refl _)
      | (with_reducible exact LeO.none _)
      | (with_reducible refine LeO.ite ?_ ?_)
      | (with_reducible refine LeO.bind ?_ (fun _ => ?_))
      | exact ih0 _ _ _
      | exact ih1 _ _ _ _ _
      | exact spec_Adler32.mono _ _
      | exact LeO.none _
      | refine LeO.ite ?_ ?_
      | refine LeO.bind ?_ (fun _ => ?_)
set_option maxHeartbeats 8000000 in
set_option maxRecDepth 100000 in
theorem spec_Stored.calls (k : Nat) (P0_ : Nat → Prop) (A0 : Option Addr) (c0 : Nat) (l0 : List Int) (r : List Int) (w : World) (hs0 : Kd.V (Kd.int .u8) 5 w w.heap.size (fun k_ => P0_ k_) (.slice A0 l0.length c0) l0) (h : spec_Stored.f k l0 = some r) :
    Calls Tryz.prog 20 #[.slice A0 l0.length c0] w fun e w' => ∃ v0_ : Value, e = .returned (v0_) ∧ Kd.R (Kd.int .u8) 5 w' w.heap.size (fun k_ => (w.heap.size ≤ k_)) v0_ r ∧ Below w.heap.size w w' := by
  have HO0 := Aside0.mk (show Kd.V (Kd.int .u8) 5 w w.heap.size (fun k_ => (P0_ k_ ∨ w.heap.size ≤ k_)) (.slice A0 l0.length c0) l0 from Kd.V_mono hs0 (fun k_ hk => .inl hk))
  have HB := Aside0.mk (Below.refl w.heap.size w)
  have H : (spec_Stored.l0 k l0 (([120, 1] : List Int)) l0) = some r := h
  clear h
  obtain ⟨y252, hy252⟩ : ∃ y_ : List Int, y_ = (([120, 1] : List Int)) := ⟨_, rfl⟩
  replace H : (spec_Stored.l0 k l0 y252 l0) = some r := by first | (rw [hy252]; with_reducible exact H) | (have H2_ := (Option.bind_some _ _).symm.trans H; rw [hy252]; with_reducible exact H2_) | (have H2_ := (Option.bind_some _ _).symm.trans H; with_reducible exact H2_) | with_reducible exact H | (rw [hy252]; exact H) | exact H
  have Ny252 := Aside0.mk hy252
  clear hy252
  have H' := Aside0.mk H
  clear H
  go_enter Tryz.func20, Tryz.ntmps20
  go_wp2_with (first | ((with_reducible refine gate_dst (N := 7) rfl ?_); refine Kd.R_lit (Kd.int .u8) _ 5 ?hg (N := 7) ?hd (xs := ([120, 1] : List Int)) (inner := [.int .u8 120, .int .u8 1]) (ok := fun _ => True) (okp := fun _ => True) ?hr ?hp (fun _ hk => hk) trivial (Below.refl _ _) (Nat.le_refl _) (by simp) ?_; (case hd => rfl); (case hg => rfl); (case hr => first | (go_simp; done) | (go_simp; rfl)); (case hp => exact (Reps.one (show Kd.M (Kd.int .u8) _ _ _ 120 [.int .u8 120] from rfl) (Reps.one (show Kd.M (Kd.int .u8) _ _ _ 1 [.int .u8 1] from rfl) (Reps.none _ _)))); intro v253 w2 ho3 hb hg_ hnew_; clear hg_ hnew_; (first | rw [← Ny252.out] at ho3 | (simp only [Int.reduceToNat] at ho3; rw [← Ny252.out] at ho3)); have n0_ := Aside0.mk (Kd.V_elder' (by (with_reducible repeat (first | apply Kd.V_alloc | apply Kd.V_drewN | apply Kd.V_drew)); exact HO0.out) (Kd.R_base ho3) hb); have n1_ := Aside0.mk (Kd.R_lower (Kd.R_newM (M := fun k_ => (w.heap.size ≤ k_)) ho3 (below_size (by repeat (first | (with_reducible first | exact HB.out | apply below_alloc | apply pw_below_drewN | apply below_drew1) | exact HB.out))) (fun k_ h_ => h_)) (below_size (by repeat (first | (with_reducible first | exact HB.out | apply below_alloc | apply pw_below_drewN | apply below_drew1) | exact HB.out)))); have n2_ := Aside0.mk (below_step (by repeat (first | (with_reducible first | exact HB.out | apply below_alloc | apply pw_below_drewN | apply below_drew1) | exact HB.out)) hb); clear HO0; clear HB; have HO0 := n0_; have HO254 := n1_; have HB := n2_; clear n0_ n1_ n2_; clear hb ho3))
  go_loopg [3, 4] k (fun kq v3 v4 w' => ∃ (x3_1 : List Int) (x4_1 : List Int), Aside0 (spec_Stored.l0 kq l0 x3_1 x4_1 = some r) ∧ Aside0 (kq ≤ k) ∧ Aside0 (Kd.V (Kd.int .u8) 5 w' w.heap.size (fun k_ => (P0_ k_ ∨ w.heap.size ≤ k_) ∧ some k_ ≠ (v3 : Value).ownBlock) (.slice A0 l0.length c0) l0) ∧ Aside0 (Kd.R (Kd.int .u8) 5 w' w.heap.size (fun k_ => (w.heap.size ≤ k_)) v3 x3_1) ∧ Aside0 (Kd.V (Kd.int .u8) 5 w' w.heap.size (fun k_ => (P0_ k_ ∨ w.heap.size ≤ k_) ∧ some k_ ≠ (v3 : Value).ownBlock) v4 x4_1) ∧ Aside0 (Below w.heap.size w w'))
  case atStart => exact ⟨(y252), (l0), H', ⟨Nat.le_refl _⟩, ⟨by (with_reducible repeat (first | apply Kd.V_alloc | apply Kd.V_drewN | apply Kd.V_drew)); exact HO0.out⟩, ⟨by (with_reducible repeat (first | apply Kd.R_alloc | apply Kd.R_drewN | apply Kd.R_drew)); exact Kd.R_mono HO254.out (fun _ hk => hk.1)⟩, ⟨by (with_reducible repeat (first | apply Kd.V_alloc | apply Kd.V_drewN | apply Kd.V_drew)); exact HO0.out⟩, ⟨by repeat (first | (with_reducible first | exact HB.out | apply below_alloc | apply pw_below_drewN | apply below_drew1) | exact HB.out)⟩⟩
  case round =>
    clear H'
    try clear c2
    try clear p2
    obtain ⟨x3_1, x4_1, HA, HK1, HO_0, HO_3, HO_4, HB⟩ := hrel
    cases gk with
    | zero => exact absurd HA.out (by simp [spec_Stored.l0])
    | succ k1 =>
      have H := HA.out
      clear HA
      simp only [spec_Stored.l0] at H
      obtain ⟨ji4, hji4⟩ : ∃ j_ : Int, (mn (x4_1.length : Int) 65535) = j_ := ⟨_, rfl⟩
      replace H : (if (ji4) = (x4_1.length : Int) then (spec_Stored.j1 k1 l0 x3_1 x4_1 ji4 1) else (spec_Stored.j1 k1 l0 x3_1 x4_1 ji4 0)) = some r := by first | (rw [hji4] at H; exact H) | (simp only [hji4] at H ⊢; exact H)
      have hji4_ : (if 65535 < (x4_1.length : Int) then 65535 else (x4_1.length : Int)) = ji4 := hji4
      have HC5 := Aside0.mk H
      clear H
      obtain ⟨Ao6, co6, eo6⟩ := Kd.V_slice HO_4.out
      subst eo6
      go_upto_if 15 with (fail)
      go_cut [6] (fun v6 wc => ∃ (kq : Nat) (x6_4 : Int), v6 = .int .u8 x6_4 ∧ Aside0 (spec_Stored.j1 kq l0 x3_1 x4_1 ji4 x6_4 = some r) ∧ Aside0 (kq ≤ k1) ∧ Aside0 (Kd.V (Kd.int .u8) 5 wc w.heap.size (fun k_ => (P0_ k_ ∨ w.heap.size ≤ k_) ∧ some k_ ≠ (u3 : Value).ownBlock) (.slice A0 l0.length c0) l0) ∧ Aside0 (Kd.R (Kd.int .u8) 5 wc w.heap.size (fun k_ => (w.heap.size ≤ k_)) u3 x3_1) ∧ Aside0 (Kd.V (Kd.int .u8) 5 wc w.heap.size (fun k_ => (P0_ k_ ∨ w.heap.size ≤ k_) ∧ some k_ ≠ (u3 : Value).ownBlock) (.slice Ao6 x4_1.length co6) x4_1) ∧ Aside0 (Below w.heap.size w wc))
      case first =>
        have H := HC5.out
        clear HC5
        by_cases c7 : (ji4) = (x4_1.length : Int)
        · rw [if_pos c7] at H
          have c7b0 : ((ji4) == (x4_1.length : Int)) = true := beq_iff_eq.mpr c7
          have c7b1 : ((ji4) != (x4_1.length : Int)) = false := bne_eq_false_iff_eq.mpr c7
          clear c7
          (first | rw [c7b0] | (simp only [i64_w, i32_w]; rw [c7b0]) | skip)
          have H' := Aside0.mk H
          clear H
          go_wp2
          go_meet
          case rel => exact ⟨_, (1), (by first | rfl | (simp; done) | (simp [*]; done)), H', ⟨by have := HK1.out; first | omega | exact Nat.le_refl _⟩, ⟨by (with_reducible repeat (first | apply Kd.V_alloc | apply Kd.V_drewN | apply Kd.V_drew)); exact HO_0.out⟩, ⟨by (with_reducible repeat (first | apply Kd.R_alloc | apply Kd.R_drewN | apply Kd.R_drew)); exact HO_3.out⟩, ⟨by (with_reducible repeat (first | apply Kd.V_alloc | apply Kd.V_drewN | apply Kd.V_drew)); exact HO_4.out⟩, ⟨by repeat (first | (with_reducible first | exact HB.out | apply below_alloc | apply pw_below_drewN | apply below_drew1) | exact HB.out)⟩⟩
        · rw [if_neg c7] at H
          have c7b0 : ((ji4) == (x4_1.length : Int)) = false := beq_eq_false_iff_ne.mpr c7
          have c7b1 : ((ji4) != (x4_1.length : Int)) = true := bne_iff_ne.mpr c7
          (first | rw [c7b0] | (simp only [i64_w, i32_w]; rw [c7b0]) | skip)
          have H' := Aside0.mk H
          clear H
          go_wp2
          go_meet
          case rel => exact ⟨_, (0), (by first | rfl | (simp; done) | (simp [*]; done)), H', ⟨by have := HK1.out; first | omega | exact Nat.le_refl _⟩, ⟨by (with_reducible repeat (first | apply Kd.V_alloc | apply Kd.V_drewN | apply Kd.V_drew)); exact HO_0.out⟩, ⟨by (with_reducible repeat (first | apply Kd.R_alloc | apply Kd.R_drewN | apply Kd.R_drew)); exact HO_3.out⟩, ⟨by (with_reducible repeat (first | apply Kd.V_alloc | apply Kd.V_drewN | apply Kd.V_drew)); exact HO_4.out⟩, ⟨by repeat (first | (with_reducible first | exact HB.out | apply below_alloc | apply pw_below_drewN | apply below_drew1) | exact HB.out)⟩⟩
      case rest =>
        clear HC5
        try clear c2
        try clear p2
        try clear c7
        try clear c7b0
        try clear c7b1
        try clear p2
        have HJI := Aside0.mk hji4_
        clear hji4_
        obtain ⟨kq, x6_4, rfl, HA, HJ4, HO_0, HO_3, HO_4, HB⟩ := hcut
        cases kq with
        | zero => exact absurd HA.out (by simp [spec_Stored.j1])
        | succ kj4 =>
          have H := HA.out
          clear HA
          simp only [spec_Stored.j1] at H
          obtain ⟨y255, hy255⟩ : ∃ y_ : List Int, y_ = (([x6_4, (ji4) % 256, (ji4 / 256) % 256, (Go.bits .xor .i64 (-1) ji4) % 256, ((Go.bits .xor .i64 (-1) ji4) / 256) % 256] : List Int)) := ⟨_, rfl⟩
          replace H : (if x3_1.length + y255.length < 140737488355328 then ((some (x3_1 ++ y255 : List Int)).bind fun y258 => (if 0 ≤ ji4 then (if ji4 ≤ (x4_1.length : Int) then ((some (x4_1.take (ji4 : Int).toNat : List Int)).bind fun y261 => (if y258.length + y261.length < 140737488355328 then ((some (y258 ++ y261 : List Int)).bind fun y266 => (if x6_4 = 1 then ((spec_Adler32.f kj4 l0).bind fun t274 => ((spec_Put32.f t274).bind fun t275 => (if y266.length + t275.length < 140737488355328 then (some (y266 ++ t275)) else (none)))) else (spec_Stored.l0 kj4 l0 y266 (x4_1.drop (ji4 : Int).toNat)))) else (none))) else (none)) else (none))) else (none)) = some r := by first | (rw [hy255]; with_reducible exact H) | (have H2_ := (Option.bind_some _ _).symm.trans H; rw [hy255]; with_reducible exact H2_) | (have H2_ := (Option.bind_some _ _).symm.trans H; with_reducible exact H2_) | with_reducible exact H | (rw [hy255]; exact H) | exact H
          have Ny255 := Aside0.mk hy255
          clear hy255
          by_cases c8 : x3_1.length + y255.length < 140737488355328
          · rw [if_pos c8] at H
            have LMc8 := Aside0.mk c8
            clear c8
            obtain ⟨y258, hy258⟩ : ∃ y_ : List Int, y_ = (x3_1 ++ y255) := ⟨_, rfl⟩
            replace H : (if 0 ≤ ji4 then (if ji4 ≤ (x4_1.length : Int) then ((some (x4_1.take (ji4 : Int).toNat : List Int)).bind fun y261 => (if y258.length + y261.length < 140737488355328 then ((some (y258 ++ y261 : List Int)).bind fun y266 => (if x6_4 = 1 then ((spec_Adler32.f kj4 l0).bind fun t274 => ((spec_Put32.f t274).bind fun t275 => (if y266.length + t275.length < 140737488355328 then (some (y266 ++ t275)) else (none)))) else (spec_Stored.l0 kj4 l0 y266 (x4_1.drop (ji4 : Int).toNat)))) else (none))) else (none)) else (none)) = some r := by first | (rw [hy258]; with_reducible exact H) | (have H2_ := (Option.bind_some _ _).symm.trans H; rw [hy258]; with_reducible exact H2_) | (have H2_ := (Option.bind_some _ _).symm.trans H; with_reducible exact H2_) | with_reducible exact H | (rw [hy258]; exact H) | exact H
            have Ny258 := Aside0.mk hy258
            clear hy258
            by_cases c9 : 0 ≤ ji4
            · rw [if_pos c9] at H
              have c9b0 := eq_true c9
              have c9b1 : decide (0 ≤ ji4) = true := decide_eq_true c9
              clear c9
              by_cases c10 : ji4 ≤ (x4_1.length : Int)
              · rw [if_pos c10] at H
                have c10b0 := eq_true c10
                have c10b1 : decide (ji4 ≤ (x4_1.length : Int)) = true := decide_eq_true c10
                clear c10
                obtain ⟨y261, hy261⟩ : ∃ y_ : List Int, y_ = (x4_1.take (ji4 : Int).toNat) := ⟨_, rfl⟩
                replace H : (if y258.length + y261.length < 140737488355328 then ((some (y258 ++ y261 : List Int)).bind fun y266 => (if x6_4 = 1 then ((spec_Adler32.f kj4 l0).bind fun t274 => ((spec_Put32.f t274).bind fun t275 => (if y266.length + t275.length < 140737488355328 then (some (y266 ++ t275)) else (none)))) else (spec_Stored.l0 kj4 l0 y266 (x4_1.drop (ji4 : Int).toNat)))) else (none)) = some r := by first | (rw [hy261]; with_reducible exact H) | (have H2_ := (Option.bind_some _ _).symm.trans H; rw [hy261]; with_reducible exact H2_) | (have H2_ := (Option.bind_some _ _).symm.trans H; with_reducible exact H2_) | with_reducible exact H | (rw [hy261]; exact H) | exact H
                have Ny261 := Aside0.mk hy261
                clear hy261
                by_cases c11 : y258.length + y261.length < 140737488355328
                · rw [if_pos c11] at H
                  have LMc11 := Aside0.mk c11
                  clear c11
                  obtain ⟨y266, hy266⟩ : ∃ y_ : List Int, y_ = (y258 ++ y261) := ⟨_, rfl⟩
                  replace H : (if x6_4 = 1 then ((spec_Adler32.f kj4 l0).bind fun t274 => ((spec_Put32.f t274).bind fun t275 => (if y266.length + t275.length < 140737488355328 then (some (y266 ++ t275)) else (none)))) else (spec_Stored.l0 kj4 l0 y266 (x4_1.drop (ji4 : Int).toNat))) = some r := by first | (rw [hy266]; with_reducible exact H) | (have H2_ := (Option.bind_some _ _).symm.trans H; rw [hy266]; with_reducible exact H2_) | (have H2_ := (Option.bind_some _ _).symm.trans H; with_reducible exact H2_) | with_reducible exact H | (rw [hy266]; exact H) | exact H
                  have Ny266 := Aside0.mk hy266
                  clear hy266
                  have c12b0 := eq_true (of_decide_eq_true (by first | (with_reducible assumption) | assumption) : 0 ≤ ji4)
                  have c13b0 := eq_true (of_decide_eq_true (by first | (with_reducible assumption) | assumption) : ji4 ≤ (x4_1.length : Int))
                  obtain ⟨y269, hy269⟩ : ∃ y_ : List Int, y_ = (x4_1.drop (ji4 : Int).toNat) := ⟨_, rfl⟩
                  replace H : (if x6_4 = 1 then ((spec_Adler32.f kj4 l0).bind fun t274 => ((spec_Put32.f t274).bind fun t275 => (if y266.length + t275.length < 140737488355328 then (some (y266 ++ t275)) else (none)))) else (spec_Stored.l0 kj4 l0 y266 y269)) = some r := by first | (rw [hy269]; with_reducible exact H) | (have H2_ := (Option.bind_some _ _).symm.trans H; rw [hy269]; with_reducible exact H2_) | (have H2_ := (Option.bind_some _ _).symm.trans H; with_reducible exact H2_) | with_reducible exact H | (rw [hy269]; exact H) | exact H
                  have Ny269 := Aside0.mk hy269
                  clear hy269
                  by_cases c14 : x6_4 = 1
                  · rw [if_pos c14] at H
                    have c14b0 : (x6_4 == 1) = true := beq_iff_eq.mpr c14
                    have c14b1 : (x6_4 != 1) = false := bne_eq_false_iff_eq.mpr c14
                    clear c14
                    replace H := Option.bind_eq_some_iff.mp H
                    obtain ⟨t274, A150, H⟩ := H
                    replace H : ((spec_Put32.f t274).bind fun t275 => (if y266.length + t275.length < 140737488355328 then (some (y266 ++ t275)) else (none))) = some r := H
                    have A15 := Aside0.mk A150
                    clear A150
                    replace H := Option.bind_eq_some_iff.mp H
                    obtain ⟨t275, A160, H⟩ := H
                    replace H : (if y266.length + t275.length < 140737488355328 then (some (y266 ++ t275)) else (none)) = some r := H
                    have A16 := Aside0.mk A160
                    clear A160
                    by_cases c17 : y266.length + t275.length < 140737488355328
                    · rw [if_pos c17] at H
                      have LMc17 := Aside0.mk c17
                      clear c17
                      obtain ⟨y278, hy278⟩ : ∃ y_ : List Int, y_ = (y266 ++ t275) := ⟨_, rfl⟩
                      replace H : (some y278) = some r := by first | (rw [hy278]; with_reducible exact H) | (have H2_ := (Option.bind_some _ _).symm.trans H; rw [hy278]; with_reducible exact H2_) | (have H2_ := (Option.bind_some _ _).symm.trans H; with_reducible exact H2_) | with_reducible exact H | (rw [hy278]; exact H) | exact H
                      have Ny278 := Aside0.mk hy278
                      clear hy278
                      obtain rfl := Option.some.inj H
                      go_wp2_with (first | ((with_reducible refine gate_dst (N := 30) rfl ?_); refine Kd.R_lit (Kd.int .u8) _ 5 ?hg (N := 30) ?hd (xs := ([x6_4, (ji4) % 256, (ji4 / 256) % 256, (Go.bits .xor .i64 (-1) ji4) % 256, ((Go.bits .xor .i64 (-1) ji4) / 256) % 256] : List Int)) (inner := [.int .u8 x6_4, .int .u8 ((ji4) % 256), .int .u8 ((ji4 / 256) % 256), .int .u8 ((Go.bits .xor .i64 (-1) ji4) % 256), .int .u8 (((Go.bits .xor .i64 (-1) ji4) / 256) % 256)]) (ok := fun _ => True) (okp := fun _ => True) ?hr ?hp (fun _ hk => hk) trivial (Below.refl _ _) (Nat.le_refl _) (by simp) ?_; (case hd => rfl); (case hg => rfl); (case hr => first | (go_simp; done) | (go_simp; rfl)); (case hp => exact (Reps.one (show Kd.M (Kd.int .u8) _ _ _ x6_4 [.int .u8 x6_4] from rfl) (Reps.one (show Kd.M (Kd.int .u8) _ _ _ ((ji4) % 256) [.int .u8 ((ji4) % 256)] from rfl) (Reps.one (show Kd.M (Kd.int .u8) _ _ _ ((ji4 / 256) % 256) [.int .u8 ((ji4 / 256) % 256)] from rfl) (Reps.one (show Kd.M (Kd.int .u8) _ _ _ ((Go.bits .xor .i64 (-1) ji4) % 256) [.int .u8 ((Go.bits .xor .i64 (-1) ji4) % 256)] from rfl) (Reps.one (show Kd.M (Kd.int .u8) _ _ _ (((Go.bits .xor .i64 (-1) ji4) / 256) % 256) [.int .u8 (((Go.bits .xor .i64 (-1) ji4) / 256) % 256)] from rfl) (Reps.none _ _))))))); intro v256 w18 ho19 hb hg_ hnew_; clear hg_ hnew_; (first | rw [← Ny255.out] at ho19 | (simp only [Int.reduceToNat] at ho19; rw [← Ny255.out] at ho19)); have n0_ := Aside0.mk (Kd.V_elder' (by (with_reducible repeat (first | apply Kd.V_alloc | apply Kd.V_drewN | apply Kd.V_drew)); exact HO_0.out) (Kd.R_base ho19) hb); have n1_ := Aside0.mk (Kd.R_elder' (by (with_reducible repeat (first | apply Kd.R_alloc | apply Kd.R_drewN | apply Kd.R_drew)); exact HO_3.out) (Kd.R_base ho19) hb); have n2_ := Aside0.mk (Kd.V_elder' (by (with_reducible repeat (first | apply Kd.V_alloc | apply Kd.V_drewN | apply Kd.V_drew)); exact HO_4.out) (Kd.R_base ho19) hb); have n3_ := Aside0.mk (Kd.R_lower (Kd.R_new' (Kd.R_newM (M := fun k_ => (w.heap.size ≤ k_)) ho19 (below_size (by repeat (first | (with_reducible first | exact HB.out | apply below_alloc | apply pw_below_drewN | apply below_drew1) | exact HB.out))) (fun k_ h_ => h_)) (Kd.R_lt (by (with_reducible repeat (first | apply Kd.R_alloc | apply Kd.R_drewN | apply Kd.R_drew)); exact HO_3.out))) (below_size (by repeat (first | (with_reducible first | exact HB.out | apply below_alloc | apply pw_below_drewN | apply below_drew1) | exact HB.out)))); have n4_ := Aside0.mk (below_step (by repeat (first | (with_reducible first | exact HB.out | apply below_alloc | apply pw_below_drewN | apply below_drew1) | exact HB.out)) hb); clear HO_0; clear HO_3; clear HO_4; clear HB; have HO_0 := n0_; have HO_3 := n1_; have HO_4 := n2_; have HO257 := n3_; have HB := n4_; clear n0_ n1_ n2_ n3_ n4_; clear hb ho19; obtain ⟨Ao21, co21, eo21⟩ := Kd.R_slice HO257.out; subst eo21) | ((with_reducible refine gate_builtin (b := .append) (xs := #[.tmp 16, .tmp 30]) rfl ?_); at_builtin; refine Kd.R_append_rows (Kd.int .u8) (w0 := w) w.heap.size rfl (.tmp 16) (.tmp 30) 25 5 (.int .u8 0) 1 rfl Tryz.underlying25 info5 rfl (by decide) (by omega) u3 x3_1 y255 _ _ _ (fun k_ => (w.heap.size ≤ k_) ∧ some k_ ≠ (.slice Ao21 y255.length co21 : Value).ownBlock) (fun _ => False) rfl rfl ?aO ?aR (fun _ _ h => h) (fun _ h => h.elim) ?aF ?aB ?aS ?aL ?_; (case aR => repeat (first | exact (Kd.R_reads' HO257.out).2.2 | (with_reducible refine Kd.C_alloc ?_ _) | (with_reducible refine Kd.C_drewN ?_ _) | (with_reducible refine Kd.C_drew ?_))); (case aB => exact (by repeat (first | (with_reducible first | exact HB.out | apply below_alloc | apply pw_below_drewN | apply below_drew1) | exact HB.out))); (case aF => exact (fun k_ hk => ⟨(Nat.le_trans (below_size (by repeat (first | (with_reducible first | exact HB.out | apply below_alloc | apply pw_below_drewN | apply below_drew1) | exact HB.out))) hk), Kd.fresh' (Kd.R_lt (by (with_reducible repeat (first | apply Kd.R_alloc | apply Kd.R_drewN | apply Kd.R_drew)); exact HO257.out)) k_ hk⟩)); (case aO => exact (by (with_reducible repeat (first | apply Kd.R_alloc | apply Kd.R_drewN | apply Kd.R_drew)); exact HO_3.out)); (case aS => exact (below_size (by repeat (first | (with_reducible first | exact HB.out | apply below_alloc | apply pw_below_drewN | apply below_drew1) | exact HB.out)))); (case aL => have := LMc8.out; omega); intro v259 w20 ho hb hg hat; rw [← Ny258.out] at ho; have n0_ := Aside0.mk (Kd.V_afterv (ok := (fun k_ => (P0_ k_ ∨ w.heap.size ≤ k_) ∧ some k_ ≠ (.slice Ao21 y255.length co21 : Value).ownBlock)) (by (with_reducible repeat (first | apply Kd.V_alloc | apply Kd.V_drewN | apply Kd.V_drew)); exact Kd.V_mono HO_0.out (fun _ hk => ⟨⟨hk.1.1, hk.2⟩, hk.1.2⟩)) hg hat); have n1_ := Aside0.mk (Kd.V_afterv (ok := (fun k_ => (P0_ k_ ∨ w.heap.size ≤ k_) ∧ some k_ ≠ (.slice Ao21 y255.length co21 : Value).ownBlock)) (by (with_reducible repeat (first | apply Kd.V_alloc | apply Kd.V_drewN | apply Kd.V_drew)); exact Kd.V_mono HO_4.out (fun _ hk => ⟨⟨hk.1.1, hk.2⟩, hk.1.2⟩)) hg hat); have n2_ := Aside0.mk (Kd.R_after (ok := (fun k_ => (w.heap.size ≤ k_))) (by (with_reducible repeat (first | apply Kd.R_alloc | apply Kd.R_drewN | apply Kd.R_drew)); exact Kd.R_mono HO257.out (fun _ hk => ⟨hk.1.1, hk.2⟩)) hg hat); have n3_ := Aside0.mk (hb); have n4_ := Aside0.mk (ho); clear HO_0; clear HO_4; clear HO257; clear HB; clear HO_3; have HO_0 := n0_; have HO_4 := n1_; have HO257 := n2_; have HB := n3_; have HO260 := n4_; clear n0_ n1_ n2_ n3_ n4_; clear ho hb hg hat; have q22 : (ji4 : Int) ≤ ((x4_1.length : Int) : Int) := of_decide_eq_true (by first | (with_reducible assumption) | assumption); obtain ⟨i022, hi022, _, hsz22, _⟩ := info_parts info5; have hroom22 : x4_1.length ≤ co6 := (Kd.V_reads' HO_4.out).2.1; have hC22 : Kd.F (Kd.int .u8) _ _ Ao6 x4_1.length x4_1 := (Kd.V_at (base := w.heap.size) HO_4.out).2.2; have hcut22 := cut_to (P := Tryz.prog) 25 5 .i64 Tryz.underlying25 hi022 Ao6 x4_1.length co6 ji4 (of_decide_eq_true (by first | (with_reducible assumption) | assumption)) q22 hroom22; have hr22 := Kd.F_take (m := (ji4 : Int).toNat) hC22 (by omega); have hy22 : y261.length = (ji4 : Int).toNat := (by rw [Ny261.out, List.length_take]; omega); rw [← Ny261.out] at hr22; rw [← hy22] at hcut22; have HO265 := Aside0.mk (show Kd.V (Kd.int .u8) 5 _ w.heap.size _ (.slice Ao6 y261.length co6) y261 from Kd.V_mk (by omega) hr22); have HC265 := Aside0.mk (show y261.length ≤ co6 from by omega); clear hr22 hC22 hroom22 hi022 hsz22; have KY22 := Aside0.mk hy22; clear hy22; replace q22 := eq_true q22) | ((with_reducible refine gate_builtin (b := .append) (xs := #[.tmp 32, .tmp 35]) rfl ?_); at_builtin; refine Kd.R_append_rows (Kd.int .u8) (w0 := w) w.heap.size rfl (.tmp 32) (.tmp 35) 25 5 (.int .u8 0) 1 rfl Tryz.underlying25 info5 rfl (by decide) (by omega) v259 y258 y261 _ _ _ (fun k_ => (w.heap.size ≤ k_) ∧ some k_ ≠ (.slice Ao21 y255.length co21 : Value).ownBlock) (fun _ => False) rfl rfl ?aO ?aR (fun _ _ h => h) (fun _ h => h.elim) ?aF ?aB ?aS ?aL ?_; (case aR => repeat (first | exact (Kd.V_reads' HO265.out).2.2 | (with_reducible refine Kd.C_alloc ?_ _) | (with_reducible refine Kd.C_drewN ?_ _) | (with_reducible refine Kd.C_drew ?_))); (case aB => exact (by repeat (first | (with_reducible first | exact HB.out | apply below_alloc | apply pw_below_drewN | apply below_drew1) | exact HB.out))); (case aF => exact (fun k_ hk => ⟨(Nat.le_trans (below_size (by repeat (first | (with_reducible first | exact HB.out | apply below_alloc | apply pw_below_drewN | apply below_drew1) | exact HB.out))) hk), Kd.fresh' (Kd.R_lt (by (with_reducible repeat (first | apply Kd.R_alloc | apply Kd.R_drewN | apply Kd.R_drew)); exact HO257.out)) k_ hk⟩)); (case aO => exact (by (with_reducible repeat (first | apply Kd.R_alloc | apply Kd.R_drewN | apply Kd.R_drew)); exact HO260.out)); (case aS => exact (below_size (by repeat (first | (with_reducible first | exact HB.out | apply below_alloc | apply pw_below_drewN | apply below_drew1) | exact HB.out)))); (case aL => have := LMc11.out; omega); intro v267 w23 ho hb hg hat; rw [← Ny266.out] at ho; have n0_ := Aside0.mk (Kd.V_afterv (ok := (fun k_ => (P0_ k_ ∨ w.heap.size ≤ k_) ∧ some k_ ≠ (.slice Ao21 y255.length co21 : Value).ownBlock)) (by (with_reducible repeat (first | apply Kd.V_alloc | apply Kd.V_drewN | apply Kd.V_drew)); exact HO_0.out) hg hat); have n1_ := Aside0.mk (Kd.V_afterv (ok := (fun k_ => (P0_ k_ ∨ w.heap.size ≤ k_) ∧ some k_ ≠ (.slice Ao21 y255.length co21 : Value).ownBlock)) (by (with_reducible repeat (first | apply Kd.V_alloc | apply Kd.V_drewN | apply Kd.V_drew)); exact HO_4.out) hg hat); have n2_ := Aside0.mk (Kd.R_after (ok := (fun k_ => (w.heap.size ≤ k_))) (by (with_reducible repeat (first | apply Kd.R_alloc | apply Kd.R_drewN | apply Kd.R_drew)); exact HO257.out) hg hat); have n3_ := Aside0.mk (Kd.V_afterv (ok := (fun k_ => (P0_ k_ ∨ w.heap.size ≤ k_) ∧ some k_ ≠ (.slice Ao21 y255.length co21 : Value).ownBlock)) (by (with_reducible repeat (first | apply Kd.V_alloc | apply Kd.V_drewN | apply Kd.V_drew)); exact HO265.out) hg hat); have n4_ := Aside0.mk (hb); have n5_ := Aside0.mk (ho); clear HO_0; clear HO_4; clear HO257; clear HO265; clear HB; clear HO260; have HO_0 := n0_; have HO_4 := n1_; have HO257 := n2_; have HO265 := n3_; have HB := n4_; have HO268 := n5_; clear n0_ n1_ n2_ n3_ n4_ n5_; clear ho hb hg hat; have q24 : (ji4 : Int) ≤ ((x4_1.length : Int) : Int) := of_decide_eq_true (by first | (with_reducible assumption) | assumption); obtain ⟨i024, hi024, _, hsz24, _⟩ := info_parts info5; have hroom24 : x4_1.length ≤ co6 := (Kd.V_reads' HO_4.out).2.1; have hC24 : Kd.F (Kd.int .u8) _ _ Ao6 x4_1.length x4_1 := (Kd.V_at (base := w.heap.size) HO_4.out).2.2; have q024 : (0 : Int) ≤ (ji4 : Int) := of_decide_eq_true (by first | (with_reducible assumption) | assumption); have hcut24 := cut_from (P := Tryz.prog) 25 5 .i64 Tryz.underlying25 hi024 1 hsz24 Ao6 x4_1.length co6 ji4 q024 q24; have hr24 := Kd.F_cut (m := (ji4 : Int).toNat) (c := co6) hC24 (by omega) hroom24; obtain ⟨A24, hA24⟩ : ∃ A1, A1 = (if co6 = (ji4 : Int).toNat then Ao6 else (Ao6 : Option Addr).map (·.add ((ji4 : Int).toNat * 1))) := ⟨_, rfl⟩; obtain ⟨c24, hc24⟩ : ∃ c1, c1 = co6 - (ji4 : Int).toNat := ⟨_, rfl⟩; have hy24 : y269.length = x4_1.length - (ji4 : Int).toNat := (by rw [Ny269.out, List.length_drop] <;> omega); rw [show (x4_1).drop (ji4 : Int).toNat = y269 from Ny269.out.symm] at hr24; replace hr24 : Kd.F (Kd.int .u8) _ _ A24 y269.length y269 := (by rw [hA24]; exact hr24); rw [← hy24, ← hA24, ← hc24] at hcut24; have HO273 := Aside0.mk (show Kd.V (Kd.int .u8) 5 _ w.heap.size _ (.slice A24 y269.length c24) y269 from Kd.V_mk (by rw [hy24, hc24]; exact Nat.sub_le_sub_right hroom24 _) hr24); have HC273 := Aside0.mk (show y269.length ≤ c24 from by rw [hy24, hc24]; exact Nat.sub_le_sub_right hroom24 _); clear hr24 hC24 hroom24 hi024 hsz24 hc24; have KY24 := Aside0.mk hy24; have KA24 := Aside0.mk hA24; clear hy24 hA24; replace q24 := eq_true q24) | ((with_reducible refine gate_callee (f := 42) rfl ?_); refine goesL_ (some 44) rfl rfl Tryz.func42 (by kernel_rfl) rfl #[.slice A0 l0.length c0] rfl (by (try simp only [List.map_toArray, List.map_cons, List.map_nil]); first | done | rfl | (simp only [List.length_drop, List.length_take]; rfl)) ?_; (with_reducible refine (spec_Adler32.calls kj4 _ _ l0 t274 _ ?side1 ?side2 A15.out).mono ?_); (case side1 => repeat (first | exact (Kd.V_reads' HO_0.out).2.2 | (with_reducible refine Kd.C_alloc ?_ _) | (with_reducible refine Kd.C_drewN ?_ _) | (with_reducible refine Kd.C_drew ?_))); (case side2 => exact (Kd.V_reads' HO_0.out).2.1); rintro e w' ⟨rfl, ⟨nd, rfl⟩⟩; refine ⟨_, rfl, ?_⟩) | ((with_reducible refine gate_callee (f := 14) rfl ?_); refine goesL_ (some 45) rfl rfl Tryz.func14 (by kernel_rfl) rfl #[.int .u32 t274] rfl (by (try simp only [List.map_toArray, List.map_cons, List.map_nil]); first | done | rfl | (simp only [List.length_drop, List.length_take]; rfl)) ?_; (with_reducible refine (spec_Put32.calls t274 t275 _ A16.out).mono ?_); rintro e w25 ⟨v276, rfl, ho0, hb⟩; refine ⟨_, rfl, ?_⟩; have n0_ := Aside0.mk (Kd.V_elder' (by (with_reducible repeat (first | apply Kd.V_alloc | apply Kd.V_drewN | apply Kd.V_drew)); exact HO_0.out) (Kd.R_base ho0) hb); have n1_ := Aside0.mk (Kd.V_elder' (by (with_reducible repeat (first | apply Kd.V_alloc | apply Kd.V_drewN | apply Kd.V_drew)); exact HO_4.out) (Kd.R_base ho0) hb); have n2_ := Aside0.mk (Kd.R_elder' (by (with_reducible repeat (first | apply Kd.R_alloc | apply Kd.R_drewN | apply Kd.R_drew)); exact HO257.out) (Kd.R_base ho0) hb); have n3_ := Aside0.mk (Kd.V_elder' (by (with_reducible repeat (first | apply Kd.V_alloc | apply Kd.V_drewN | apply Kd.V_drew)); exact HO265.out) (Kd.R_base ho0) hb); have n4_ := Aside0.mk (Kd.R_elder' (by (with_reducible repeat (first | apply Kd.R_alloc | apply Kd.R_drewN | apply Kd.R_drew)); exact HO268.out) (Kd.R_base ho0) hb); have n5_ := Aside0.mk (Kd.V_elder' (by (with_reducible repeat (first | apply Kd.V_alloc | apply Kd.V_drewN | apply Kd.V_drew)); exact HO273.out) (Kd.R_base ho0) hb); have n6_ := Aside0.mk (Kd.R_lower (Kd.R_new' (Kd.R_new' (Kd.R_newM (M := fun k_ => (w.heap.size ≤ k_)) ho0 (below_size (by repeat (first | (with_reducible first | exact HB.out | apply below_alloc | apply pw_below_drewN | apply below_drew1) | exact HB.out))) (fun k_ h_ => h_)) (Kd.R_lt (by (with_reducible repeat (first | apply Kd.R_alloc | apply Kd.R_drewN | apply Kd.R_drew)); exact HO257.out))) (Kd.R_lt (by (with_reducible repeat (first | apply Kd.R_alloc | apply Kd.R_drewN | apply Kd.R_drew)); exact HO268.out))) (below_size (by repeat (first | (with_reducible first | exact HB.out | apply below_alloc | apply pw_below_drewN | apply below_drew1) | exact HB.out)))); have n7_ := Aside0.mk (below_step (by repeat (first | (with_reducible first | exact HB.out | apply below_alloc | apply pw_below_drewN | apply below_drew1) | exact HB.out)) hb); clear HO_0; clear HO_4; clear HO257; clear HO265; clear HO268; clear HO273; clear HB; have HO_0 := n0_; have HO_4 := n1_; have HO257 := n2_; have HO265 := n3_; have HO268 := n4_; have HO273 := n5_; have HO277 := n6_; have HB := n7_; clear n0_ n1_ n2_ n3_ n4_ n5_ n6_ n7_; (try clear hb); (try clear hb2); (try clear hk); (try clear hi); (try clear ho0); obtain ⟨Ao27, co27, eo27⟩ := Kd.R_slice HO277.out; subst eo27) | ((with_reducible refine gate_builtin (b := .append) (xs := #[.tmp 42, .tmp 45]) rfl ?_); at_builtin; refine Kd.R_append_rows (Kd.int .u8) (w0 := w) w.heap.size rfl (.tmp 42) (.tmp 45) 25 5 (.int .u8 0) 1 rfl Tryz.underlying25 info5 rfl (by decide) (by omega) v267 y266 t275 _ _ _ (fun k_ => (w.heap.size ≤ k_) ∧ some k_ ≠ (.slice Ao21 y255.length co21 : Value).ownBlock ∧ some k_ ≠ (.slice Ao27 t275.length co27 : Value).ownBlock) (fun _ => False) rfl rfl ?aO ?aR (fun _ _ h => h) (fun _ h => h.elim) ?aF ?aB ?aS ?aL ?_; (case aR => repeat (first | exact (Kd.R_reads' HO277.out).2.2 | (with_reducible refine Kd.C_alloc ?_ _) | (with_reducible refine Kd.C_drewN ?_ _) | (with_reducible refine Kd.C_drew ?_))); (case aB => exact (by repeat (first | (with_reducible first | exact HB.out | apply below_alloc | apply pw_below_drewN | apply below_drew1) | exact HB.out))); (case aF => exact (fun k_ hk => ⟨(Nat.le_trans (below_size (by repeat (first | (with_reducible first | exact HB.out | apply below_alloc | apply pw_below_drewN | apply below_drew1) | exact HB.out))) hk), Kd.fresh' (Kd.R_lt (by (with_reducible repeat (first | apply Kd.R_alloc | apply Kd.R_drewN | apply Kd.R_drew)); exact HO257.out)) k_ hk, Kd.fresh' (Kd.R_lt (by (with_reducible repeat (first | apply Kd.R_alloc | apply Kd.R_drewN | apply Kd.R_drew)); exact HO277.out)) k_ hk⟩)); (case aO => exact (by (with_reducible repeat (first | apply Kd.R_alloc | apply Kd.R_drewN | apply Kd.R_drew)); exact Kd.R_mono HO268.out (fun _ hk => ⟨hk.1.1, ⟨hk.1.2, hk.2⟩⟩))); (case aS => exact (below_size (by repeat (first | (with_reducible first | exact HB.out | apply below_alloc | apply pw_below_drewN | apply below_drew1) | exact HB.out)))); (case aL => have := LMc17.out; omega); intro v279 w26 ho hb hg hat; rw [← Ny278.out] at ho; have n0_ := Aside0.mk (Kd.V_afterv (ok := (fun k_ => (P0_ k_ ∨ w.heap.size ≤ k_) ∧ some k_ ≠ (.slice Ao21 y255.length co21 : Value).ownBlock ∧ some k_ ≠ (.slice Ao27 t275.length co27 : Value).ownBlock)) (by (with_reducible repeat (first | apply Kd.V_alloc | apply Kd.V_drewN | apply Kd.V_drew)); exact Kd.V_mono HO_0.out (fun _ hk => ⟨⟨hk.1.1.1, ⟨hk.1.1.2, hk.2⟩⟩, hk.1.2⟩)) hg hat); have n1_ := Aside0.mk (Kd.V_afterv (ok := (fun k_ => (P0_ k_ ∨ w.heap.size ≤ k_) ∧ some k_ ≠ (.slice Ao21 y255.length co21 : Value).ownBlock ∧ some k_ ≠ (.slice Ao27 t275.length co27 : Value).ownBlock)) (by (with_reducible repeat (first | apply Kd.V_alloc | apply Kd.V_drewN | apply Kd.V_drew)); exact Kd.V_mono HO_4.out (fun _ hk => ⟨⟨hk.1.1.1, ⟨hk.1.1.2, hk.2⟩⟩, hk.1.2⟩)) hg hat); have n2_ := Aside0.mk (Kd.R_after (ok := (fun k_ => (w.heap.size ≤ k_) ∧ some k_ ≠ (.slice Ao27 t275.length co27 : Value).ownBlock)) (by (with_reducible repeat (first | apply Kd.R_alloc | apply Kd.R_drewN | apply Kd.R_drew)); exact Kd.R_mono HO257.out (fun _ hk => ⟨⟨hk.1.1, hk.2⟩, hk.1.2⟩)) hg hat); have n3_ := Aside0.mk (Kd.V_afterv (ok := (fun k_ => (P0_ k_ ∨ w.heap.size ≤ k_) ∧ some k_ ≠ (.slice Ao21 y255.length co21 : Value).ownBlock ∧ some k_ ≠ (.slice Ao27 t275.length co27 : Value).ownBlock)) (by (with_reducible repeat (first | apply Kd.V_alloc | apply Kd.V_drewN | apply Kd.V_drew)); exact Kd.V_mono HO265.out (fun _ hk => ⟨⟨hk.1.1.1, ⟨hk.1.1.2, hk.2⟩⟩, hk.1.2⟩)) hg hat); have n4_ := Aside0.mk (Kd.V_afterv (ok := (fun k_ => (P0_ k_ ∨ w.heap.size ≤ k_) ∧ some k_ ≠ (.slice Ao21 y255.length co21 : Value).ownBlock ∧ some k_ ≠ (.slice Ao27 t275.length co27 : Value).ownBlock)) (by (with_reducible repeat (first | apply Kd.V_alloc | apply Kd.V_drewN | apply Kd.V_drew)); exact Kd.V_mono HO273.out (fun _ hk => ⟨⟨hk.1.1.1, ⟨hk.1.1.2, hk.2⟩⟩, hk.1.2⟩)) hg hat); have n5_ := Aside0.mk (Kd.R_after (ok := (fun k_ => (w.heap.size ≤ k_) ∧ some k_ ≠ (.slice Ao21 y255.length co21 : Value).ownBlock)) (by (with_reducible repeat (first | apply Kd.R_alloc | apply Kd.R_drewN | apply Kd.R_drew)); exact Kd.R_mono HO277.out (fun _ hk => ⟨⟨hk.1.1.1, hk.1.2⟩, hk.2⟩)) hg hat); have n6_ := Aside0.mk (hb); have n7_ := Aside0.mk (ho); clear HO_0; clear HO_4; clear HO257; clear HO265; clear HO273; clear HO277; clear HB; clear HO268; have HO_0 := n0_; have HO_4 := n1_; have HO257 := n2_; have HO265 := n3_; have HO273 := n4_; have HO277 := n5_; have HB := n6_; have HO280 := n7_; clear n0_ n1_ n2_ n3_ n4_ n5_ n6_ n7_; clear ho hb hg hat))
                      go_ret
                      exact ⟨_, by first | rfl | (simp [errW_none, errW_some] <;> rfl) | (simp only [← hji4]; first | rfl | (simp [errW_none, errW_some] <;> rfl)) | (simp [*, errW_none, errW_some] <;> rfl), by (with_reducible repeat (first | apply Kd.R_alloc | apply Kd.R_drewN | apply Kd.R_drew)); exact Kd.R_mono HO280.out (fun _ hk => hk.1), by repeat (first | (with_reducible first | exact HB.out | apply below_alloc | apply pw_below_drewN | apply below_drew1) | exact HB.out)⟩
                    · rw [if_neg c17] at H
                      exact absurd H (by simp)
                  · rw [if_neg c14] at H
                    have c14b0 : (x6_4 == 1) = false := beq_eq_false_iff_ne.mpr c14
                    have c14b1 : (x6_4 != 1) = true := bne_iff_ne.mpr c14
                    have H' := Aside0.mk H
                    clear H
                    go_wp2_with (first | ((with_reducible refine gate_dst (N := 30) rfl ?_); refine Kd.R_lit (Kd.int .u8) _ 5 ?hg (N := 30) ?hd (xs := ([x6_4, (ji4) % 256, (ji4 / 256) % 256, (Go.bits .xor .i64 (-1) ji4) % 256, ((Go.bits .xor .i64 (-1) ji4) / 256) % 256] : List Int)) (inner := [.int .u8 x6_4, .int .u8 ((ji4) % 256), .int .u8 ((ji4 / 256) % 256), .int .u8 ((Go.bits .xor .i64 (-1) ji4) % 256), .int .u8 (((Go.bits .xor .i64 (-1) ji4) / 256) % 256)]) (ok := fun _ => True) (okp := fun _ => True) ?hr ?hp (fun _ hk => hk) trivial (Below.refl _ _) (Nat.le_refl _) (by simp) ?_; (case hd => rfl); (case hg => rfl); (case hr => first | (go_simp; done) | (go_simp; rfl)); (case hp => exact (Reps.one (show Kd.M (Kd.int .u8) _ _ _ x6_4 [.int .u8 x6_4] from rfl) (Reps.one (show Kd.M (Kd.int .u8) _ _ _ ((ji4) % 256) [.int .u8 ((ji4) % 256)] from rfl) (Reps.one (show Kd.M (Kd.int .u8) _ _ _ ((ji4 / 256) % 256) [.int .u8 ((ji4 / 256) % 256)] from rfl) (Reps.one (show Kd.M (Kd.int .u8) _ _ _ ((Go.bits .xor .i64 (-1) ji4) % 256) [.int .u8 ((Go.bits .xor .i64 (-1) ji4) % 256)] from rfl) (Reps.one (show Kd.M (Kd.int .u8) _ _ _ (((Go.bits .xor .i64 (-1) ji4) / 256) % 256) [.int .u8 (((Go.bits .xor .i64 (-1) ji4) / 256) % 256)] from rfl) (Reps.none _ _))))))); intro v256 w28 ho29 hb hg_ hnew_; clear hg_ hnew_; (first | rw [← Ny255.out] at ho29 | (simp only [Int.reduceToNat] at ho29; rw [← Ny255.out] at ho29)); have n0_ := Aside0.mk (Kd.V_elder' (by (with_reducible repeat (first | apply Kd.V_alloc | apply Kd.V_drewN | apply Kd.V_drew)); exact HO_0.out) (Kd.R_base ho29) hb); have n1_ := Aside0.mk (Kd.R_elder' (by (with_reducible repeat (first | apply Kd.R_alloc | apply Kd.R_drewN | apply Kd.R_drew)); exact HO_3.out) (Kd.R_base ho29) hb); have n2_ := Aside0.mk (Kd.V_elder' (by (with_reducible repeat (first | apply Kd.V_alloc | apply Kd.V_drewN | apply Kd.V_drew)); exact HO_4.out) (Kd.R_base ho29) hb); have n3_ := Aside0.mk (Kd.R_lower (Kd.R_new' (Kd.R_newM (M := fun k_ => (w.heap.size ≤ k_)) ho29 (below_size (by repeat (first | (with_reducible first | exact HB.out | apply below_alloc | apply pw_below_drewN | apply below_drew1) | exact HB.out))) (fun k_ h_ => h_)) (Kd.R_lt (by (with_reducible repeat (first | apply Kd.R_alloc | apply Kd.R_drewN | apply Kd.R_drew)); exact HO_3.out))) (below_size (by repeat (first | (with_reducible first | exact HB.out | apply below_alloc | apply pw_below_drewN | apply below_drew1) | exact HB.out)))); have n4_ := Aside0.mk (below_step (by repeat (first | (with_reducible first | exact HB.out | apply below_alloc | apply pw_below_drewN | apply below_drew1) | exact HB.out)) hb); clear HO_0; clear HO_3; clear HO_4; clear HB; have HO_0 := n0_; have HO_3 := n1_; have HO_4 := n2_; have HO257 := n3_; have HB := n4_; clear n0_ n1_ n2_ n3_ n4_; clear hb ho29; obtain ⟨Ao31, co31, eo31⟩ := Kd.R_slice HO257.out; subst eo31) | ((with_reducible refine gate_builtin (b := .append) (xs := #[.tmp 16, .tmp 30]) rfl ?_); at_builtin; refine Kd.R_append_rows (Kd.int .u8) (w0 := w) w.heap.size rfl (.tmp 16) (.tmp 30) 25 5 (.int .u8 0) 1 rfl Tryz.underlying25 info5 rfl (by decide) (by omega) u3 x3_1 y255 _ _ _ (fun k_ => (w.heap.size ≤ k_) ∧ some k_ ≠ (.slice Ao31 y255.length co31 : Value).ownBlock) (fun _ => False) rfl rfl ?aO ?aR (fun _ _ h => h) (fun _ h => h.elim) ?aF ?aB ?aS ?aL ?_; (case aR => repeat (first | exact (Kd.R_reads' HO257.out).2.2 | (with_reducible refine Kd.C_alloc ?_ _) | (with_reducible refine Kd.C_drewN ?_ _) | (with_reducible refine Kd.C_drew ?_))); (case aB => exact (by repeat (first | (with_reducible first | exact HB.out | apply below_alloc | apply pw_below_drewN | apply below_drew1) | exact HB.out))); (case aF => exact (fun k_ hk => ⟨(Nat.le_trans (below_size (by repeat (first | (with_reducible first | exact HB.out | apply below_alloc | apply pw_below_drewN | apply below_drew1) | exact HB.out))) hk), Kd.fresh' (Kd.R_lt (by (with_reducible repeat (first | apply Kd.R_alloc | apply Kd.R_drewN | apply Kd.R_drew)); exact HO257.out)) k_ hk⟩)); (case aO => exact (by (with_reducible repeat (first | apply Kd.R_alloc | apply Kd.R_drewN | apply Kd.R_drew)); exact HO_3.out)); (case aS => exact (below_size (by repeat (first | (with_reducible first | exact HB.out | apply below_alloc | apply pw_below_drewN | apply below_drew1) | exact HB.out)))); (case aL => have := LMc8.out; omega); intro v259 w30 ho hb hg hat; rw [← Ny258.out] at ho; have n0_ := Aside0.mk (Kd.V_afterv (ok := (fun k_ => (P0_ k_ ∨ w.heap.size ≤ k_) ∧ some k_ ≠ (.slice Ao31 y255.length co31 : Value).ownBlock)) (by (with_reducible repeat (first | apply Kd.V_alloc | apply Kd.V_drewN | apply Kd.V_drew)); exact Kd.V_mono HO_0.out (fun _ hk => ⟨⟨hk.1.1, hk.2⟩, hk.1.2⟩)) hg hat); have n1_ := Aside0.mk (Kd.V_afterv (ok := (fun k_ => (P0_ k_ ∨ w.heap.size ≤ k_) ∧ some k_ ≠ (.slice Ao31 y255.length co31 : Value).ownBlock)) (by (with_reducible repeat (first | apply Kd.V_alloc | apply Kd.V_drewN | apply Kd.V_drew)); exact Kd.V_mono HO_4.out (fun _ hk => ⟨⟨hk.1.1, hk.2⟩, hk.1.2⟩)) hg hat); have n2_ := Aside0.mk (Kd.R_after (ok := (fun k_ => (w.heap.size ≤ k_))) (by (with_reducible repeat (first | apply Kd.R_alloc | apply Kd.R_drewN | apply Kd.R_drew)); exact Kd.R_mono HO257.out (fun _ hk => ⟨hk.1.1, hk.2⟩)) hg hat); have n3_ := Aside0.mk (hb); have n4_ := Aside0.mk (ho); clear HO_0; clear HO_4; clear HO257; clear HB; clear HO_3; have HO_0 := n0_; have HO_4 := n1_; have HO257 := n2_; have HB := n3_; have HO260 := n4_; clear n0_ n1_ n2_ n3_ n4_; clear ho hb hg hat; have q32 : (ji4 : Int) ≤ ((x4_1.length : Int) : Int) := of_decide_eq_true (by first | (with_reducible assumption) | assumption); obtain ⟨i032, hi032, _, hsz32, _⟩ := info_parts info5; have hroom32 : x4_1.length ≤ co6 := (Kd.V_reads' HO_4.out).2.1; have hC32 : Kd.F (Kd.int .u8) _ _ Ao6 x4_1.length x4_1 := (Kd.V_at (base := w.heap.size) HO_4.out).2.2; have hcut32 := cut_to (P := Tryz.prog) 25 5 .i64 Tryz.underlying25 hi032 Ao6 x4_1.length co6 ji4 (of_decide_eq_true (by first | (with_reducible assumption) | assumption)) q32 hroom32; have hr32 := Kd.F_take (m := (ji4 : Int).toNat) hC32 (by omega); have hy32 : y261.length = (ji4 : Int).toNat := (by rw [Ny261.out, List.length_take]; omega); rw [← Ny261.out] at hr32; rw [← hy32] at hcut32; have HO265 := Aside0.mk (show Kd.V (Kd.int .u8) 5 _ w.heap.size _ (.slice Ao6 y261.length co6) y261 from Kd.V_mk (by omega) hr32); have HC265 := Aside0.mk (show y261.length ≤ co6 from by omega); clear hr32 hC32 hroom32 hi032 hsz32; have KY32 := Aside0.mk hy32; clear hy32; replace q32 := eq_true q32) | ((with_reducible refine gate_builtin (b := .append) (xs := #[.tmp 32, .tmp 35]) rfl ?_); at_builtin; refine Kd.R_append_rows (Kd.int .u8) (w0 := w) w.heap.size rfl (.tmp 32) (.tmp 35) 25 5 (.int .u8 0) 1 rfl Tryz.underlying25 info5 rfl (by decide) (by omega) v259 y258 y261 _ _ _ (fun k_ => (w.heap.size ≤ k_) ∧ some k_ ≠ (.slice Ao31 y255.length co31 : Value).ownBlock) (fun _ => False) rfl rfl ?aO ?aR (fun _ _ h => h) (fun _ h => h.elim) ?aF ?aB ?aS ?aL ?_; (case aR => repeat (first | exact (Kd.V_reads' HO265.out).2.2 | (with_reducible refine Kd.C_alloc ?_ _) | (with_reducible refine Kd.C_drewN ?_ _) | (with_reducible refine Kd.C_drew ?_))); (case aB => exact (by repeat (first | (with_reducible first | exact HB.out | apply below_alloc | apply pw_below_drewN | apply below_drew1) | exact HB.out))); (case aF => exact (fun k_ hk => ⟨(Nat.le_trans (below_size (by repeat (first | (with_reducible first | exact HB.out | apply below_alloc | apply pw_below_drewN | apply below_drew1) | exact HB.out))) hk), Kd.fresh' (Kd.R_lt (by (with_reducible repeat (first | apply Kd.R_alloc | apply Kd.R_drewN | apply Kd.R_drew)); exact HO257.out)) k_ hk⟩)); (case aO => exact (by (with_reducible repeat (first | apply Kd.R_alloc | apply Kd.R_drewN | apply Kd.R_drew)); exact HO260.out)); (case aS => exact (below_size (by repeat (first | (with_reducible first | exact HB.out | apply below_alloc | apply pw_below_drewN | apply below_drew1) | exact HB.out)))); (case aL => have := LMc11.out; omega); intro v267 w33 ho hb hg hat; rw [← Ny266.out] at ho; have n0_ := Aside0.mk (Kd.V_afterv (ok := (fun k_ => (P0_ k_ ∨ w.heap.size ≤ k_) ∧ some k_ ≠ (.slice Ao31 y255.length co31 : Value).ownBlock)) (by (with_reducible repeat (first | apply Kd.V_alloc | apply Kd.V_drewN | apply Kd.V_drew)); exact HO_0.out) hg hat); have n1_ := Aside0.mk (Kd.V_afterv (ok := (fun k_ => (P0_ k_ ∨ w.heap.size ≤ k_) ∧ some k_ ≠ (.slice Ao31 y255.length co31 : Value).ownBlock)) (by (with_reducible repeat (first | apply Kd.V_alloc | apply Kd.V_drewN | apply Kd.V_drew)); exact HO_4.out) hg hat); have n2_ := Aside0.mk (Kd.R_after (ok := (fun k_ => (w.heap.size ≤ k_))) (by (with_reducible repeat (first | apply Kd.R_alloc | apply Kd.R_drewN | apply Kd.R_drew)); exact HO257.out) hg hat); have n3_ := Aside0.mk (Kd.V_afterv (ok := (fun k_ => (P0_ k_ ∨ w.heap.size ≤ k_) ∧ some k_ ≠ (.slice Ao31 y255.length co31 : Value).ownBlock)) (by (with_reducible repeat (first | apply Kd.V_alloc | apply Kd.V_drewN | apply Kd.V_drew)); exact HO265.out) hg hat); have n4_ := Aside0.mk (hb); have n5_ := Aside0.mk (ho); clear HO_0; clear HO_4; clear HO257; clear HO265; clear HB; clear HO260; have HO_0 := n0_; have HO_4 := n1_; have HO257 := n2_; have HO265 := n3_; have HB := n4_; have HO268 := n5_; clear n0_ n1_ n2_ n3_ n4_ n5_; clear ho hb hg hat; have q34 : (ji4 : Int) ≤ ((x4_1.length : Int) : Int) := of_decide_eq_true (by first | (with_reducible assumption) | assumption); obtain ⟨i034, hi034, _, hsz34, _⟩ := info_parts info5; have hroom34 : x4_1.length ≤ co6 := (Kd.V_reads' HO_4.out).2.1; have hC34 : Kd.F (Kd.int .u8) _ _ Ao6 x4_1.length x4_1 := (Kd.V_at (base := w.heap.size) HO_4.out).2.2; have q034 : (0 : Int) ≤ (ji4 : Int) := of_decide_eq_true (by first | (with_reducible assumption) | assumption); have hcut34 := cut_from (P := Tryz.prog) 25 5 .i64 Tryz.underlying25 hi034 1 hsz34 Ao6 x4_1.length co6 ji4 q034 q34; have hr34 := Kd.F_cut (m := (ji4 : Int).toNat) (c := co6) hC34 (by omega) hroom34; obtain ⟨A34, hA34⟩ : ∃ A1, A1 = (if co6 = (ji4 : Int).toNat then Ao6 else (Ao6 : Option Addr).map (·.add ((ji4 : Int).toNat * 1))) := ⟨_, rfl⟩; obtain ⟨c34, hc34⟩ : ∃ c1, c1 = co6 - (ji4 : Int).toNat := ⟨_, rfl⟩; have hy34 : y269.length = x4_1.length - (ji4 : Int).toNat := (by rw [Ny269.out, List.length_drop] <;> omega); rw [show (x4_1).drop (ji4 : Int).toNat = y269 from Ny269.out.symm] at hr34; replace hr34 : Kd.F (Kd.int .u8) _ _ A34 y269.length y269 := (by rw [hA34]; exact hr34); rw [← hy34, ← hA34, ← hc34] at hcut34; have HO273 := Aside0.mk (show Kd.V (Kd.int .u8) 5 _ w.heap.size _ (.slice A34 y269.length c34) y269 from Kd.V_mk (by rw [hy34, hc34]; exact Nat.sub_le_sub_right hroom34 _) hr34); have HC273 := Aside0.mk (show y269.length ≤ c34 from by rw [hy34, hc34]; exact Nat.sub_le_sub_right hroom34 _); clear hr34 hC34 hroom34 hi034 hsz34 hc34; have KY34 := Aside0.mk hy34; have KA34 := Aside0.mk hA34; clear hy34 hA34; replace q34 := eq_true q34))
                    go_roundg kj4
                    case measure => have := HK1.out; have := HJ4.out; omega
                    case rel => exact ⟨(y266), (y269), H', ⟨by have := HK1.out; have := HJ4.out; omega⟩, ⟨by (with_reducible repeat (first | apply Kd.V_alloc | apply Kd.V_drewN | apply Kd.V_drew)); exact Kd.V_mono HO_0.out (fun _ hk => ⟨hk.1.1, hk.2⟩)⟩, ⟨by (with_reducible repeat (first | apply Kd.R_alloc | apply Kd.R_drewN | apply Kd.R_drew)); exact Kd.R_mono HO268.out (fun _ hk => hk.1)⟩, ⟨by (with_reducible repeat (first | apply Kd.V_alloc | apply Kd.V_drewN | apply Kd.V_drew)); exact Kd.V_mono HO273.out (fun _ hk => ⟨hk.1.1, hk.2⟩)⟩, ⟨by repeat (first | (with_reducible first | exact HB.out | apply below_alloc | apply pw_below_drewN | apply below_drew1) | exact HB.out)⟩⟩
                · rw [if_neg c11] at H
                  exact absurd H (by simp)
              · rw [if_neg c10] at H
                exact absurd H (by simp)
            · rw [if_neg c9] at H
              exact absurd H (by simp)
          · rw [if_neg c8] at H
            exact absurd H (by simp)

-- NOT PRINTED: function 21 (spec_Crc32)

-- NOT PRINTED: function 7 (spec_Pack)

-- NOT PRINTED: function 71 (hash_zzSha1_Reset)

-- NOT PRINTED: function 45 (hash_New)

-- NOT PRINTED: function 128 (bufio_Reader_reset)

-- NOT PRINTED: function 125 (bufio_NewReaderSize)

-- NOT PRINTED: function 72 (bufio_NewReader)

-- NOT PRINTED: function 73 (bufio_NewWriterSize)

-- NOT PRINTED: function 79 (bufio_Reader_Reset)

-- NOT PRINTED: function 126 (bufio_Writer_Reset)

-- NOT PRINTED: function 74 (packfile_scannerReader_Reset)

-- NOT PRINTED: function 46 (packfile_newScannerReader)

-- NOT PRINTED: function 47 (io_MultiWriter)

-- NOT PRINTED: function 23 (packfile_NewScanner)

/-- A state of type 133 at block g of W; what its slices lead to came in by w0. -/
def IsS133 (w0 W : World) (g : Nat) (f0 : List Int) (f1 : Int) (f2 : Int) : Prop := ∃ A0 c0, W.heap[g]? = some (.cells #[.slice A0 f0.length c0, .int .i64 f1, .int .i64 f2] 133 (0, 0)) ∧ w0.heap.size ≤ g ∧ Kd.C (Kd.int .u8) w0 A0 f0.length f0
theorem IsS133.grown {w0 W : World} {g : Nat} {f0 : List Int} {f1 : Int} {f2 : Int} {W1 : World} {row : Option Nat} (h : IsS133 w0 W g f0 f1 f2) (hw : W.grownBy W1 row) (hne : some g ≠ row) : IsS133 w0 W1 g f0 f1 f2 := by
  obtain ⟨A0, c0, hb, hg, hr0⟩ := h
  exact ⟨A0, c0, blk_grown hb hw hne, hg, hr0⟩
theorem IsS133.own_neN {w0 W : World} {g : Nat} {f0 : List Int} {f1 : Int} {f2 : Int} {α : Type} {d : Kd α} {e : Nat} {base : Nat} {ok : Nat → Prop} {v : Value} {xs : List α} (h : IsS133 w0 W g f0 f1 f2) (ho : Kd.N d e W base ok v xs) (ht : e ≠ 133) : some g ≠ v.ownBlock := by
  obtain ⟨A0, c0, hb, hg, hr0⟩ := h
  exact Kd.N_ne ho hb ht
theorem IsS133.fresh {w0 W : World} {g : Nat} {f0 : List Int} {f1 : Int} {f2 : Int} (h : IsS133 w0 W g f0 f1 f2) : ∀ k, W.heap.size ≤ k → k ≠ g := by
  obtain ⟨A0, c0, hb, hg, hr0⟩ := h
  exact Kd.freshB hb
theorem IsS133.kept {w0 W : World} {g : Nat} {f0 : List Int} {f1 : Int} {f2 : Int} {W1 : World} {S : Nat → Prop} (h : IsS133 w0 W g f0 f1 f2) (hk : Kept W W1 S) (hne : ¬ S g) : IsS133 w0 W1 g f0 f1 f2 := by
  obtain ⟨A0, c0, hb, hg, hr0⟩ := h
  exact ⟨A0, c0, blk_kept hb hk hne, hg, hr0⟩
theorem IsS133.below {w0 W : World} {g : Nat} {f0 : List Int} {f1 : Int} {f2 : Int} {W1 : World} (h : IsS133 w0 W g f0 f1 f2) (hw : Below W.heap.size W W1) : IsS133 w0 W1 g f0 f1 f2 := h.grown (grown_of_below hw none) (by simp)
theorem IsS133.alloc {w0 W : World} {g : Nat} {f0 : List Int} {f1 : Int} {f2 : Int} (h : IsS133 w0 W g f0 f1 f2) (o : Obj) : IsS133 w0 (W.alloc o) g f0 f1 f2 := h.below (below_alloc (Below.refl _ _) o)
theorem IsS133.drewN {w0 W : World} {g : Nat} {f0 : List Int} {f1 : Int} {f2 : Int} (h : IsS133 w0 W g f0 f1 f2) (m : Nat) : IsS133 w0 (W.drewN m) g f0 f1 f2 := h
theorem IsS133.drew {w0 W : World} {g : Nat} {f0 : List Int} {f1 : Int} {f2 : Int} (h : IsS133 w0 W g f0 f1 f2) : IsS133 w0 W.drew g f0 f1 f2 := h
theorem IsS133.at_ {w0 W : World} {g : Nat} {f0 : List Int} {f1 : Int} {f2 : Int} {w' : World} {m : Nat} (hq : W.drewN m = w') (h : IsS133 w0 W g f0 f1 f2) : IsS133 w0 w' g f0 f1 f2 := by subst hq; exact IsS133.drewN h m
theorem IsS133.apart {w0 W : World} {g : Nat} {f0 : List Int} {f1 : Int} {f2 : Int} {α : Type} {d : Kd α} {e : Nat} {base : Nat} {ok : Nat → Prop} {v : Value} {xs : List α} (h : IsS133 w0 W g f0 f1 f2) (ho : d.R e W base ok v xs) (ht : ∀ q, q ∈ e :: d.E → q ≠ 133) : d.R e W base (fun k => ok k ∧ k ≠ g) v xs := by
  obtain ⟨A0, c0, hb, hg, hr0⟩ := h
  exact Kd.R_types ho hb ht
theorem IsS133.own_ne {w0 W : World} {g : Nat} {f0 : List Int} {f1 : Int} {f2 : Int} {α : Type} {d : Kd α} {e : Nat} {base : Nat} {ok : Nat → Prop} {v : Value} {xs : List α} (h : IsS133 w0 W g f0 f1 f2) (ho : d.R e W base ok v xs) (ht : e ≠ 133) : some g ≠ v.ownBlock := by
  obtain ⟨A0, c0, hb, hg, hr0⟩ := h
  exact Kd.R_ne ho hb ht
theorem IsS133.apartQ {w0 W : World} {g : Nat} {f0 : List Int} {f1 : Int} {f2 : Int} {α : Type} {d : Kd α} {e : Nat} {base : Nat} {ok : Nat → Prop} {v : Value} {xs : List α} (h : IsS133 w0 W g f0 f1 f2) (ho : d.Q e W base ok v xs) (ht : ∀ q, q ∈ e :: d.E → q ≠ 133) : d.Q e W base (fun k => ok k ∧ k ≠ g) v xs := by
  obtain ⟨A0, c0, hb, hg, hr0⟩ := h
  exact Kd.Q_types ho hb ht
theorem IsS133.own_neQ {w0 W : World} {g : Nat} {f0 : List Int} {f1 : Int} {f2 : Int} {α : Type} {d : Kd α} {e : Nat} {base : Nat} {ok : Nat → Prop} {v : Value} {xs : List α} (h : IsS133 w0 W g f0 f1 f2) (ho : d.Q e W base ok v xs) (ht : e ≠ 133) : some g ≠ v.ownBlock := by
  obtain ⟨A0, c0, hb, hg, hr0⟩ := h
  exact Kd.Q_ne ho hb ht
theorem IsS133.apartS {w0 W : World} {g : Nat} {f0 : List Int} {f1 : Int} {f2 : Int} {α : Type} {d : Kd α} {e : Nat} {base : Nat} {ok : Nat → Prop} {v : Value} {xs : List α} (h : IsS133 w0 W g f0 f1 f2) (ho : d.S e W base ok v xs) (ht : ∀ q, q ∈ e :: d.E → q ≠ 133) : d.S e W base (fun k => ok k ∧ k ≠ g) v xs := by
  obtain ⟨A0, c0, hb, hg, hr0⟩ := h
  exact Kd.S_types ho hb ht
theorem IsS133.own_neS {w0 W : World} {g : Nat} {f0 : List Int} {f1 : Int} {f2 : Int} {α : Type} {d : Kd α} {e : Nat} {base : Nat} {ok : Nat → Prop} {v : Value} {xs : List α} (h : IsS133 w0 W g f0 f1 f2) (ho : d.S e W base ok v xs) (ht : e ≠ 133) : some g ≠ v.ownBlock := by
  obtain ⟨A0, c0, hb, hg, hr0⟩ := h
  exact Kd.S_ne ho hb ht
theorem IsS133.lt {w0 W : World} {g : Nat} {f0 : List Int} {f1 : Int} {f2 : Int} (h : IsS133 w0 W g f0 f1 f2) : g < W.heap.size := by
  obtain ⟨A0, c0, hb, hg, hr0⟩ := h
  exact blk_lt hb
theorem IsS133.ge {w0 W : World} {g : Nat} {f0 : List Int} {f1 : Int} {f2 : Int} (h : IsS133 w0 W g f0 f1 f2) : w0.heap.size ≤ g := by
  obtain ⟨A0, c0, hb, hg, hr0⟩ := h
  exact hg
theorem IsS133.ne_blk {w0 W : World} {g : Nat} {f0 : List Int} {f1 : Int} {f2 : Int} {a : Nat} {cs : Array Value} {t : TypeId} {fr : Nat × Nat} (h : IsS133 w0 W g f0 f1 f2) (hb2 : W.heap[a]? = some (.cells cs t fr)) (ht : t ≠ 133) : g ≠ a := by
  obtain ⟨A0, c0, hb, hg, hr0⟩ := h
  rintro rfl
  rw [hb] at hb2
  injection hb2 with hb2
  injection hb2 with _ ht2
  exact ht ht2.symm
theorem IsS133.far {w0 W : World} {g : Nat} {f0 : List Int} {f1 : Int} {f2 : Int} {p : Addr} (h : IsS133 w0 W g f0 f1 f2) (hne : g ≠ p.block) (u : Value) : IsS133 w0 (W.setCell p u) g f0 f1 f2 := by
  obtain ⟨A0, c0, hb, hg, hr0⟩ := h
  exact ⟨A0, c0, blk_far hb hne u, hg, hr0⟩
theorem cellS133_0 {W : World} {g : Nat} {A0 : Option Addr} {c0 : Nat} {f0 : List Int} {f1 : Int} {f2 : Int} (h : W.heap[g]? = some (.cells #[.slice A0 f0.length c0, .int .i64 f1, .int .i64 f2] 133 (0, 0))) : W.cell? ⟨g, 0, none⟩ = some (.slice A0 f0.length c0) := (blk_cell h 0).trans rfl
theorem cellS133_1 {W : World} {g : Nat} {A0 : Option Addr} {c0 : Nat} {f0 : List Int} {f1 : Int} {f2 : Int} (h : W.heap[g]? = some (.cells #[.slice A0 f0.length c0, .int .i64 f1, .int .i64 f2] 133 (0, 0))) : W.cell? ⟨g, 1, none⟩ = some (.int .i64 f1) := (blk_cell h 1).trans rfl
theorem IsS133.set_1 {w0 W : World} {g : Nat} {f0 : List Int} {f1 : Int} {f2 : Int} (h : IsS133 w0 W g f0 f1 f2) (x : Int) : IsS133 w0 (W.setCell ⟨g, 1, none⟩ (.int .i64 x)) g f0 x f2 := by
  obtain ⟨A0, c0, hb, hg, hr0⟩ := h
  exact ⟨A0, c0, by simpa using blk_set hb 1 (.int .i64 x), hg, hr0⟩
theorem cellS133_2 {W : World} {g : Nat} {A0 : Option Addr} {c0 : Nat} {f0 : List Int} {f1 : Int} {f2 : Int} (h : W.heap[g]? = some (.cells #[.slice A0 f0.length c0, .int .i64 f1, .int .i64 f2] 133 (0, 0))) : W.cell? ⟨g, 2, none⟩ = some (.int .i64 f2) := (blk_cell h 2).trans rfl
theorem IsS133.set_2 {w0 W : World} {g : Nat} {f0 : List Int} {f1 : Int} {f2 : Int} (h : IsS133 w0 W g f0 f1 f2) (x : Int) : IsS133 w0 (W.setCell ⟨g, 2, none⟩ (.int .i64 x)) g f0 f1 x := by
  obtain ⟨A0, c0, hb, hg, hr0⟩ := h
  exact ⟨A0, c0, by simpa using blk_set hb 2 (.int .i64 x), hg, hr0⟩
theorem IsS133.new (w0 W : World) (A0 : Option Addr) (c0 : Nat) (f0 : List Int) (f1 : Int) (f2 : Int) (hB : Below w0.heap.size w0 W) (hr0 : Kd.C (Kd.int .u8) w0 A0 f0.length f0) : IsS133 w0 (W.alloc (.cells #[.slice A0 f0.length c0, .int .i64 f1, .int .i64 f2] 133)) W.heap.size f0 f1 f2 := ⟨A0, c0, by simpa using heap_alloc_new W _, hB.size, hr0⟩

/-! ### bytes_NewReader: function 24 -/
def bytes_NewReader.f (l0 : List Int) : Option (List Int × Int × Int) := some (l0, 0, (-1))
set_option maxHeartbeats 8000000 in
set_option maxRecDepth 100000 in
theorem bytes_NewReader.calls (A0 : Option Addr) (c0 : Nat) (l0 : List Int) (r1 : List Int) (r2 : Int) (r3 : Int) (w0 w : World) (hB : Below w0.heap.size w0 w) (hr0 : Kd.C (Kd.int .u8) w0 A0 l0.length l0) (hc0 : l0.length ≤ c0) (h : bytes_NewReader.f l0 = some (r1, r2, r3)) :
    Calls Tryz.prog 24 #[.slice A0 l0.length c0] w fun e w' => ∃ g_ : Nat, e = .returned (.pointer (some ⟨g_, 0, none⟩)) ∧ IsS133 w0 w' g_ r1 r2 r3 ∧ Below w0.heap.size w0 w' ∧ Below w.heap.size w w' := by
  have hu133 := Tryz.underlying133
  have HR0 := Aside0.mk hr0
  have HC0 := Aside0.mk hc0
  clear hr0 hc0
  have HBW := Aside0.mk (Below.refl w.heap.size w)
  have HW0 := Aside0.mk hB.size
  have HB := Aside0.mk hB
  clear hB
  have H : (some (l0, 0, (-1))) = some (r1, r2, r3) := h
  clear h
  simp only [Option.some.injEq, Prod.mk.injEq] at H
  obtain ⟨rfl, rfl, rfl⟩ := H
  go_enter Tryz.func24, Tryz.ntmps24
  go_wp2_with (first | ((with_reducible refine gate_dst (N := 5) rfl ?_); refine box_event ?hg (N := 5) ?hd (cs := #[.slice A0 l0.length c0, .int .i64 0, .int .i64 (-1)]) (t := 133) ?hr ?_; (case hd => rfl); (case hg => rfl); (case hr => first | (go_simp; done) | (go_simp; rfl)); intro gb281 hg w2 hbox hb; have n0_ := Aside0.mk (below_step HBW.out hb); have n1_ := Aside0.mk (below_step (by repeat (first | (with_reducible first | exact HB.out | apply below_alloc | apply pw_below_drewN | apply below_drew1) | exact HB.out)) hb); have n2_ := Aside0.mk (hbox); have n3_ := Aside0.mk ((by rw [hg]; exact (below_size (by repeat (first | (with_reducible first | exact HBW.out | apply below_alloc | apply pw_below_drewN | apply below_drew1) | exact HBW.out))) : w.heap.size ≤ gb281)); have n4_ := Aside0.mk ((Nat.le_trans HW0.out (by rw [hg]; exact (below_size (by repeat (first | (with_reducible first | exact HBW.out | apply below_alloc | apply pw_below_drewN | apply below_drew1) | exact HBW.out))) : w.heap.size ≤ gb281) : w0.heap.size ≤ gb281)); clear HBW; clear HB; have HBW := n0_; have HB := n1_; have BK281 := n2_; have GW281 := n3_; have GE281 := n4_; clear n0_ n1_ n2_ n3_ n4_; clear hb hbox hg))
  go_ret
  exact ⟨_, rfl, (show IsS133 w0 _ gb281 l0 0 (-1) from ⟨_, _, by (with_reducible repeat (first | refine blk_drewN ?_ _ | refine blk_drew ?_ | refine blk_alloc ?_ _)); exact BK281.out, GE281.out, HR0.out⟩), by repeat (first | (with_reducible first | exact HB.out | apply below_alloc | apply pw_below_drewN | apply below_drew1 | refine below_set ?_ GE281.out) | exact HB.out), by repeat (first | (with_reducible first | exact HBW.out | apply below_alloc | apply pw_below_drewN | apply below_drew1 | refine below_set ?_ GW281.out) | exact HBW.out)⟩

-- NOT PRINTED: function 127 (io_ReadAtLeast)

-- NOT PRINTED: function 75 (io_ReadFull)

-- NOT PRINTED: function 48 (packfile_Scanner_readSignature)

/-! ### bytes_Equal: function 76 -/
def bytes_Equal.f (l0 : List Int) (l1 : List Int) : Option (Bool) := some ((strOfNums l0).toList == (strOfNums l1).toList)
set_option maxHeartbeats 8000000 in
set_option maxRecDepth 100000 in
theorem bytes_Equal.calls (A0 : Option Addr) (c0 : Nat) (l0 : List Int) (A1 : Option Addr) (c1 : Nat) (l1 : List Int) (r : Bool) (w : World) (hr0 : Kd.C (Kd.int .u8) w A0 l0.length l0) (hc0 : l0.length ≤ c0) (hr1 : Kd.C (Kd.int .u8) w A1 l1.length l1) (hc1 : l1.length ≤ c1) (h : bytes_Equal.f l0 l1 = some r) :
    Calls Tryz.prog 76 #[.slice A0 l0.length c0, .slice A1 l1.length c1] w fun e w' => e = .returned (.bool r) ∧ Drawn0 w w' := by
  have HR0 := Aside0.mk hr0
  have HC0 := Aside0.mk hc0
  clear hr0 hc0
  have HR1 := Aside0.mk hr1
  have HC1 := Aside0.mk hc1
  clear hr1 hc1
  have H : (some ((strOfNums l0).toList == (strOfNums l1).toList)) = some r := h
  clear h
  obtain rfl := Option.some.inj H
  have hcv3 := Kd.C_string (P := Tryz.prog) (A := A0) (c := c0) Tryz.underlying25 Tryz.underlying5 Tryz.underlying9 HR0.out
  have hcv4 := Kd.C_string (P := Tryz.prog) (A := A1) (c := c1) Tryz.underlying25 Tryz.underlying5 Tryz.underlying9 HR1.out
  go_enter Tryz.func76, Tryz.ntmps76
  go_wp2
  go_ret
  exact ⟨by first | rfl | (simp; done) | (simp [*]; done), by repeat (first | exact Drawn0.refl _ | apply Drawn0.step)⟩

/-! ### packfile_signature: function 77 -/
def packfile_signature.f  : Option (List Int) := some (([80, 65, 67, 75] : List Int))
set_option maxHeartbeats 8000000 in
set_option maxRecDepth 100000 in
theorem packfile_signature.calls  (r : List Int) (w : World) (h : packfile_signature.f  = some r) :
    Calls Tryz.prog 77 #[] w fun e w' => ∃ v0_ : Value, e = .returned (v0_) ∧ Kd.R (Kd.int .u8) 5 w' w.heap.size (fun _ => True) v0_ r ∧ Below w.heap.size w w' := by
  have HB := Aside0.mk (Below.refl w.heap.size w)
  have H : (some (([80, 65, 67, 75] : List Int))) = some r := h
  clear h
  obtain ⟨y282, hy282⟩ : ∃ y_ : List Int, y_ = (([80, 65, 67, 75] : List Int)) := ⟨_, rfl⟩
  replace H : (some y282) = some r := by first | (rw [hy282]; with_reducible exact H) | (have H2_ := (Option.bind_some _ _).symm.trans H; rw [hy282]; with_reducible exact H2_) | (have H2_ := (Option.bind_some _ _).symm.trans H; with_reducible exact H2_) | with_reducible exact H | (rw [hy282]; exact H) | exact H
  have Ny282 := Aside0.mk hy282
  clear hy282
  obtain rfl := Option.some.inj H
  go_enter Tryz.func77, Tryz.ntmps77
  go_wp2_with (first | ((with_reducible refine gate_dst (N := 1) rfl ?_); refine Kd.R_lit (Kd.int .u8) _ 5 ?hg (N := 1) ?hd (xs := ([80, 65, 67, 75] : List Int)) (inner := [.int .u8 80, .int .u8 65, .int .u8 67, .int .u8 75]) (ok := fun _ => True) (okp := fun _ => True) ?hr ?hp (fun _ hk => hk) trivial (Below.refl _ _) (Nat.le_refl _) (by simp) ?_; (case hd => rfl); (case hg => rfl); (case hr => first | (go_simp; done) | (go_simp; rfl)); (case hp => exact (Reps.one (show Kd.M (Kd.int .u8) _ _ _ 80 [.int .u8 80] from rfl) (Reps.one (show Kd.M (Kd.int .u8) _ _ _ 65 [.int .u8 65] from rfl) (Reps.one (show Kd.M (Kd.int .u8) _ _ _ 67 [.int .u8 67] from rfl) (Reps.one (show Kd.M (Kd.int .u8) _ _ _ 75 [.int .u8 75] from rfl) (Reps.none _ _)))))); intro v283 w1 ho2 hb hg_ hnew_; clear hg_ hnew_; (first | rw [← Ny282.out] at ho2 | (simp only [Int.reduceToNat] at ho2; rw [← Ny282.out] at ho2)); have n0_ := Aside0.mk (Kd.R_lower ho2 (below_size (by repeat (first | (with_reducible first | exact HB.out | apply below_alloc | apply pw_below_drewN | apply below_drew1) | exact HB.out)))); have n1_ := Aside0.mk (below_step (by repeat (first | (with_reducible first | exact HB.out | apply below_alloc | apply pw_below_drewN | apply below_drew1) | exact HB.out)) hb); clear HB; have HO284 := n0_; have HB := n1_; clear n0_ n1_; clear hb ho2))
  go_ret
  exact ⟨_, by first | rfl | (simp [errW_none, errW_some] <;> rfl) | (simp [*, errW_none, errW_some] <;> rfl), by (with_reducible repeat (first | apply Kd.R_alloc | apply Kd.R_drewN | apply Kd.R_drew)); exact HO284.out, by repeat (first | (with_reducible first | exact HB.out | apply below_alloc | apply pw_below_drewN | apply below_drew1) | exact HB.out)⟩

-- NOT PRINTED: function 49 (packfile_Scanner_isValidSignature)

-- NOT PRINTED: function 84 (errors_New)

-- NOT PRINTED: function 134 (binary_zzBig)

-- NOT PRINTED: function 92 (binary_zzRead)

-- NOT PRINTED: function 78 (binary_ReadUint32)

-- NOT PRINTED: function 50 (packfile_Scanner_readVersion)

-- NOT PRINTED: function 51 (packfile_Scanner_isSupportedVersion)

-- NOT PRINTED: function 52 (packfile_Scanner_readCount)

-- NOT PRINTED: function 25 (packfile_Scanner_Header)

-- NOT PRINTED: function 187 (binary_bigEndian_Uint16)

-- NOT PRINTED: function 188 (binary_bigEndian_Uint32)

end Go.Proofs.YtohdpnoinfnmiaaGreatDoor.PFnPackOther
