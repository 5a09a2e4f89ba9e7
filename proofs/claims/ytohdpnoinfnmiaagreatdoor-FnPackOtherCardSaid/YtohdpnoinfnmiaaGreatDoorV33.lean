/- spec.Objects: the walk. -/
import Derived.Test.YtohdpnoinfnmiaaGreatDoorV32
namespace Go.Proofs.YtohdpnoinfnmiaaGreatDoor
open Go.RowKit U
open Go.Proofs.YtohdpnoinfnmiaaGreatDoorW.PrintWords (Aside0 Kd nums Drawn0 ReadsInt nums_append below_then pw_below_drewN below_alloc add_plain)
open Go.Proofs.YtohdpnoinfnmiaaGreatDoorW.PrintMore
open PFnPackOther
theorem info50 : (Tryz.prog.info? 50).map (fun i => (i.zero, i.size, i.bytes)) = some (some (.agg #[.int .i64 0, .slice none 0 0]), 2, 32) := by kernel_rfl
theorem f34_any (A0 : Option Addr) (c0 : Nat) (st : List S105) (A1 : Option Addr) (c1 : Nat) (base : List Int) (w : World) (hr0 : Kd.C k105 w A0 st.length st) (hc0 : st.length ≤ c0) (hr1 : Kd.C (Kd.int .u8) w A1 base.length base) (hc1 : base.length ≤ c1) :
    Calls Tryz.prog 34 #[.slice A0 st.length c0, .slice A1 base.length c1] w fun e w' => e = .returned (.bool (goodS st base)) ∧ Upd [] w w' := by
  obtain ⟨k, hk⟩ := goodS_ev st base (Kd.C_max hr0)
  exact (spec_GoodSteps.calls k A0 c0 st A1 c1 base _ w hr0 hc0 hr1 hc1 hk).mono fun _ _ h => ⟨h.1, .of_below h.2 []⟩
theorem f35_any (A0 : Option Addr) (c0 : Nat) (base : List Int) (A1 : Option Addr) (c1 : Nat) (st : List S105) (w : World) (hr0 : Kd.C (Kd.int .u8) w A0 base.length base) (hc0 : base.length ≤ c0) (hr1 : Kd.C k105 w A1 st.length st) (hc1 : st.length ≤ c1) (hg : goodS st base = true) :
    Calls Tryz.prog 35 #[.slice A0 base.length c0, .slice A1 st.length c1] w fun e w' => ∃ A c, e = .returned (.slice A (madeL base st).length c) ∧ (madeL base st).length ≤ c ∧ Kd.F (Kd.int .u8) w' (fun k => w.heap.size ≤ k) A (madeL base st).length (madeL base st) ∧ Upd [] w w' := by
  obtain ⟨k, hk⟩ := (madeL_ev base st hg).rounds
  refine (spec_Made.calls k A0 c0 base A1 c1 st _ w hr0 hc0 hr1 hc1 hk).mono ?_
  rintro e w' ⟨v, rfl, hR, hB⟩
  obtain ⟨A, c, rfl⟩ := Kd.R_slice hR
  exact ⟨A, c, rfl, (Kd.R_reads' hR).2.1, Kd.F_mono (Kd.R_F (Kd.R_bound hR)) (fun k hk => hk.2.1), .of_below hB []⟩
theorem f34_eq (A0 : Option Addr) (c0 : Nat) (st : List S105) (A1 : Option Addr) (c1 : Nat) (base : List Int) (w : World) (hr0 : Kd.C k105 w A0 st.length st) (hc0 : st.length ≤ c0) (hr1 : Kd.C (Kd.int .u8) w A1 base.length base) (hc1 : base.length ≤ c1) (b : Bool) (hb : goodS st base = b) :
    Calls Tryz.prog 34 #[.slice A0 st.length c0, .slice A1 base.length c1] w fun e w' => e = .returned (.bool b) ∧ Upd [] w w' := by
  subst hb
  exact f34_any A0 c0 st A1 c1 base w hr0 hc0 hr1 hc1
theorem cell_upd0 {w w' : World} {a : Addr} {v : Value} (h : w.cell? a = some v) (u : Upd [] w w') : w'.cell? a = some v := (u.to_below.cell (World.block_lt_of_cell? w _ h)).trans h
theorem cell_drew {w : World} {a : Addr} {v : Value} (h : w.cell? a = some v) : w.drew.cell? a = some v := h
/-- The objects so far. -/
structure Objs (w0 w : World) (v : Value) (os : List S50) : Prop where
  row : Kd.N k50 50 w w0.heap.size (fun _ => True) v os
  below : Below w0.heap.size w0 w
theorem objs_append {ops : Array Oper} {rest : List Oper} {o : Oper} {a : Act} {Q : Exit → Act → World → Prop} {w0 W : World} (hgd : o.guard = none) (s x : Operand)
    (ho : o.op = .call { callee := .builtin .append, args := #[s, x], argTypes := #[41, 41] })
    (v : Value) (os : List S50) (kd : Int) (txt : List Int) (A1 : Option Addr) (c1 : Nat) (okp : Nat → Prop) (Sz : Nat) (hS : W.heap.size = Sz) (hs : a.eval s = v) (hx : a.eval x = .slice (some ⟨Sz, 0, none⟩) 1 1)
    (HO : Objs w0 W v os) (hF : Kd.F (Kd.int .u8) W okp A1 txt.length txt) (hl1 : txt.length ≤ c1) (hokp : ∀ k, okp k → some k ≠ v.ownBlock) (hn : os.length ≤ 2147483647)
    (h : ∀ v1 w1, Objs w0 w1 v1 (os ++ [⟨kd, txt⟩]) → wpList Tryz.prog ops Q rest (a.put o.dst v1) w1) :
    wpList Tryz.prog ops Q (o :: rest) a (W.alloc (.cells #[.int .i64 kd, .slice A1 txt.length c1] 50)) := by
  subst hS
  exact Kd.N_append k50 (w0 := w0) (W := W) w0.heap.size hgd s x 41 50 (.agg #[.int .i64 0, .slice none 0 0]) 32 ho Tryz.underlying41 info50 (by rfl) (by decide) (by omega) v os ⟨kd, txt⟩
    [.int .i64 kd, .slice A1 txt.length c1] (fun _ => True) okp hs hx (k50_mkF W okp ⟨kd, txt⟩ hl1 hF) (fun k hk => ⟨trivial, hokp k hk⟩) (fun _ _ => trivial) HO.row HO.below HO.below.size (by omega)
    (fun v1 w1 h1 h2 _ _ => h v1 w1 ⟨h1, h2⟩)
theorem below_alloc' {w W : World} (h : Below w.heap.size w W) (o : Obj) : Below w.heap.size w (W.alloc o) := below_alloc h o
theorem Objs.upd {w0 w w' : World} {v : Value} {os : List S50} (h : Objs w0 w v os) (u : Upd [] w w') : Objs w0 w' v os := ⟨Kd.N_below h.row u.to_below, below_then h.below h.below.size u.to_below⟩
theorem Objs.alloc {w0 w : World} {v : Value} {os : List S50} (h : Objs w0 w v os) (o : Obj) : Objs w0 (w.alloc o) v os := ⟨Kd.N_alloc h.row o, below_alloc' h.below o⟩
set_option maxHeartbeats 16000000 in
set_option maxRecDepth 100000 in
theorem f11_any (A0 : Option Addr) (c0 : Nat) (l0 : List S39) (w : World) (hr0 : Kd.C k39 w A0 l0.length l0) (hl0 : l0.length ≤ 2147483647) :
    Calls Tryz.prog 11 #[.slice A0 l0.length c0] w fun e w' =>
      (objsFrom [] l0 = none ∧ e = .returned (.tuple #[.slice none 0 0, .bool false]) ∧ Upd [] w w') ∨ (∃ os v, objsFrom [] l0 = some os ∧ e = .returned (.tuple #[v, .bool true]) ∧ Objs w w' v os) := by
  have HR0 := Aside0.mk hr0
  have HL := Aside0.mk hl0
  have hl1 : (l0.length : Int) ≤ 2147483647 := by omega
  clear hr0 hl0
  go_enter Tryz.func11, Tryz.ntmps11
  go_wp2
  go_loopw [4, 10] (fun v4 v10 wr => ∃ (k : Nat) (os : List S50), v10 = .int .i64 k ∧ k ≤ l0.length ∧ Aside0 (os.length = k) ∧ Aside0 (objsFrom [] l0 = objsFrom os (l0.drop k)) ∧ Aside0 (∀ x ∈ os, okO x) ∧ Aside0 (Objs w wr v4 os)) (fun _ v10 _ => l0.length - (intOf v10).toNat)
  case atStart => exact ⟨0, [], rfl, by omega, ⟨rfl⟩, ⟨rfl⟩, ⟨by simp⟩, ⟨Kd.N_nil _ _ _ _ _, Below.refl _ _⟩⟩
  case round =>
    obtain ⟨k, os, rfl, hk, HK, HE, HOK, HO⟩ := hrel
    by_cases hkl : (k : Int) < (l0.length : Int)
    · obtain ⟨ad, A1, c1, A3, c3, e, q0, q1, q2, q3, l1, g1, l3, g3⟩ := at_T39 HR0.out (k : Int) (by omega) hkl
      cases e
      have hbl := HO.out.below
      replace q0 := (hbl.cell (World.block_lt_of_cell? w _ q0)).trans q0
      replace q1 := (hbl.cell (World.block_lt_of_cell? w _ q1)).trans q1
      replace q2 := (hbl.cell (World.block_lt_of_cell? w _ q2)).trans q2
      replace q3 := (hbl.cell (World.block_lt_of_cell? w _ q3)).trans q3
      have hdr := rd_drop39 l0 k (by omega)
      have HE2 := Aside0.mk (show objsFrom [] l0 = objsFrom os (rd_T39 l0 k :: l0.drop (k + 1)) by rw [← hdr]; exact HE.out)
      have L1 := Aside0.mk l1
      have L3 := Aside0.mk l3
      have G1 := Aside0.mk g1
      have G3 := Aside0.mk g3
      simp only [Int.toNat_natCast] at q0 q1 q2 q3
      generalize hed : rd_T39 l0 k = ed at *
      clear hbl HE l1 l3 g1 g3 hdr hed
      by_cases hA : 1 ≤ ed.f0 ∧ ed.f0 ≤ 4
      · by_cases hA1 : ed.f1.length > 1000000
        · have hn : stepO os ed = none := by unfold stepO; rw [if_pos hA, if_pos hA1]
          have HN := Aside0.mk hn
          clear hn
          have hc : ed.f0 = 1 ∨ ed.f0 = 2 ∨ ed.f0 = 3 ∨ ed.f0 = 4 := by omega
          have hA1' : (1000000 : Int) < (ed.f1.length : Int) := by omega
          clear hA hA1
          rcases hc with hc | hc | hc | hc
          all_goals
            rw [hc] at q0
            go_wp2
            go_ret2
            exact .inl ⟨HE2.out.trans (objs_none HN.out), rfl, (Upd.of_below HO.out.below []).alloc _⟩
        · have hn : stepO os ed = some ⟨ed.f0, ed.f1⟩ := by unfold stepO; rw [if_pos hA, if_neg hA1]
          have HN := Aside0.mk hn
          have HA := Aside0.mk hA
          clear hn
          have hc : ed.f0 = 1 ∨ ed.f0 = 2 ∨ ed.f0 = 3 ∨ ed.f0 = 4 := by omega
          have hA1' : (ed.f1.length : Int) ≤ 1000000 := by omega
          clear hA hA1
          have hF0 := Kd.F_below (Kd.C_F (Kd.heap_int .u8) G1.out) HO.out.below
          have hok0 : ∀ k, k < w.heap.size → some k ≠ u4.ownBlock := fun k hk e => by have := Kd.N_base HO.out.row k e.symm; omega
          have HF0 := Aside0.mk hF0
          have HK0 := Aside0.mk hok0
          clear hF0 hok0
          rcases hc with hc | hc | hc | hc
          all_goals
            have q0' := q0
            rw [hc] at q0'
            clear q0
            go_wp2_with (at_builtin; refine Held1.out ?_)
            refine Held1.mk ?_
            refine objs_append (w0 := w) (by rfl) _ _ (by rfl) u4 os _ ed.f1 A1 c1 _ _ ?hS (by rfl) (by rfl) (HO.out.alloc _) (Kd.F_alloc HF0.out _) L1.out HK0.out (by have := HK.out; omega) ?_
            case hS => simp
            intro v5 w5 hO5
            have HO5 := Aside0.mk hO5
            rw [hc] at HN
            clear hO5 HO q1 q2 q3
            go_wp2
            exact ⟨⟨k + 1, _, by simp, by omega, ⟨by have := HK.out; simp; omega⟩, ⟨HE2.out.trans (objs_some HN.out)⟩, ⟨fun x hx => by
              rcases List.mem_append.1 hx with hx | hx
              · exact HOK.out x hx
              · simp only [List.mem_singleton] at hx
                subst hx
                exact stepO_ok HOK.out HN.out⟩, HO5⟩, by simp [intOf]; omega⟩
      · by_cases hB : ed.f0 = 6 ∨ ed.f0 = 7
        · obtain ⟨e0, t1, e2, st⟩ := ed
          have hA0 : ¬ (1 ≤ e0 ∧ e0 ≤ 4) := hA
          have hB0 : e0 = 6 ∨ e0 = 7 := hB
          have p0 : wr.cell? (ad.add (k * 4)) = some (.int .i64 e0) := q0
          have p1 : wr.cell? ⟨(ad.add (k * 4)).block, (ad.add (k * 4)).off + 1, none⟩ = some (.slice A1 t1.length c1) := q1
          have p2 : wr.cell? ⟨(ad.add (k * 4)).block, (ad.add (k * 4)).off + 2, none⟩ = some (.int .i64 e2) := q2
          have p3 : wr.cell? ⟨(ad.add (k * 4)).block, (ad.add (k * 4)).off + 3, none⟩ = some (.slice A3 st.length c3) := q3
          clear q0 q1 q2 q3 hA hB
          have HU := Aside0.mk (And.intro hA0 hB0)
          clear hA0
          by_cases hb1 : e2 < 0
          · have hn : stepO os ⟨e0, t1, e2, st⟩ = none := by
              unfold stepO
              rw [if_neg HU.out.1, if_pos HU.out.2, if_pos (.inl hb1)]
            have HN := Aside0.mk hn
            clear hn
            rcases hB0 with rfl | rfl
            all_goals
              go_wp2
              go_quiet (fail)
              go_wp2
              go_ret2
              exact .inl ⟨HE2.out.trans (objs_none HN.out), rfl, ((Upd.of_below HO.out.below []).alloc _).drewN _⟩
          · by_cases hb2 : (k : Int) ≤ e2
            · have hn : stepO os ⟨e0, t1, e2, st⟩ = none := by
                unfold stepO
                rw [if_neg HU.out.1, if_pos HU.out.2, if_pos (.inr (by have := HK.out; simp only []; omega))]
              have HN := Aside0.mk hn
              have hd1 : decide (e2 < 0) = false := decide_eq_false hb1
              have hd2 : decide ((k : Int) ≤ e2) = true := decide_eq_true hb2
              clear hn hb1 hb2
              rcases hB0 with rfl | rfl
              all_goals
                go_wp2
                go_quiet (fail)
                go_wp2
                go_ret2
                exact .inl ⟨HE2.out.trans (objs_none HN.out), rfl, ((Upd.of_below HO.out.below []).alloc _).drewN _⟩
            · obtain ⟨p, rfl⟩ : ∃ p : Nat, e2 = p := ⟨e2.toNat, by omega⟩
              have hpk : p < os.length := by have := HK.out; omega
              obtain ⟨gO, capO, hv4, hgO, hlO, -⟩ := Kd.N_form HO.out.row (by omega)
              subst hv4
              obtain ⟨-, hcO, hC⟩ := Kd.N_reads' HO.out.row
              obtain ⟨ad2, B1, d1, e5, r0, r1, m1, n1⟩ := at_T50 hC (p : Int) (by omega) (by omega)
              cases e5
              have hob := HOK.out _ (rd50_mem os (p : Int) (by omega) (by omega))
              have hst : stepO os ⟨e0, t1, (p : Int), st⟩ = (if (rd_T50 os (p : Int)).f1.length = 0 then none else if goodS st (rd_T50 os (p : Int)).f1 = false then none else if (madeL (rd_T50 os (p : Int)).f1 st).length > 1000000 then none else some ⟨(rd_T50 os (p : Int)).f0, madeL (rd_T50 os (p : Int)).f1 st⟩) := by
                unfold stepO
                rw [if_neg HU.out.1, if_pos HU.out.2, if_neg (by simp only []; omega)]
              obtain ⟨ob, hobq⟩ : ∃ ob, ob = rd_T50 os (p : Int) := ⟨_, rfl⟩
              rw [← hobq] at r0 r1 m1 n1 hob hst
              clear hobq
              have HOB := Aside0.mk hob
              have M1 := Aside0.mk m1
              have N1 := Aside0.mk n1
              have HGO := Aside0.mk (And.intro hgO hlO)
              simp only [Int.toNat_natCast, add_plain] at r0 r1
              have hd2 : ¬ k ≤ p := by omega
              have hd3 : decide ((p : Int) < 0) = false := decide_eq_false (by omega)
              have f1 : (e0 == 1) = false := beq_eq_false_iff_ne.mpr (by omega)
              have f2 : (e0 == 2) = false := beq_eq_false_iff_ne.mpr (by omega)
              have f3 : (e0 == 3) = false := beq_eq_false_iff_ne.mpr (by omega)
              have f4 : (e0 == 4) = false := beq_eq_false_iff_ne.mpr (by omega)
              have hB1 : (e0 == 6) = true ∨ ((e0 == 6) = false ∧ (e0 == 7) = true) := by
                rcases hB0 with rfl | rfl
                · exact .inl rfl
                · exact .inr ⟨rfl, rfl⟩
              obtain ⟨wE, be, hWE, hbe, uE, cE, r0E, r1E, hne⟩ : ∃ wE be, wr.alloc (.cells #[.int .i64 e0, .slice A1 t1.length c1, .int .i64 (p : Int), .slice A3 st.length c3] 39) = wE ∧ wr.heap.size = be ∧ Upd [] wr wE ∧ (∀ i, wE.cell? ⟨be, i, none⟩ = (#[.int .i64 e0, .slice A1 t1.length c1, .int .i64 (p : Int), .slice A3 st.length c3] : Array Value)[i]?) ∧
                  wE.cell? ⟨gO, p * 2, none⟩ = some (.int .i64 ob.f0) ∧ wE.cell? ⟨gO, p * 2 + 1, none⟩ = some (.slice B1 ob.f1.length d1) ∧ wE.heap[be]? = some (.cells #[.int .i64 e0, .slice A1 t1.length c1, .int .i64 (p : Int), .slice A3 st.length c3] 39 (0,0)) := by
                have uE := (Upd.refl [] wr).alloc (.cells #[.int .i64 e0, .slice A1 t1.length c1, .int .i64 (p : Int), .slice A3 st.length c3] 39)
                have hb := U.blk_new wr (.cells #[.int .i64 e0, .slice A1 t1.length c1, .int .i64 (p : Int), .slice A3 st.length c3] 39)
                exact ⟨_, _, rfl, rfl, uE, blk_cells hb, (uE.to_below.cell (World.block_lt_of_cell? wr _ r0)).trans r0, (uE.to_below.cell (World.block_lt_of_cell? wr _ r1)).trans r1, hb⟩
              have UE := Aside0.mk uE
              have HBE := Aside0.mk hne
              have WE := Aside0.mk hWE
              have BE := Aside0.mk hbe
              have CE := Aside0.mk cE
              have R0E := Aside0.mk r0E
              have R1E := Aside0.mk r1E
              clear hcO hC hob m1 n1 hgO hlO hb1 hb2 hB0 uE hne hWE hbe cE r0E r1E r0 r1
              by_cases hb3 : ob.f1.length = 0
              · have HN : Aside0 (stepO os ⟨e0, t1, (p : Int), st⟩ = none) := ⟨by rw [hst, if_pos hb3]⟩
                have R1Z : Aside0 (wE.cell? ⟨gO, p * 2 + 1, none⟩ = some (.slice B1 0 d1)) := ⟨by rw [R1E.out, hb3]⟩
                clear hst hb3
                rcases hB1 with f6 | ⟨f6, f7⟩
                all_goals
                  go_wp2
                  rw [WE.out, BE.out]
                  clear p0 p1 p2 p3 f1 f2 f3 f4 f6 hkl
                  have cE := CE.out
                  have r0E := R0E.out
                  have r1E := R1Z.out
                  go_quiet (fail)
                  go_wp2
                  go_ret2
                  exact .inl ⟨HE2.out.trans (objs_none HN.out), rfl, ((Upd.of_below HO.out.below []).trans UE.out).drewN _⟩
              · have hd4 : ((ob.f1.length : Int) == 0) = false := beq_eq_false_iff_ne.mpr (by omega)
                have HG3 := Aside0.mk (Kd.C_below G3.out (below_then HO.out.below HO.out.below.size (UE.out.drew).to_below))
                have HN1 := Aside0.mk (Kd.C_below N1.out (UE.out.drew).to_below)
                cases hb4 : goodS st ob.f1
                · have HN : Aside0 (stepO os ⟨e0, t1, (p : Int), st⟩ = none) := ⟨by rw [hst, if_neg hb3, if_pos hb4]⟩
                  have HB4 := Aside0.mk hb4
                  clear hst hb3 hb4
                  rcases hB1 with f6 | ⟨f6, f7⟩
                  all_goals
                    go_wp2
                    rw [WE.out, BE.out]
                    clear p0 p1 p2 p3 f1 f2 f3 f4 f6 hkl
                    have cE := CE.out
                    have r1E := R1E.out
                    go_region_held3 (fun w' => w'.cell? ⟨be, 2, none⟩ = some (.int .i64 (p : Int)) ∧ w'.cell? ⟨be, 3, none⟩ = some (.slice A3 st.length c3) ∧ w'.cell? ⟨gO, p * 2 + 1, none⟩ = some (.slice B1 ob.f1.length d1)) (go_keep)
                      ((go_at_call 34; refine (f34_eq A3 c3 st B1 d1 ob.f1 _ HG3.out L3.out HN1.out M1.out false HB4.out).mono ?_; rintro e w7 ⟨rfl, U7⟩; have c7 := blk_cells (U7.keep (drew_b HBE.out) (by simp)); have r7 := cell_upd0 (cell_drew R1E.out) U7; have U7 := Aside0.mk U7))
                    go_wp2
                    go_ret2
                    exact .inl ⟨HE2.out.trans (objs_none HN.out), rfl, (((Upd.of_below HO.out.below []).trans UE.out).drew).trans U7.out⟩
                · have HB4 := Aside0.mk hb4
                  have hst2 : stepO os ⟨e0, t1, (p : Int), st⟩ = (if (madeL ob.f1 st).length > 1000000 then none else some ⟨ob.f0, madeL ob.f1 st⟩) := by rw [hst, if_neg hb3, if_neg (by rw [hb4]; simp)]
                  have HST := Aside0.mk hst2
                  clear hst hb3 hb4 hst2
                  rcases hB1 with f6 | ⟨f6, f7⟩
                  all_goals
                    go_wp2
                    rw [WE.out, BE.out]
                    clear p0 p1 p2 p3 f1 f2 f3 f4 f6
                    have cE := CE.out
                    have r1E := R1E.out
                    go_region_held3 (fun w' => w'.cell? ⟨be, 2, none⟩ = some (.int .i64 (p : Int)) ∧ w'.cell? ⟨be, 3, none⟩ = some (.slice A3 st.length c3) ∧ w'.cell? ⟨gO, p * 2 + 1, none⟩ = some (.slice B1 ob.f1.length d1)) (go_keep)
                      ((go_at_call 34; refine (f34_eq A3 c3 st B1 d1 ob.f1 _ HG3.out L3.out HN1.out M1.out true HB4.out).mono ?_; rintro e w7 ⟨rfl, U7⟩; have c7 := blk_cells (U7.keep (drew_b HBE.out) (by simp)); have r7 := cell_upd0 (cell_drew R1E.out) U7; have U7 := Aside0.mk U7))
                    rename_i hhq
                    clear hhq hd4
                    go_wp2
                    have HG7 := Aside0.mk (Kd.C_below HG3.out (U7.out.drew).to_below)
                    have HN7 := Aside0.mk (Kd.C_below HN1.out (U7.out.drew).to_below)
                    have BE7 := Aside0.mk (drew_b (U7.out.keep (drew_b HBE.out) (by simp)))
                    have R17 := Aside0.mk (cell_drew r7)
                    have R07 := Aside0.mk (cell_drew (cell_upd0 (cell_drew R0E.out) U7.out))
                    go_region_held3 (fun w' => w'.cell? ⟨be, 2, none⟩ = some (.int .i64 (p : Int)) ∧ w'.cell? ⟨be, 3, none⟩ = some (.slice A3 st.length c3) ∧ w'.cell? ⟨gO, p * 2 + 1, none⟩ = some (.slice B1 ob.f1.length d1)) (go_keep)
                      ((go_at_call 35; refine (f35_any B1 d1 ob.f1 A3 c3 st _ HN7.out M1.out HG7.out L3.out HB4.out).mono ?_; rintro e w8 ⟨A8, d8, rfl, l8, F8, U8⟩; have c8 := blk_cells (U8.keep BE7.out (by simp)); have r8 := cell_upd0 R17.out U8; have U8 := Aside0.mk U8; have L8 := Aside0.mk l8; have F8 := Aside0.mk F8))
                    rename_i hhq
                    clear hhq
                    have r08 := cell_upd0 R07.out U8.out
                    have hO8 := (((HO.out.upd UE.out).upd ((Upd.refl [] wE).drew)).upd U7.out).upd (((Upd.refl [] w7).drew).trans U8.out)
                    have hs7 : gO < w7.drew.heap.size := by
                      have h1 := HGO.out.2
                      have h2 := UE.out.size
                      have h3 := U7.out.size
                      have h4 : wE.drew.heap.size = wE.heap.size := rfl
                      have h5 : w7.drew.heap.size = w7.heap.size := rfl
                      omega
                    have HO8 := Aside0.mk hO8
                    have HS7 := Aside0.mk hs7
                    clear hO8 hs7
                    by_cases hb5 : (madeL ob.f1 st).length > 1000000
                    · have HN : Aside0 (stepO os ⟨e0, t1, (p : Int), st⟩ = none) := ⟨by rw [HST.out, if_pos hb5]⟩
                      have hb5' : (1000000 : Int) < ((madeL ob.f1 st).length : Int) := by omega
                      clear hb5
                      go_wp2
                      go_ret2
                      exact .inl ⟨HE2.out.trans (objs_none HN.out), rfl, Upd.of_below HO8.out.below []⟩
                    · have HN : Aside0 (stepO os ⟨e0, t1, (p : Int), st⟩ = some ⟨ob.f0, madeL ob.f1 st⟩) := ⟨by rw [HST.out, if_neg hb5]⟩
                      have hb5' : ((madeL ob.f1 st).length : Int) ≤ 1000000 := by omega
                      clear hb5
                      go_wp2_with (at_builtin; refine Held1.out ?_)
                      refine Held1.mk ?_
                      refine objs_append (w0 := w) (by rfl) _ _ (by rfl) (.slice (some ⟨gO, 0, none⟩) os.length capO) os ob.f0 (madeL ob.f1 st) A8 d8 (fun k => w7.drew.heap.size ≤ k) _ rfl (by rfl) (by rfl) HO8.out F8.out L8.out (fun k hk e => by have h1 := HS7.out; simp [Value.ownBlock] at e; omega) (by have := HK.out; omega) ?_
                      intro v5 w5 hO5
                      have HO5 := Aside0.mk hO5
                      clear hO5
                      go_wp2
                      exact ⟨⟨k + 1, _, by simp, by omega, ⟨by have := HK.out; simp; omega⟩, ⟨HE2.out.trans (objs_some HN.out)⟩, ⟨fun x hx => by
                        rcases List.mem_append.1 hx with hx | hx
                        · exact HOK.out x hx
                        · simp only [List.mem_singleton] at hx
                          subst hx
                          exact stepO_ok HOK.out HN.out⟩, HO5⟩, by simp [intOf]; omega⟩
        · have hn : stepO os ed = none := by unfold stepO; rw [if_neg hA, if_neg hB]
          have HN := Aside0.mk hn
          have f1 : (ed.f0 == 1) = false := beq_eq_false_iff_ne.mpr (by omega)
          have f2 : (ed.f0 == 2) = false := beq_eq_false_iff_ne.mpr (by omega)
          have f3 : (ed.f0 == 3) = false := beq_eq_false_iff_ne.mpr (by omega)
          have f4 : (ed.f0 == 4) = false := beq_eq_false_iff_ne.mpr (by omega)
          have f6 : (ed.f0 == 6) = false := beq_eq_false_iff_ne.mpr (by omega)
          have f7 : (ed.f0 == 7) = false := beq_eq_false_iff_ne.mpr (by omega)
          clear hn hA hB
          go_wp2
          go_ret2
          exact .inl ⟨HE2.out.trans (objs_none HN.out), rfl, (Upd.of_below HO.out.below []).alloc _⟩
    · go_wp2
      go_ret2
      have hd : l0.drop k = [] := List.drop_eq_nil_of_le (by omega)
      exact .inr ⟨os, by rw [HE.out, hd]; rfl, _, rfl, HO.out⟩
end Go.Proofs.YtohdpnoinfnmiaaGreatDoor
