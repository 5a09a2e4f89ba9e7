/- Appends in a region that draws its order; the row of places; what each entry is. -/
import Derived.Test.YtohdpnoinfnmiaaGreatDoorV35
namespace Go.Proofs.YtohdpnoinfnmiaaGreatDoor
open Go.RowKit U
open Go.Proofs.YtohdpnoinfnmiaaGreatDoorW.PrintWords
open Go.Proofs.YtohdpnoinfnmiaaGreatDoorW.PrintMore
open PFnPackOther
/-- 'append(v, ys...)' run. -/
theorem run_append_m {P : Program} {W : World} (t ty e : TypeId) (k : IntKind) (bytes : Nat)
    (ht : P.underlying t = some (.slice e)) (hinfo : (P.info? e).map (fun i => (i.zero, i.size, i.bytes)) = some (some (.int k 0), 1, bytes)) (hb0 : 0 < bytes)
    (g cap : Nat) (xs ys : List Int) (A : Option Addr) (m c : Nat)
    (HM : Mrow W g cap (nums k xs)) (hgl : g < W.heap.size) (HR : ReadsInt W k A m ys) (hl : (xs.length + m) * bytes ≤ 140737488355328) :
    ∃ g1 cap1 w1, (Builtin.append_ #[t, t] ty #[.slice (some ⟨g, 0, none⟩) xs.length cap, .slice A m c]).run P W = .ok (.slice (some ⟨g1, 0, none⟩) (xs ++ ys).length cap1) w1 ∧
      Mrow w1 g1 cap1 (nums k (xs ++ ys)) ∧ Upd [g] W w1 ∧ (g1 = g ∨ W.heap.size ≤ g1) ∧ g1 < w1.heap.size := by
  obtain ⟨i0, hi, hzz⟩ := Option.map_eq_some_iff.1 hinfo
  simp only [Prod.mk.injEq] at hzz
  obtain ⟨hz0, hz1, hz2⟩ := hzz
  have hm : ys.length = m := HR.1
  have hlen : xs.length + m ≤ 140737488355328 := Nat.le_trans (Nat.le_mul_of_pos_right _ hb0) hl
  have hle : xs.length ≤ cap := by simpa [nums] using HM.le
  rcases A with _ | ad
  · have h0 : m = 0 := by
      rcases Nat.eq_zero_or_pos m with h0 | h0
      · exact h0
      · obtain ⟨ad, h, _⟩ := HR.2.2 h0
        cases h
    subst h0
    obtain rfl : ys = [] := List.eq_nil_of_length_eq_zero hm
    refine ⟨g, cap, W, ?_, by simpa using HM, Upd.refl _ _, .inl rfl, hgl⟩
    simp [Builtin.append_, run_underlying ht, sizeOf, typeInfo, hi, Builtin.lenOf, Builtin.firstCells, hle, storeCells]
  · have hcells : ∀ j u, (nums k ys)[j]? = some u → W.cell? (ad.add j) = some u := by
      intro j u hu
      have hj : j < ys.length := by
        rcases Nat.lt_or_ge j ys.length with h | h
        · exact h
        · simp [nums, List.getElem?_eq_none h] at hu
      obtain ⟨ad', h', hc⟩ := HR.2.2 (by omega)
      injection h' with h'
      subst h'
      have := hc j (by omega)
      simp [nums, List.getElem?_eq_getElem hj] at hu
      subst hu
      rw [this]
      simp [List.getD_eq_getElem?_getD, List.getElem?_eq_getElem hj]
    have hnl : (nums k ys).length = m := by simp [nums, hm]
    have hxl : (nums k xs).length = xs.length := by simp [nums]
    have hone : ∀ u ∈ nums k ys, u.oneCell' = true := by intro u hu; simp only [nums, List.mem_map] at hu; obtain ⟨q, _, rfl⟩ := hu; rfl
    by_cases hr : xs.length + m ≤ cap
    · have hrun := run_append_room_cells (P := P) W t ty e i0 ht hi g 0 xs.length cap ad m c (nums k ys) (by rw [hnl, hz1, Nat.mul_one]) hcells hone hr
        (fun j hj => by rw [hz1, show 0 + xs.length * 1 + j = xs.length + j by omega]; exact (HM.spare _ (by omega)).1) (fun j hj => by rw [hz1, show 0 + xs.length * 1 + j = xs.length + j by omega]; exact (HM.spare _ (by omega)).2)
      have hu := Upd.setCellsR (L := [g]) g (by simp) (nums k ys) (xs.length) W W (Upd.refl _ _)
      refine ⟨g, cap, W.setCells g xs.length (nums k ys), ?_, ?_, hu, .inl rfl, Nat.lt_of_lt_of_le hgl hu.size⟩
      · rw [hz1, show 0 + xs.length * 1 = xs.length by omega] at hrun
        simpa [hm] using hrun
      · have hsp : ∀ j, j < (nums k ys).length → (W.cell? ⟨g, xs.length + j, none⟩).isSome = true := fun j hj => (HM.spare _ (by omega)).1
        refine ⟨by simp [nums]; omega, fun j u hj => ?_, fun j h2 => ?_⟩
        · rw [nums_append] at hj
          by_cases hlt : j < xs.length
          · rw [List.getElem?_append_left (by omega)] at hj
            rw [World.cell?_setCells_out _ _ _ _ _ (fun _ _ => .inl (by simpa using hlt))]
            exact HM.cells j u hj
          · rw [List.getElem?_append_right (by omega), hxl] at hj
            have hj' := (List.getElem?_eq_some_iff.1 hj).1
            have := World.cell?_setCells_in g (nums k ys) xs.length W hsp (j - xs.length) hj'
            rw [show xs.length + (j - xs.length) = j by omega] at this
            rw [this, ← hj]
            exact (List.getElem?_eq_getElem hj').symm
        · refine ⟨?_, ?_⟩
          · by_cases hin : xs.length ≤ j ∧ j < xs.length + (nums k ys).length
            · have := World.cell?_setCells_in g (nums k ys) xs.length W hsp (j - xs.length) (by omega)
              rw [show xs.length + (j - xs.length) = j by omega] at this
              rw [this]
              rfl
            · rw [World.cell?_setCells_out _ _ _ _ _ (fun _ _ => by show j < xs.length ∨ xs.length + (nums k ys).length ≤ j; omega)]
              exact (HM.spare j h2).1
          · rw [World.frozen?_setCells]
            exact (HM.spare j h2).2
    · obtain ⟨v1, w1, hrun, h1, h2⟩ := run_append_arg_grows (P := P) W t ty e i0 (.int k 0) 1 bytes ht hi hz0 hz1 hz2 rfl (by omega) ⟨g, 0, none⟩ xs.length cap (nums k xs) (by simp [nums]) (fun j u hj => by rw [add_plain]; exact HM.cells j u hj) ad m c (nums k ys) (by simp [nums, hm]) hcells (by omega) (by simp only [maxLen]; omega) hl
      obtain ⟨g1, cap1, rfl, hb, hlt1⟩ : ∃ g1 cap1, v1 = .slice (some ⟨g1, 0, none⟩) (xs.length + m) cap1 ∧ W.heap.size ≤ g1 ∧ g1 < w1.heap.size := by
        rcases h1.2 with ⟨_, h0⟩ | ⟨g1, cap1, cur, hv, hb, hh, _⟩
        · omega
        · exact ⟨g1, cap1, hv, hb, lt_of_blk hh⟩
      have hM := Mrow.of_own h1
      exact ⟨g1, cap1, w1, by simpa [hm] using hrun, by rw [nums_append]; exact hM, ⟨h2.os, h2.tape, h2.output, h2.size, fun i hi _ => h2.block i hi (by simp)⟩, .inr hb, hlt1⟩
/-- .. at a step of a region that draws its order. -/
theorem step_append_o {ops : Array Oper} {o : Oper} {a : Act} {K : Act → World → Prop} {Q : Exit → Act → World → Prop} {E : Prop} {w0 W : World} (hgd : o.guard = none) (s x : Operand)
    (ho : o.op = .call { callee := .builtin .append, args := #[s, x], argTypes := #[25, 25] })
    (g cap : Nat) (xs ys : List Int) (A : Option Addr) (m c : Nat) (hs : a.eval s = .slice (some ⟨g, 0, none⟩) xs.length cap) (hx : a.eval x = .slice A m c)
    (HM : Own1 w0 W g cap xs) (HR : ReadsInt W .u8 A m ys) (hl : xs.length + m ≤ 140737488355328)
    (h : ∀ g1 cap1 w1, Own1 w0 w1 g1 cap1 (xs ++ ys) → Upd [g] W w1 → (g1 = g ∨ W.heap.size ≤ g1) → K (a.put o.dst (.slice (some ⟨g1, 0, none⟩) (xs ++ ys).length cap1)) w1) :
    if Region.wanted o (yielded ops a.tmps) = true then Oper.wp Tryz.prog o a W K Q else E := by
  have hw : Region.wanted o (yielded ops a.tmps) = true := by simp [Region.wanted, hgd]
  rw [if_pos hw]
  obtain ⟨g1, cap1, w1, hr, h1, h2, h3, h4⟩ := run_append_m (P := Tryz.prog) 25 o.type 5 .u8 1 Tryz.underlying25 info5 (by omega) g cap xs ys A m c HM.row HM.lt HR (by omega)
  unfold Oper.wp execOp
  simp only [ho, resolve, invoke, builtin, Sem.run_bind, Sem.run_pure, Result.andThen_ok, List.map_toArray, List.map_cons, List.map_nil, hs, hx, hr]
  exact h g1 cap1 w1 ⟨h1, h4, by have := HM.new; have := HM.lt; have := HM.upd.size; omega, HM.upd.andThen h2 (fun x hx => .inr (by simp at hx; subst hx; exact HM.new))⟩ h2 h3
/-! ### the places -/
theorem info52 : (Tryz.prog.info? 52).map (fun i => (i.zero, i.size, i.bytes)) = some (some (.agg #[.int .i64 0, .slice none 0 0, .int .u32 0]), 3, 40) := by kernel_rfl
/-- The row of places. -/
structure Plc (w0 w : World) (v : Value) (n : Nat) : Prop where
  row : ∃ cells, w.ownsRow w0.heap.size 52 3 v n cells ∧ ∀ j, j < n → ∃ x : Int, cells[j * 3]? = some (.int .i64 x)
theorem Plc.lt {w0 w : World} {v : Value} {n : Nat} (h : Plc w0 w v n) (k : Nat) (hk : v.ownBlock = some k) : k < w.heap.size := by
  obtain ⟨cells, ho, _⟩ := h.row
  exact own_lt ho k hk
theorem Plc.base {w0 w : World} {v : Value} {n : Nat} (h : Plc w0 w v n) (k : Nat) (hk : v.ownBlock = some k) : w0.heap.size ≤ k := by
  obtain ⟨cells, ho, _⟩ := h.row
  exact own_base ho k hk
theorem Plc.upd {w0 w w' : World} {v : Value} {n : Nat} {L : List Nat} (h : Plc w0 w v n) (u : Upd L w w') (hn : ∀ k, v.ownBlock = some k → k ∉ L) : Plc w0 w' v n := by
  obtain ⟨cells, ho, hc⟩ := h.row
  refine ⟨cells, ⟨ho.1, ?_⟩, hc⟩
  rcases ho.2 with h | ⟨g, cap, cur, hv, hb, hh, hr⟩
  · exact .inl h
  · exact .inr ⟨g, cap, cur, hv, hb, u.keep hh (hn g (by rw [hv]; rfl)), hr⟩
theorem Plc.at {w0 w : World} {v : Value} {n j : Nat} (h : Plc w0 w v n) (hj : j < n) : ∃ g cap, ∃ x : Int, v = .slice (some ⟨g, 0, none⟩) n cap ∧ w.cell? ⟨g, j * 3, none⟩ = some (.int .i64 x) := by
  obtain ⟨cells, ho, hc⟩ := h.row
  obtain ⟨x, hx⟩ := hc j hj
  rcases ho.2 with ⟨_, h0⟩ | ⟨g, cap, cur, hv, hb, hh, hr⟩
  · omega
  · refine ⟨g, cap, x, hv, ?_⟩
    rw [cell_of_row w g (j * 3) cur 52 (0, 0) hh]
    have h2 := hr.2.2.2
    rw [← h2, List.getElem?_take] at hx
    split at hx
    · simpa using hx
    · cases hx
theorem plc_append {ops : Array Oper} {rest : List Oper} {o : Oper} {a : Act} {Q : Exit → Act → World → Prop} {w0 W : World} (hgd : o.guard = none) (s x : Operand)
    (ho : o.op = .call { callee := .builtin .append, args := #[s, x], argTypes := #[26, 26] })
    (v : Value) (n : Nat) (z : Int) (u1 u2 : Value) (h1 : u1.oneCell' = true) (h2 : u2.oneCell' = true) (hs : a.eval s = v) (Sz : Nat) (hS : W.heap.size = Sz) (hx : a.eval x = .slice (some ⟨Sz, 0, none⟩) 1 1)
    (HO : Plc w0 W v n) (HB : Below w0.heap.size w0 W) (hn : n ≤ 1000)
    (h : ∀ v1 w1, Plc w0 w1 v1 (n + 1) → Below w0.heap.size w0 w1 → W.grownBy w1 v.ownBlock → (v1.ownBlock = v.ownBlock ∨ ∃ b, v1.ownBlock = some b ∧ W.heap.size ≤ b) → wpList Tryz.prog ops Q rest (a.put o.dst v1) w1) :
    wpList Tryz.prog ops Q (o :: rest) a (W.alloc (.cells #[.int .i64 z, u1, u2] 52)) := by
  subst hS
  obtain ⟨cells, hown, hc⟩ := HO.row
  refine print_append_cells (P := Tryz.prog) (w0 := w0) (W := W) w0.heap.size hgd s x 26 52 (.agg #[.int .i64 0, .slice none 0 0, .int .u32 0]) 3 40 ho Tryz.underlying26 info52 (by rfl) (by omega) (by omega) v n cells [.int .i64 z, u1, u2] hs hx rfl
    (fun u hu => by
      simp only [List.mem_cons, List.not_mem_nil, or_false] at hu
      rcases hu with rfl | rfl | rfl
      · rfl
      · exact h1
      · exact h2) hown HB HB.size (by omega) (fun v1 w1 g1 g2 g3 g4 => h v1 w1 ⟨_, g1, fun j hj => ?_⟩ g2 g3 g4)
  have hl : cells.length = n * 3 := hown.1
  by_cases hjn : j < n
  · rw [List.getElem?_append_left (by omega)]
    exact hc j hjn
  · obtain rfl : j = n := by omega
    exact ⟨z, by rw [List.getElem?_append_right (by omega), hl, Nat.sub_self]; rfl⟩
/-! ### what each entry is -/
def okE (os : List S50) (k : Nat) (e : S39) : Prop := (1 ≤ e.f0 ∧ e.f0 ≤ 4 ∧ e.f1.length ≤ 1000000) ∨ ((e.f0 = 6 ∨ e.f0 = 7) ∧ 0 ≤ e.f2 ∧ e.f2 < k ∧ goodS e.f3 (rd_T50 os e.f2).f1 = true)
theorem rd50_app (acc s : List S50) (i : Int) (h0 : 0 ≤ i) (h1 : i < acc.length) : rd_T50 (acc ++ s) i = rd_T50 acc i := by
  unfold rd_T50
  rw [List.getD_eq_getElem?_getD, List.getD_eq_getElem?_getD, List.getElem?_append_left (by omega)]
theorem stepO_okE {acc s : List S50} {e : S39} {o : S50} (h : stepO acc e = some o) : okE (acc ++ s) acc.length e := by
  unfold stepO at h
  split at h
  · rename_i hk
    split at h
    · cases h
    · exact .inl ⟨hk.1, hk.2, by omega⟩
  · split at h
    · rename_i hk
      split at h
      · cases h
      · rename_i hb
        split at h
        · cases h
        · split at h
          · cases h
          · rename_i hg
            refine .inr ⟨hk, by omega, by omega, ?_⟩
            rw [rd50_app _ _ _ (by omega) (by omega)]
            simpa using hg
    · cases h
theorem objs_entries : ∀ (r : List S39) (acc os : List S50), objsFrom acc r = some os → (∃ s, os = acc ++ s) ∧ ∀ j : Nat, j < r.length → okE os (acc.length + j) (rd_T39 r j)
  | [], acc, os, h => by
    simp only [objsFrom] at h
    cases h
    exact ⟨⟨[], by simp⟩, fun j hj => by simp at hj⟩
  | e :: r, acc, os, h => by
    cases hs : stepO acc e with
    | none => rw [objs_none hs] at h; cases h
    | some o =>
      rw [objs_some hs] at h
      obtain ⟨⟨s, rfl⟩, hj⟩ := objs_entries r (acc ++ [o]) os h
      refine ⟨⟨[o] ++ s, by simp⟩, fun j hjl => ?_⟩
      cases j with
      | zero =>
        have := stepO_okE (s := [o] ++ s) hs
        simpa [rd_T39] using this
      | succ j =>
        have := hj j (by simpa using hjl)
        simp only [List.length_append, List.length_singleton] at this
        have e2 : rd_T39 (e :: r) ((j + 1 : Nat) : Int) = rd_T39 r (j : Int) := by simp [rd_T39]
        rw [e2, show acc.length + (j + 1) = acc.length + 1 + j by omega]
        exact this
/-! ### the callees -/
theorem f15_any (A0 : Option Addr) (c0 : Nat) (base : List Int) (A1 : Option Addr) (c1 : Nat) (st : List S105) (w : World) (hr0 : Kd.C (Kd.int .u8) w A0 base.length base) (hc0 : base.length ≤ c0) (hr1 : Kd.C k105 w A1 st.length st) (hc1 : st.length ≤ c1) (hg : goodS st base = true) :
    Calls Tryz.prog 15 #[.slice A0 base.length c0, .slice A1 st.length c1] w fun e w' => ∃ A c r, e = .returned (.slice A r.length c) ∧ r.length ≤ c ∧ r.length ≤ 100000 ∧ Kd.F (Kd.int .u8) w' (fun k => w.heap.size ≤ k) A r.length r ∧ Upd [] w w' := by
  obtain ⟨r, k, hk, hr⟩ := delta_ev base st hg
  refine (spec_Delta.calls k A0 c0 base A1 c1 st r w hr0 hc0 hr1 hc1 hk).mono ?_
  rintro e w' ⟨v, rfl, hR, hB⟩
  obtain ⟨A, c, rfl⟩ := Kd.R_slice hR
  exact ⟨A, c, r, rfl, (Kd.R_reads' hR).2.1, hr, Kd.F_mono (Kd.R_F (Kd.R_bound hR)) (fun k hk => hk.2.1), .of_below hB []⟩
theorem f16_any (kd : Int) (n : Nat) (hn : n ≤ 9223372036854775807) (w : World) :
    Calls Tryz.prog 16 #[.int .i64 kd, .int .i64 n] w fun e w' => ∃ A m c r, e = .returned (.slice A m c) ∧ m ≤ 10 ∧ ReadsInt w' .u8 A m r ∧ Upd [] w w' := by
  obtain ⟨r, k, hk, hr⟩ := head_ev kd n hn
  refine (spec_EntryHead.calls k kd n r w hk).mono ?_
  rintro e w' ⟨v, rfl, hR, hB⟩
  obtain ⟨A, c, rfl⟩ := Kd.R_slice hR
  exact ⟨A, _, c, r, rfl, hr, C_reads (Kd.R_reads' hR).2.2, .of_below hB []⟩
theorem f17_any (n : Int) (w : World) :
    Calls Tryz.prog 17 #[.int .i64 n] w fun e w' => ∃ A m c r, e = .returned (.slice A m c) ∧ m ≤ 10 ∧ ReadsInt w' .u8 A m r ∧ Upd [] w w' := by
  obtain ⟨r, k, hk, hr⟩ := back_ev n
  refine (spec_Back.calls k n r w hk).mono ?_
  rintro e w' ⟨v, rfl, hR, hB⟩
  obtain ⟨A, c, rfl⟩ := Kd.R_slice hR
  exact ⟨A, _, c, r, rfl, hr, C_reads (Kd.R_reads' hR).2.2, .of_below hB []⟩
theorem f20_any (A0 : Option Addr) (c0 : Nat) (xs : List Int) (w : World) (hr0 : Kd.C (Kd.int .u8) w A0 xs.length xs) (hc0 : xs.length ≤ c0) (hl : xs.length ≤ 1000000) :
    Calls Tryz.prog 20 #[.slice A0 xs.length c0] w fun e w' => ∃ A m c r, e = .returned (.slice A m c) ∧ m ≤ 2000011 ∧ ReadsInt w' .u8 A m r ∧ Upd [] w w' := by
  obtain ⟨r, k, hk, hr⟩ := stored_ev xs (by omega)
  refine (spec_Stored.calls k (fun k => k < w.heap.size) A0 c0 xs r w (Kd.V_mk hc0 (Kd.C_F (Kd.heap_int .u8) hr0)) hk).mono ?_
  rintro e w' ⟨v, rfl, hR, hB⟩
  obtain ⟨A, c, rfl⟩ := Kd.R_slice hR
  exact ⟨A, _, c, r, rfl, by omega, C_reads (Kd.R_reads' hR).2.2, .of_below hB []⟩
end Go.Proofs.YtohdpnoinfnmiaaGreatDoor
