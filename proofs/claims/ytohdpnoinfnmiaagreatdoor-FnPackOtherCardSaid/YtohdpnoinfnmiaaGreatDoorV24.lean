/- Appends onto a row of bytes that may bear a conversion's mark. No function of the program in it. -/
import Derived.Test.YtohdpnoinfnmiaaGreatDoorPFnPackOtherx2
import Derived.Test.YtohdpnoinfnmiaaGreatDoorU
namespace Go.Proofs.YtohdpnoinfnmiaaGreatDoor
open Go.RowKit U
open Go.Proofs.YtohdpnoinfnmiaaGreatDoorW.PrintWords
open Go.Proofs.YtohdpnoinfnmiaaGreatDoorW.PrintMore
theorem Upd.setCellsR {L : List Nat} (b : Nat) (hb : b ∈ L) : ∀ (vs : List Value) (o : Nat) (a w : World), Upd L a w → Upd L a (w.setCells b o vs)
  | [], _, _, _, h => h
  | v :: r, o, a, w, h => by rw [World.setCells]; exact Upd.setCellsR b hb r (o + 1) a _ (h.setCell (.inl hb) v)
/-- A row from a block's head on, with room behind it that may be written. -/
structure Mrow (w : World) (g cap : Nat) (xs : List Value) : Prop where
  le : xs.length ≤ cap
  cells : ∀ j u, xs[j]? = some u → w.cell? ⟨g, j, none⟩ = some u
  spare : ∀ j, j < cap → (w.cell? ⟨g, j, none⟩).isSome = true ∧ w.frozen? ⟨g, j, none⟩ = false
theorem Mrow.of_block {w : World} {g cap : Nat} {cur : Array Value} {t : TypeId} {f : Nat × Nat} {xs : List Value} (h : w.heap[g]? = some (.cells cur t f)) (hle : xs.length ≤ cap) (hcap : cap ≤ cur.size) (hx : cur.toList.take xs.length = xs) (hf : cap ≤ f.1 ∨ f.2 = 0) : Mrow w g cap xs := by
  refine ⟨hle, fun j u hu => ?_, fun j h2 => ⟨?_, ?_⟩⟩
  · rw [cell_of_row w g j cur t f h]
    have hj := (List.getElem?_eq_some_iff.1 hu).1
    rw [← hx, List.getElem?_take, if_pos hj] at hu
    simpa using hu
  · rw [cell_of_row w g j cur t f h]
    simp [show j < cur.size by omega]
  · simp [World.frozen?, h]
    omega
theorem Mrow.of_own {w : World} {base e g n cap : Nat} {xs : List Value} (h : w.ownsRow base e 1 (.slice (some ⟨g, 0, none⟩) n cap) n xs) : Mrow w g cap xs := by
  have hl := h.1
  rcases h.2 with ⟨h1, _⟩ | ⟨g', cap', cur, hv, _, hh, hn, hs, hc, hx⟩
  · cases h1
  · cases hv
    exact .of_block hh (by omega) (by omega) (by rw [hl]; exact hx) (.inr rfl)
theorem Mrow.reads {w : World} {g cap : Nat} {k : IntKind} {xs : List Int} (h : Mrow w g cap (nums k xs)) (hm : xs.length ≤ 9223372036854775807) : ReadsInt w k (some ⟨g, 0, none⟩) xs.length xs :=
  ⟨rfl, hm, fun _ => ⟨_, rfl, fun j hj => by
    rw [add_plain]
    exact h.cells j _ (by simp [nums, List.getD_eq_getElem?_getD, List.getElem?_eq_getElem hj])⟩⟩
section
variable {P : Program} {ops : Array Oper} {rest : List Oper} {o : Oper} {a : Act} {Q : Exit → Act → World → Prop}
/-- 'append(v, ys...)': ys a slice that is read, nil let in. -/
theorem append_m {W : World} (hgd : o.guard = none) (s x : Operand) (t e : TypeId) (k : IntKind) (bytes : Nat)
    (ho : o.op = .call { callee := .builtin .append, args := #[s, x], argTypes := #[t, t] })
    (ht : P.underlying t = some (.slice e)) (hinfo : (P.info? e).map (fun i => (i.zero, i.size, i.bytes)) = some (some (.int k 0), 1, bytes)) (hb0 : 0 < bytes)
    (g cap : Nat) (xs ys : List Int) (A : Option Addr) (m c : Nat) (hs : a.eval s = .slice (some ⟨g, 0, none⟩) xs.length cap) (hx : a.eval x = .slice A m c)
    (HM : Mrow W g cap (nums k xs)) (hgl : g < W.heap.size) (HR : ReadsInt W k A m ys) (hl : (xs.length + m) * bytes ≤ 140737488355328)
    (h : ∀ g1 cap1 w1, Mrow w1 g1 cap1 (nums k (xs ++ ys)) → Upd [g] W w1 → (g1 = g ∨ W.heap.size ≤ g1) → g1 < w1.heap.size → wpList P ops Q rest (a.put o.dst (.slice (some ⟨g1, 0, none⟩) (xs ++ ys).length cap1)) w1) :
    wpList P ops Q (o :: rest) a W := by
  obtain ⟨i0, hi, hzz⟩ := Option.map_eq_some_iff.1 hinfo
  simp only [Prod.mk.injEq] at hzz
  obtain ⟨hz0, hz1, hz2⟩ := hzz
  have hm : ys.length = m := HR.1
  have hlen : xs.length + m ≤ 140737488355328 := Nat.le_trans (Nat.le_mul_of_pos_right _ hb0) hl
  have hle : xs.length ≤ cap := by simpa [nums] using HM.le
  rcases A with _ | ad
  · have h0 : m = 0 := by
      rcases Nat.eq_zero_or_pos m with h0 | h0
      · exact h0
      · obtain ⟨ad, h, _⟩ := HR.2.2 h0
        cases h
    subst h0
    obtain rfl : ys = [] := List.eq_nil_of_length_eq_zero hm
    have hr : (Builtin.append_ #[t, t] o.type #[.slice (some ⟨g, 0, none⟩) xs.length cap, .slice none 0 c]).run P W = .ok (.slice (some ⟨g, 0, none⟩) xs.length cap) W := by
      simp [Builtin.append_, run_underlying ht, sizeOf, typeInfo, hi, Builtin.lenOf, Builtin.firstCells, hle, storeCells]
    refine wpList_plain hgd fun K hK => ?_
    unfold Oper.wp execOp
    simp only [ho, resolve, invoke, builtin, Sem.run_bind, Sem.run_pure, Result.andThen_ok, List.map_toArray, List.map_cons, List.map_nil, hs, hx, hr]
    have := h g cap W (by simpa using HM) (Upd.refl _ _) (.inl rfl) hgl
    simp only [List.append_nil] at this
    exact hK _ _ this
  · have hcells : ∀ j u, (nums k ys)[j]? = some u → W.cell? (ad.add j) = some u := by
      intro j u hu
      have hj : j < ys.length := by
        rcases Nat.lt_or_ge j ys.length with h | h
        · exact h
        · simp [nums, List.getElem?_eq_none h] at hu
      obtain ⟨ad', h', hc⟩ := HR.2.2 (by omega)
      injection h' with h'
      subst h'
      have := hc j (by omega)
      simp [nums, List.getElem?_eq_getElem hj] at hu
      subst hu
      rw [this]
      simp [List.getD_eq_getElem?_getD, List.getElem?_eq_getElem hj]
    have hnl : (nums k ys).length = m := by simp [nums, hm]
    have hxl : (nums k xs).length = xs.length := by simp [nums]
    refine wpList_append_arg W hgd s x t ho e i0 (.int k 0) 1 bytes ht hi hz0 hz1 hz2 rfl (by omega) g 0 xs.length cap (nums k xs) hs (by simp [nums]) (fun j u hj => by rw [Nat.zero_add]; exact HM.cells j u hj) ad m c (nums k ys) hx (by simp [nums, hm]) hcells
      (by intro u hu; simp only [nums, List.mem_map] at hu; obtain ⟨q, _, rfl⟩ := hu; rfl) (fun hr j hj => ?_) (by simp only [maxLen]; omega) hl (fun hr => ?_) (fun hr v1 w1 h1 h2 => ?_)
    · rw [show 0 + xs.length * 1 + j = xs.length + j by omega]
      exact HM.spare _ (by omega)
    · have hu := Upd.setCellsR (L := [g]) g (by simp) (nums k ys) (xs.length) W W (Upd.refl _ _)
      have hM : Mrow (W.setCells g xs.length (nums k ys)) g cap (nums k (xs ++ ys)) := by
        have hsp : ∀ j, j < (nums k ys).length → (W.cell? ⟨g, xs.length + j, none⟩).isSome = true := fun j hj => (HM.spare _ (by omega)).1
        refine ⟨by simp [nums]; omega, fun j u hj => ?_, fun j h2 => ?_⟩
        · rw [nums_append] at hj
          by_cases hlt : j < xs.length
          · rw [List.getElem?_append_left (by omega)] at hj
            rw [World.cell?_setCells_out _ _ _ _ _ (fun _ _ => .inl (by simpa using hlt))]
            exact HM.cells j u hj
          · rw [List.getElem?_append_right (by omega), hxl] at hj
            have hj' := (List.getElem?_eq_some_iff.1 hj).1
            have := World.cell?_setCells_in g (nums k ys) xs.length W hsp (j - xs.length) hj'
            rw [show xs.length + (j - xs.length) = j by omega] at this
            rw [this, ← hj]
            exact (List.getElem?_eq_getElem hj').symm
        · refine ⟨?_, ?_⟩
          · by_cases hin : xs.length ≤ j ∧ j < xs.length + (nums k ys).length
            · have := World.cell?_setCells_in g (nums k ys) xs.length W hsp (j - xs.length) (by omega)
              rw [show xs.length + (j - xs.length) = j by omega] at this
              rw [this]
              rfl
            · rw [World.cell?_setCells_out _ _ _ _ _ (fun _ _ => by show j < xs.length ∨ xs.length + (nums k ys).length ≤ j; omega)]
              exact (HM.spare j h2).1
          · rw [World.frozen?_setCells]
            exact (HM.spare j h2).2
      have := h g cap _ hM hu (.inl rfl) (Nat.lt_of_lt_of_le hgl hu.size)
      rw [show 0 + xs.length * 1 = xs.length by omega]
      simpa [hm] using this
    · have hpos : 0 < xs.length + m := by omega
      obtain ⟨g1, cap1, rfl, hb, hlt1⟩ : ∃ g1 cap1, v1 = .slice (some ⟨g1, 0, none⟩) (xs.length + m) cap1 ∧ W.heap.size ≤ g1 ∧ g1 < w1.heap.size := by
        rcases h1.2 with ⟨_, h0⟩ | ⟨g1, cap1, cur, hv, hb, hh, _⟩
        · omega
        · exact ⟨g1, cap1, hv, hb, lt_of_blk hh⟩
      have hM := Mrow.of_own h1
      have := h g1 cap1 w1 (by rw [nums_append]; exact hM) ⟨h2.os, h2.tape, h2.output, h2.size, fun i hi _ => h2.block i hi (by simp)⟩ (.inr hb) hlt1
      simpa [hm] using this
end
/-- What a conversion of a string leaves. -/
theorem Mrow.of_conv (W : World) (e : TypeId) (s : ByteArray) : Mrow (Lib.bytesWorld W e s) W.heap.size (grownCap W s.size 0 e) (nums .u8 (bytesOf s)) := by
  have hc := grownCap_ge W s.size 0 e
  have hsz : (Lib.bytesCells W e s).size = grownCap W s.size 0 e := by
    simp [Lib.bytesCells]
    have : s.data.size = s.size := rfl
    omega
  refine .of_block (Lib.bytesWorld_at_new W e s) (by simpa [nums, bytesOf_length] using hc) (by rw [hsz]; exact Nat.le_refl _) ?_ (.inl (by rw [hsz]; exact Nat.le_refl _))
  have hd : s.data.size = s.size := rfl
  have hn : (nums .u8 (bytesOf s)).length = s.data.toList.length := by simp [nums, bytesOf_length, hd]
  rw [hn, Lib.bytesCells, Array.toList_append, Array.toList_map, List.take_append_of_le_length (by simp), List.take_of_length_le (by simp)]
  simp [nums, bytesOf, List.map_map, Function.comp_def]
theorem Mrow.upd {w w' : World} {g cap : Nat} {xs : List Value} {L : List Nat} (h : Mrow w g cap xs) (u : Upd L w w') (hg : g < w.heap.size) (hn : g ∉ L) : Mrow w' g cap xs := by
  have hb := u.block g hg hn
  refine ⟨h.le, fun j v hv => (World.cell?_of_block hb).trans (h.cells j v hv), fun j h2 => ⟨?_, ?_⟩⟩
  · rw [World.cell?_of_block hb]
    exact (h.spare j h2).1
  · have := (h.spare j h2).2
    unfold World.frozen? at this ⊢
    rwa [hb]
theorem Mrow.lt {w : World} {g cap : Nat} {xs : List Value} (h : Mrow w g cap xs) (hn : 0 < xs.length) : g < w.heap.size :=
  World.block_lt_of_cell? w _ (h.cells 0 _ (List.getElem?_eq_getElem hn))
theorem Mrow.set {w : World} {g cap i : Nat} {xs : List Value} (h : Mrow w g cap xs) (hi : i < xs.length) (u : Value) : Mrow (w.setCell ⟨g, i, none⟩ u) g cap (xs.set i u) := by
  have hc : ∀ j, j ≠ i → (w.setCell ⟨g, i, none⟩ u).cell? ⟨g, j, none⟩ = w.cell? ⟨g, j, none⟩ := fun j hj => World.cell?_setCell_other _ _ _ _ (fun e => hj (by injection e with _ e2 _; exact e2.symm))
  have hi2 : (w.setCell ⟨g, i, none⟩ u).cell? ⟨g, i, none⟩ = some u := World.cell?_setCell_same _ _ _ (h.cells i _ (List.getElem?_eq_getElem hi))
  refine ⟨by simpa using h.le, fun j v hv => ?_, fun j h2 => ⟨?_, ?_⟩⟩
  · by_cases hj : j = i
    · subst hj
      rw [hi2, ← hv, List.getElem?_set_self hi]
    · rw [hc j hj]
      rw [List.getElem?_set_ne (Ne.symm hj)] at hv
      exact h.cells j v hv
  · by_cases hj : j = i
    · subst hj
      rw [hi2]
      rfl
    · rw [hc j hj]
      exact (h.spare j h2).1
  · rw [World.frozen?_setCell]
    exact (h.spare j h2).2
theorem Mrow.C {w : World} {g cap : Nat} {xs : List Int} (h : Mrow w g cap (nums .u8 xs)) (hm : xs.length ≤ 9223372036854775807) : Kd.C (Kd.int .u8) w (some ⟨g, 0, none⟩) xs.length xs := by
  refine ⟨rfl, hm, fun _ => ⟨_, rfl, fun j v hv => ⟨[.int .u8 v], rfl, rfl, fun i u hu => ?_⟩⟩⟩
  have hi : i < 1 := (List.getElem?_eq_some_iff.1 hu).1
  obtain rfl : i = 0 := by omega
  have hu' : Value.int .u8 v = u := by simpa using hu
  subst hu'
  rw [show (⟨g, 0, none⟩ : Addr).add (j * (Kd.int IntKind.u8).sz + 0) = ⟨g, j, none⟩ from by unfold Addr.add; split <;> simp_all [Kd.int, Kd.scalar]]
  exact h.cells j _ (by simp [nums, hv])
theorem C_reads {w : World} {A : Option Addr} {n : Nat} {xs : List Int} (h : Kd.C (Kd.int .u8) w A n xs) : ReadsInt w .u8 A n xs := Kd.reads_of_C (enc := Value.int .u8) (d := (0 : Int)) (h1 := fun _ => rfl) h
/-- A row of bytes that the call has made. -/
structure Own1 (w0 w : World) (g cap : Nat) (xs : List Int) : Prop where
  row : Mrow w g cap (nums .u8 xs)
  lt : g < w.heap.size
  new : w0.heap.size ≤ g
  upd : Upd [] w0 w
theorem reads_upd {w w' : World} {k : IntKind} {A : Option Addr} {n : Nat} {xs : List Int} (h : ReadsInt w k A n xs) (u : Upd [] w w') : ReadsInt w' k A n xs := h.below u.to_below
theorem Own1.alloc {w0 w : World} {g cap : Nat} {xs : List Int} (h : Own1 w0 w g cap xs) (o : Obj) : Own1 w0 (w.alloc o) g cap xs :=
  ⟨h.row.upd ((Upd.refl [] w).alloc o) h.lt (by simp), by have := h.lt; simp; omega, h.new, h.upd.alloc o⟩
theorem Own1.step {w0 w w' : World} {g cap : Nat} {xs : List Int} {L : List Nat} (h : Own1 w0 w g cap xs) (u : Upd L w w') (hg : g ∉ L) (hL : ∀ x, x ∈ L → w0.heap.size ≤ x) : Own1 w0 w' g cap xs :=
  ⟨h.row.upd u h.lt hg, Nat.lt_of_lt_of_le h.lt u.size, h.new, h.upd.andThen u (fun x hx => .inr (hL x hx))⟩
theorem Own1.drewN {w0 w : World} {g cap : Nat} {xs : List Int} (h : Own1 w0 w g cap xs) (n : Nat) : Own1 w0 (w.drewN n) g cap xs := h.step ((Upd.refl [] w).drewN n) (by simp) (by simp)
theorem one_reads (W : World) (x : Int) : ReadsInt (W.alloc (.cells #[.int .u8 x] 5 (0,0))) .u8 (some ⟨W.heap.size, 0, none⟩) 1 [x] :=
  ⟨rfl, by omega, fun _ => ⟨_, rfl, fun j hj => by
    obtain rfl : j = 0 := by omega
    exact cell_one_new W _ 5 0 _ rfl⟩⟩
section
variable {P : Program} {ops : Array Oper} {rest : List Oper} {o : Oper} {a : Act} {Q : Exit → Act → World → Prop}
/-- 'append(v, ys...)', v the call's own. -/
theorem append_o {w0 W : World} (hgd : o.guard = none) (s x : Operand) (t : TypeId)
    (ho : o.op = .call { callee := .builtin .append, args := #[s, x], argTypes := #[t, t] })
    (ht : P.underlying t = some (.slice 5)) (hinfo : (P.info? 5).map (fun i => (i.zero, i.size, i.bytes)) = some (some (.int .u8 0), 1, 1))
    (g cap : Nat) (xs ys : List Int) (A : Option Addr) (m c : Nat) (hs : a.eval s = .slice (some ⟨g, 0, none⟩) xs.length cap) (hx : a.eval x = .slice A m c)
    (HM : Own1 w0 W g cap xs) (HR : ReadsInt W .u8 A m ys) (hl : xs.length + m ≤ 140737488355328)
    (h : ∀ g1 cap1 w1, Own1 w0 w1 g1 cap1 (xs ++ ys) → Upd [g] W w1 → (g1 = g ∨ W.heap.size ≤ g1) → wpList P ops Q rest (a.put o.dst (.slice (some ⟨g1, 0, none⟩) (xs ++ ys).length cap1)) w1) :
    wpList P ops Q (o :: rest) a W :=
  append_m hgd s x t 5 .u8 1 ho ht hinfo (by omega) g cap xs ys A m c hs hx HM.row HM.lt HR (by omega) fun g1 cap1 w1 h1 h2 h3 h4 =>
    h g1 cap1 w1 ⟨h1, h4, by have := HM.new; have := HM.lt; have := HM.upd.size; omega, HM.upd.andThen h2 (fun x hx => .inr (by simp at hx; subst hx; exact HM.new))⟩ h2 h3
/-- .. of one byte that has been laid for it. -/
theorem append_o1 {w0 W : World} (hgd : o.guard = none) (s x : Operand) (t : TypeId)
    (ho : o.op = .call { callee := .builtin .append, args := #[s, x], argTypes := #[t, t] })
    (ht : P.underlying t = some (.slice 5)) (hinfo : (P.info? 5).map (fun i => (i.zero, i.size, i.bytes)) = some (some (.int .u8 0), 1, 1))
    (g cap : Nat) (xs : List Int) (y : Int) (hs : a.eval s = .slice (some ⟨g, 0, none⟩) xs.length cap) (hx : a.eval x = .slice (some ⟨W.heap.size, 0, none⟩) 1 1)
    (HM : Own1 w0 W g cap xs) (hl : xs.length + 1 ≤ 140737488355328)
    (h : ∀ g1 cap1 w1, Own1 w0 w1 g1 cap1 (xs ++ [y]) → Upd [g] W w1 → (g1 = g ∨ W.heap.size ≤ g1) → wpList P ops Q rest (a.put o.dst (.slice (some ⟨g1, 0, none⟩) (xs ++ [y]).length cap1)) w1) :
    wpList P ops Q (o :: rest) a (W.alloc (.cells #[.int .u8 y] 5 (0,0))) :=
  append_o (w0 := w0) hgd s x t ho ht hinfo g cap xs [y] _ 1 1 hs hx (HM.alloc _) (one_reads W y) hl fun g1 cap1 w1 h1 h2 h3 =>
    h g1 cap1 w1 h1 (((Upd.refl [g] W).alloc _).trans h2) (by have : (W.alloc (.cells #[.int .u8 y] 5 (0,0))).heap.size = W.heap.size + 1 := by simp
                                                              omega)
end
theorem Mrow.Cdrop {w : World} {g cap : Nat} {xs : List Int} (h : Mrow w g cap (nums .u8 xs)) (hm : xs.length ≤ 9223372036854775807) (p : Nat) : Kd.C (Kd.int .u8) w (some ⟨g, p, none⟩) (xs.length - p) (xs.drop p) := by
  refine ⟨by simp, by omega, fun _ => ⟨_, rfl, fun j v hv => ⟨[.int .u8 v], rfl, rfl, fun i u hu => ?_⟩⟩⟩
  have hi : i < 1 := (List.getElem?_eq_some_iff.1 hu).1
  obtain rfl : i = 0 := by omega
  have hu' : Value.int .u8 v = u := by simpa using hu
  subst hu'
  rw [show (⟨g, p, none⟩ : Addr).add (j * (Kd.int IntKind.u8).sz + 0) = ⟨g, p + j, none⟩ from by unfold Addr.add; split <;> simp_all [Kd.int, Kd.scalar]]
  rw [List.getElem?_drop] at hv
  exact h.cells (p + j) _ (by simp [nums, hv])
/-- A goal at which the walk stands still. -/
structure Held1 (p : Prop) : Prop where
  out : p
end Go.Proofs.YtohdpnoinfnmiaaGreatDoor
