/- Contracts of the scanner's set-up: the readers and writers that NewScanner makes. Contract of the scanner's reader being set to read from a bytes.Reader. Contract of io.MultiWriter at the two writers of the scanner. A copy into a block that is known; contract of bytes.Reader.Read. Contract of bufio.Writer.Write where there is room. Contract of bufio.Reader.Read where something is in the buffer. Contract of bufio.Reader.Read where the buffer is empty. Contract of scannerReader.Read, over what bufio.Reader.Read does. -/
import Derived.Test.YtohdpnoinfnmiaaGreatDoorProg
import Derived.Test.YtohdpnoinfnmiaaGreatDoorU
import Derived.Test.YtohdpnoinfnmiaaGreatDoorWWords
import Derived.Test.YtohdpnoinfnmiaaGreatDoorWMore
import Derived.WalkKit
import Derived.WalkSpells
import Derived.WalkLawsBesides
import Derived.KernelRfl
import Derived.StillTailTactics
import Derived.Laws.CopyOwn
import Derived.Deep.Slices
import Derived.Deep.RegionHeld3
import Derived.Deep.DrawnRows
namespace Go.Proofs.YtohdpnoinfnmiaaGreatDoor
open Go.RowKit U
open Go.Proofs.YtohdpnoinfnmiaaGreatDoorW.PrintWords (Aside0)
open Go.Proofs.YtohdpnoinfnmiaaGreatDoorW.PrintMore
attribute [local go_sem] max2_int min2_int max_two min_two
theorem Tryz.info5 : (Tryz.prog.info? 5).map (fun i => (i.zero, i.size, i.bytes)) = some (some (.int .u8 0), 1, 1) := by kernel_rfl
theorem ta_a (w : World) : (Instr.typeAssert .nilIface 113 165 true).run Tryz.prog w = .ok (.tuple #[.pointer none, .bool false]) w := by kernel_rfl
theorem ta_b (w : World) : (Instr.typeAssert .nilIface 126 167 true).run Tryz.prog w = .ok (.tuple #[.pointer none, .bool false]) w := by kernel_rfl

theorem f128_calls (g : Nat) (v0 v1 v2 v3 v4 v5 v6 r : Value) (A : Option Addr) (n m : Nat) (w : World) (h : w.heap[g]? = some (.cells #[v0,v1,v2,v3,v4,v5,v6] 263 (0,0))) (hr : r = .nilIface ∨ ∃ t v, r = .iface t v) : Calls Tryz.prog 128 #[.pointer (some ⟨g,0,none⟩), .slice A n m, r] w fun e w' => e = .returned (.tuple #[]) ∧ w'.heap[g]? = some (.cells #[.slice A n m, r, .int .i64 0, .int .i64 0, .nilIface, .int .i64 (-1), .int .i64 (-1)] 263 (0,0)) ∧ Upd [g] w w' := by
  have c := blk_cells h
  have z := blk_free h
  have H := Aside0.mk h
  clear h
  rcases hr with rfl | ⟨t, v, rfl⟩
  all_goals
    go_enter Tryz.func128, Tryz.ntmps128
    go_wp2
    go_end0
    exact ⟨rfl, by simp [World.setCell, Array.getElem?_modify, H.out], by repeat (first | (with_reducible refine Upd.setCell ?_ (.inl (by simp)) _) | with_reducible exact Upd.refl _ _)⟩

/-- A row of a make: its block is known to be there. -/
theorem row_blk {w : World} {base e n : Nat} {b : Nat} {xs : List Value} (h : w.ownsRow base e 1 (.slice (some ⟨b, 0, none⟩) n n) n xs) : ∃ cur, w.heap[b]? = some (.cells cur e (0, 0)) ∧ cur.size = n := by
  rcases h.2 with ⟨h1, _⟩ | ⟨g, cap, cur, hv, _, hh, _, _, hs, _⟩
  · cases h1
  · cases hv
    exact ⟨cur, hh, by simpa using hs⟩

set_option maxRecDepth 100000 in
theorem f125_calls (n : Nat) (hn : 16 ≤ n) (hn' : n ≤ 100000) (w : World)  : Calls Tryz.prog 125 #[.nilIface, .int .i64 n] w fun e w' => ∃ g b cur, e = .returned (.pointer (some ⟨g,0,none⟩)) ∧ w.heap.size ≤ g ∧ w.heap.size ≤ b ∧ b ≠ g ∧ w'.heap[g]? = some (.cells #[.slice (some ⟨b,0,none⟩) n n, .nilIface, .int .i64 0, .int .i64 0, .nilIface, .int .i64 (-1), .int .i64 (-1)] 263 (0,0)) ∧ w'.heap[b]? = some (.cells cur 5 (0,0)) ∧ cur.size = n ∧ Upd [] w w' := by
  have ta := ta_a
  have hm : ¬ ((n : Int) < 16) := by omega
  obtain ⟨i0, hi, hz0, hz1, hz2⟩ := info_parts Tryz.info5
  go_enter Tryz.func125, Tryz.ntmps125
  go_wp2_with (first | (at_make; refine wpList_make_full _ rfl _ _ 25 rfl w.heap.size 5 i0 (.int .u8 0) 1 Tryz.underlying25 hi hz0 hz1 _ _ _ _ n rfl rfl rfl rfl ?c1 ?c2 ?c3 ?_) | fail)
  case c1 => omega
  case c2 => simp only [maxLen]; omega
  intro w1 ho hg
  have hU : Upd [] w w1 := ((Upd.refl _ _).alloc _).grown hg (by simp)
  have hb1 := blk_grown (blk_new w _) hg (by simp)
  obtain ⟨cur, hb2, hs2⟩ := row_blk ho
  have HH := Aside0.mk (And.intro hU (And.intro hb2 hs2))
  clear hU hb2 hs2 ho hg
  go_wp2_with (go_at_call 128; refine (f128_calls _ _ _ _ _ _ _ _ _ _ _ _ _ hb1 (.inl rfl)).mono ?_; rintro e w' ⟨rfl, h1, h2⟩)
  go_ret
  obtain ⟨hU, hb2, hs2⟩ := HH.out
  exact ⟨_, _, cur, rfl, Nat.le_refl _, by omega, by omega, h1, h2.keep hb2 (by simp), hs2, hU.andThen h2 (by simp)⟩

theorem f72_calls (w : World)  : Calls Tryz.prog 72 #[.nilIface] w fun e w' => ∃ g b cur, e = .returned (.pointer (some ⟨g,0,none⟩)) ∧ w.heap.size ≤ g ∧ w.heap.size ≤ b ∧ b ≠ g ∧ w'.heap[g]? = some (.cells #[.slice (some ⟨b,0,none⟩) 4096 4096, .nilIface, .int .i64 0, .int .i64 0, .nilIface, .int .i64 (-1), .int .i64 (-1)] 263 (0,0)) ∧ w'.heap[b]? = some (.cells cur 5 (0,0)) ∧ cur.size = 4096 ∧ Upd [] w w' := by
  go_enter Tryz.func72, Tryz.ntmps72
  go_wp2_with (go_at_call 125; refine (f125_calls 4096 (by omega) (by omega) _).mono ?_; rintro e w' ⟨g, b, cur, rfl, H⟩; have H := Aside0.mk H)
  go_ret
  obtain ⟨h1, h2, h3, h4, h5, h6, h7⟩ := H.out
  exact ⟨g, b, cur, rfl, h1, h2, h3, h4, h5, h6, h7⟩

set_option maxRecDepth 100000 in
theorem f73_calls (n : Nat) (hn : 16 ≤ n) (hn' : n ≤ 100000) (w : World)  : Calls Tryz.prog 73 #[.nilIface, .int .i64 n] w fun e w' => ∃ g b cur, e = .returned (.pointer (some ⟨g,0,none⟩)) ∧ w.heap.size ≤ g ∧ w.heap.size ≤ b ∧ b ≠ g ∧ w'.heap[g]? = some (.cells #[.nilIface, .slice (some ⟨b,0,none⟩) n n, .int .i64 0, .nilIface] 258 (0,0)) ∧ w'.heap[b]? = some (.cells cur 5 (0,0)) ∧ cur.size = n ∧ Upd [] w w' := by
  have ta := ta_b
  have hm : ¬ ((n : Int) ≤ 0) := by omega
  obtain ⟨i0, hi, hz0, hz1, hz2⟩ := info_parts Tryz.info5
  go_enter Tryz.func73, Tryz.ntmps73
  go_wp2_with (first | (at_make; refine wpList_make_full _ rfl _ _ 25 rfl w.heap.size 5 i0 (.int .u8 0) 1 Tryz.underlying25 hi hz0 hz1 _ _ _ _ n rfl rfl rfl rfl ?c1 ?c2 ?c3 ?_) | fail)
  case c1 => omega
  case c2 => simp only [maxLen]; omega
  intro w1 ho hg
  have hU : Upd [] w w1 := (Upd.refl _ _).grown hg (by simp)
  obtain ⟨cur, hb2, hs2⟩ := row_blk ho
  have hl : w.heap.size < w1.heap.size := lt_of_blk hb2
  have HH := Aside0.mk (And.intro hU (And.intro hb2 (And.intro hs2 hl)))
  clear hU hb2 hs2 ho hg hl
  go_wp2
  go_ret
  obtain ⟨hU, hb2, hs2, hl⟩ := HH.out
  exact ⟨_, _, cur, rfl, hU.size, Nat.le_refl _, by omega, blk_new _ _, blk_old hb2 _, hs2, hU.alloc _⟩

theorem eq_167_173 (p q : Addr) (w : World) : (binOp .eql 126 (.iface 167 (.pointer (some p))) (.iface 173 (.pointer (some q)))).run Tryz.prog w = .ok (.bool false) w := by kernel_rfl
theorem eq_165_61 (p q : Addr) (w : World) : (binOp .eql 113 (.iface 165 (.pointer (some p))) (.iface 61 (.pointer (some q)))).run Tryz.prog w = .ok (.bool false) w := by kernel_rfl
theorem eq_25 (a : Addr) (n c : Nat) (w : World) : (binOp .eql 25 (.slice (some a) n c) (.slice none 0 0)).run Tryz.prog w = .ok (.bool false) w := by kernel_rfl

set_option maxRecDepth 100000 in
theorem f126_calls (g b n m : Nat) (q : Addr) (v0 v2 v3 : Value) (w : World) (h : w.heap[g]? = some (.cells #[v0, .slice (some ⟨b,0,none⟩) n m, v2, v3] 258 (0,0))) : Calls Tryz.prog 126 #[.pointer (some ⟨g,0,none⟩), .iface 173 (.pointer (some q))] w fun e w' => e = .returned (.tuple #[]) ∧ w'.heap[g]? = some (.cells #[.nilIface, .slice (some ⟨b,0,none⟩) n m, .int .i64 0, .iface 173 (.pointer (some q))] 258 (0,0)) ∧ Upd [g] w w' := by
  have c := blk_cells h
  have z := blk_free h
  have H := Aside0.mk h
  clear h
  have e1 := eq_167_173
  have e2 := eq_25
  go_enter Tryz.func126, Tryz.ntmps126
  go_wp2
  go_end0
  exact ⟨rfl, by simp [World.setCell, Array.getElem?_modify, H.out], by repeat (first | (with_reducible refine Upd.setCell ?_ (.inl (by simp)) _) | with_reducible exact Upd.refl _ _)⟩

set_option maxRecDepth 100000 in
theorem f79_calls (g b n m : Nat) (q : Addr) (v1 v2 v3 v4 v5 v6 : Value) (w : World) (h : w.heap[g]? = some (.cells #[.slice (some ⟨b,0,none⟩) n m, v1, v2, v3, v4, v5, v6] 263 (0,0))) : Calls Tryz.prog 79 #[.pointer (some ⟨g,0,none⟩), .iface 61 (.pointer (some q))] w fun e w' => e = .returned (.tuple #[]) ∧ w'.heap[g]? = some (.cells #[.slice (some ⟨b,0,none⟩) n m, .iface 61 (.pointer (some q)), .int .i64 0, .int .i64 0, .nilIface, .int .i64 (-1), .int .i64 (-1)] 263 (0,0)) ∧ Upd [g] w w' := by
  have c := blk_cells h
  have z := blk_free h
  have H := Aside0.mk h
  clear h
  have e1 := eq_165_61
  have e2 := eq_25
  go_enter Tryz.func79, Tryz.ntmps79
  go_wp2_with (go_at_call 128; refine (f128_calls _ _ _ _ _ _ _ _ _ _ _ _ _ H.out (.inr ⟨_, _, rfl⟩)).mono ?_; rintro e w' ⟨rfl, h1, h2⟩)
  go_end0
  exact ⟨rfl, h1, h2⟩
end Go.Proofs.YtohdpnoinfnmiaaGreatDoor

namespace Go.Proofs.YtohdpnoinfnmiaaGreatDoor
open Go.RowKit U
open Go.Proofs.YtohdpnoinfnmiaaGreatDoorW.PrintWords (Aside0)
open Go.Proofs.YtohdpnoinfnmiaaGreatDoorW.PrintMore
theorem drew_blk {w : World} {g : Nat} {o : Obj} (h : w.heap[g]? = some o) : w.drew.heap[g]? = some o := h
theorem f249_calls (g : Nat) (A : Option Addr) (n c : Nat) (i : Int) (v2 : Value) (w : World) (hi : 0 ≤ i) (hi' : i ≤ 140737488355328) (h : w.heap[g]? = some (.cells #[.slice A n c, .int .i64 i, v2] 133 (0,0))) : Calls Tryz.prog 249 #[.pointer (some ⟨g,0,none⟩), .int .i64 0, .int .i64 1] w fun e w' => e = .returned (.tuple #[.int .i64 i, .nilIface]) ∧ w'.heap[g]? = some (.cells #[.slice A n c, .int .i64 i, .int .i64 (-1)] 133 (0,0)) ∧ Upd [g] w w' := by
  have c := blk_cells h
  have z := blk_free h
  have H := Aside0.mk h
  clear h
  go_enter Tryz.func249, Tryz.ntmps249
  go_wp2
  go_ret2
  exact ⟨rfl, by simp [World.setCell, Array.getElem?_modify, H.out], by repeat (first | (with_reducible refine Upd.setCell ?_ (.inl (by simp)) _) | with_reducible exact Upd.refl _ _)⟩
theorem mt_249 (a : Addr) (w : World) : (method 573 61 (.pointer (some a)) "Seek").run Tryz.prog w = .ok (249, .pointer (some a)) w := by kernel_rfl
theorem ta_61_115 (p : Addr) (w : World) : (Instr.typeAssert (.iface 61 (.pointer (some p))) 113 115 true).run Tryz.prog w = .ok (.tuple #[.iface 61 (.pointer (some p)), .bool true]) w := by kernel_rfl
set_option maxRecDepth 100000 in
set_option maxHeartbeats 800000 in
theorem f74_calls (g gr gw gb br bw nr mr nw mw : Nat) (A : Option Addr) (n c0 : Nat) (i : Int) (q : Addr) (hi : 0 ≤ i) (hi' : i ≤ 140737488355328) (v0 v4 : Value) (r1 r2 r3 r4 r5 r6 w0 w2 w3 b2 : Value) (w : World)
   (h : w.heap[g]? = some (.cells #[v0, .iface 173 (.pointer (some q)), .pointer (some ⟨gr,0,none⟩), .pointer (some ⟨gw,0,none⟩), v4] 170 (0,0))) 
   (hr : w.heap[gr]? = some (.cells #[.slice (some ⟨br,0,none⟩) nr mr, r1, r2, r3, r4, r5, r6] 263 (0,0)))
   (hw : w.heap[gw]? = some (.cells #[w0, .slice (some ⟨bw,0,none⟩) nw mw, w2, w3] 258 (0,0)))
   (hb : w.heap[gb]? = some (.cells #[.slice A n c0, .int .i64 i, b2] 133 (0,0))) : 
   Calls Tryz.prog 74 #[.pointer (some ⟨g,0,none⟩), .iface 61 (.pointer (some ⟨gb,0,none⟩))] w fun e w' => e = .returned (.tuple #[]) ∧ 
     w'.heap[g]? = some (.cells #[.iface 61 (.pointer (some ⟨gb,0,none⟩)), .iface 173 (.pointer (some q)), .pointer (some ⟨gr,0,none⟩), .pointer (some ⟨gw,0,none⟩), .int .i64 i] 170 (0,0)) ∧
     w'.heap[gr]? = some (.cells #[.slice (some ⟨br,0,none⟩) nr mr, .iface 61 (.pointer (some ⟨gb,0,none⟩)), .int .i64 0, .int .i64 0, .nilIface, .int .i64 (-1), .int .i64 (-1)] 263 (0,0)) ∧
     w'.heap[gw]? = some (.cells #[.nilIface, .slice (some ⟨bw,0,none⟩) nw mw, .int .i64 0, .iface 173 (.pointer (some q))] 258 (0,0)) ∧
     w'.heap[gb]? = some (.cells #[.slice A n c0, .int .i64 i, .int .i64 (-1)] 133 (0,0)) ∧ Upd [g, gr, gw, gb] w w' := by
  have c := blk_cells h
  have z := blk_free h
  have H := Aside0.mk h
  have HR := Aside0.mk hr
  have HW := Aside0.mk hw
  have HB := Aside0.mk hb
  clear hr hw hb h
  have ta := ta_61_115
  go_enter Tryz.func74, Tryz.ntmps74
  go_wp2_with fail
  obtain ⟨H1, U1⟩ := set_open H.out 0 (.iface 61 (.pointer (some ⟨gb, 0, none⟩)))
  simp only [List.setIfInBounds_toArray, List.set_cons_zero] at H1
  clear c z
  generalize w.setCell ⟨g, 0, none⟩ (.iface 61 (.pointer (some ⟨gb, 0, none⟩))) = w1 at *
  have c := blk_cells H1
  have z := blk_free H1
  replace HR := Aside0.mk (U1.keepT H.out HR.out (by decide))
  replace HW := Aside0.mk (U1.keepT H.out HW.out (by decide))
  replace HB := Aside0.mk (U1.keepT H.out HB.out (by decide))
  replace H := Aside0.mk H1
  replace U1 := Aside0.mk (U1.mono (M := [g, gr, gw, gb]) (by simp))
  clear H1
  go_still_tail 8, (by kernel_rfl)
  change wpList _ _ _ _ _ w1.drew
  clear c z
  replace H := Aside0.mk (drew_blk H.out)
  replace HR := Aside0.mk (drew_blk HR.out)
  replace HW := Aside0.mk (drew_blk HW.out)
  replace HB := Aside0.mk (drew_blk HB.out)
  replace U1 := Aside0.mk U1.out.drew
  go_wp2_with (go_at_call 79; refine (f79_calls _ _ _ _ _ _ _ _ _ _ _ _ HR.out).mono ?_; rintro e w5 ⟨rfl, h1, h2⟩)
  replace H := Aside0.mk (h2.keepT HR.out H.out (by decide))
  replace HW := Aside0.mk (h2.keepT HR.out HW.out (by decide))
  replace HB := Aside0.mk (h2.keepT HR.out HB.out (by decide))
  replace HR := Aside0.mk h1
  replace U1 := Aside0.mk (U1.out.trans (h2.mono (M := [g, gr, gw, gb]) (by simp)))
  clear h1 h2
  have c := blk_cells H.out
  have z := blk_free H.out
  go_still_tail 8, (by kernel_rfl)
  change wpList _ _ _ _ _ w5.drew
  clear c z
  replace H := Aside0.mk (drew_blk H.out)
  replace HR := Aside0.mk (drew_blk HR.out)
  replace HW := Aside0.mk (drew_blk HW.out)
  replace HB := Aside0.mk (drew_blk HB.out)
  replace U1 := Aside0.mk U1.out.drew
  go_wp2_with (first | (go_at_call 126; refine (f126_calls _ _ _ _ _ _ _ _ _ HW.out).mono ?_; rintro e w6 ⟨rfl, h1, h2⟩; replace H := Aside0.mk (h2.keepT HW.out H.out (by decide)); replace HR := Aside0.mk (h2.keepT HW.out HR.out (by decide)); replace HB := Aside0.mk (h2.keepT HW.out HB.out (by decide)); replace HW := Aside0.mk h1; replace U1 := Aside0.mk (U1.out.trans (h2.mono (M := [g, gr, gw, gb]) (by simp))); clear h1 h2; have c := blk_cells H.out; have z := blk_free H.out))
  obtain ⟨H1, U2⟩ := set_open H.out 4 (.int .i64 0)
  simp only [List.setIfInBounds_toArray, List.set_cons_zero, List.set_cons_succ] at H1
  clear c z
  generalize w6.setCell ⟨g, 4, none⟩ (.int .i64 0) = w7 at *
  replace HR := Aside0.mk (U2.keepT H.out HR.out (by decide))
  replace HW := Aside0.mk (U2.keepT H.out HW.out (by decide))
  replace HB := Aside0.mk (U2.keepT H.out HB.out (by decide))
  replace H := Aside0.mk H1
  replace U1 := Aside0.mk (U1.out.trans (U2.mono (M := [g, gr, gw, gb]) (by simp)))
  clear H1 U2
  rw [mt_249]
  go_wp2_with (go_at_call 249; refine (f249_calls gb A n c0 i _ _ hi hi' HB.out).mono ?_; rintro e w8 ⟨rfl, h1, h2⟩; replace H := Aside0.mk (h2.keepT HB.out H.out (by decide)); replace HR := Aside0.mk (h2.keepT HB.out HR.out (by decide)); replace HW := Aside0.mk (h2.keepT HB.out HW.out (by decide)); replace HB := Aside0.mk h1; replace U1 := Aside0.mk (U1.out.trans (h2.mono (M := [g, gr, gw, gb]) (by simp))); clear h1 h2; have c := blk_cells H.out; have z := blk_free H.out)
  obtain ⟨H1, U2⟩ := set_open H.out 4 (.int .i64 i)
  simp only [List.setIfInBounds_toArray, List.set_cons_zero, List.set_cons_succ] at H1
  go_end0
  exact ⟨rfl, H1, U2.keepT H.out HR.out (by decide), U2.keepT H.out HW.out (by decide), U2.keepT H.out HB.out (by decide), U1.out.trans (U2.mono (by simp))⟩
end Go.Proofs.YtohdpnoinfnmiaaGreatDoor

namespace Go.Proofs.YtohdpnoinfnmiaaGreatDoor
open Go.RowKit U
open Go.Proofs.YtohdpnoinfnmiaaGreatDoorW.PrintWords (Aside0)
open Go.Proofs.YtohdpnoinfnmiaaGreatDoorW.PrintMore
theorem Tryz.info126 : (Tryz.prog.info? 126).map (fun i => (i.zero, i.size, i.bytes)) = some (some .nilIface, 1, 16) := by kernel_rfl
theorem ta_117 (p : Value) (w : World) : (Instr.typeAssert (.iface 117 p) 126 173 true).run Tryz.prog w = .ok (.tuple #[.pointer none, .bool false]) w := by kernel_rfl
theorem ta_162 (p : Value) (w : World) : (Instr.typeAssert (.iface 162 p) 126 173 true).run Tryz.prog w = .ok (.tuple #[.pointer none, .bool false]) w := by kernel_rfl
set_option maxRecDepth 100000 in
set_option maxHeartbeats 800000 in
theorem f47_calls (b : Nat) (p1 p2 : Value) (w : World) (h : w.heap[b]? = some (.cells #[.iface 117 p1, .iface 162 p2] 126 (0,0))) : Calls Tryz.prog 47 #[.slice (some ⟨b,0,none⟩) 2 2] w fun e w' => ∃ q, e = .returned (.iface 173 (.pointer (some q))) ∧ w.heap.size ≤ q.block ∧ Upd [] w w' := by
  have c := blk_cells h
  have H := Aside0.mk h
  clear h
  have t1 := ta_117
  have t2 := ta_162
  obtain ⟨i0, hi, hz0, hz1, hz2⟩ := info_parts Tryz.info126
  go_enter Tryz.func47, Tryz.ntmps47
  go_wp2_with (first | (at_make; refine wpList_make_own _ rfl _ _ 172 rfl w.heap.size 126 i0 .nilIface 1 Tryz.underlying172 hi hz0 hz1 _ _ _ 2 rfl rfl rfl (by omega) (by simp [maxLen]) (Nat.le_refl _) ?_) | fail)
  intro w1 ho hg
  have hU : Upd [] w w1 := (Upd.refl _ _).grown hg (by simp)
  have hb := blk_grown H.out hg (by simp)
  have hl := hU.size
  have c := blk_cells hb
  have hs1 : w.heap.size < w1.heap.size := (ho.lt _ rfl).2
  have HH := Aside0.mk (And.intro hU (And.intro hb ho))
  clear hU hb ho hg
  go_wp2_with fail
  refine wp_loop_rounds 3 ?_
  rw [rounds_succ]
  go_wp2_with (first | (at_builtin; refine wpList_append_fits _ rfl _ _ 172 rfl w.heap.size 126 i0 1 Tryz.underlying172 hi hz1 w.heap.size 0 2 [] rfl (HH.out.2.2.alloc _) ⟨w1.heap.size, 0, none⟩ 1 1 [.iface 117 p1] rfl (by simp) (cell_one_new _ _ _) (by simp [Value.oneCell']) (by omega) ?_; intro w2 ho2 hg2) | fail)
  have hbl : b < w.heap.size := lt_of_blk H.out
  have U2 : Upd [] w w2 := ((HH.out.1.alloc _).grown hg2 (by simp))
  have hb2 := blk_grown (blk_old HH.out.2.1 _) hg2 (by simp; omega)
  have hs2 : w.heap.size < w2.heap.size := (ho2.lt _ rfl).2
  replace HH := Aside0.mk (And.intro U2 (And.intro hb2 ho2))
  clear c
  have c := blk_cells hb2
  clear U2 hb2 ho2 hg2
  rw [rounds_succ]
  go_wp2_with (first | (at_builtin; refine wpList_append_fits _ rfl _ _ 172 rfl w.heap.size 126 i0 1 Tryz.underlying172 hi hz1 w.heap.size 1 2 ([] ++ [.iface 117 p1]) rfl (HH.out.2.2.alloc _) ⟨w2.heap.size, 0, none⟩ 1 1 [.iface 162 p2] rfl (by simp) (cell_one_new _ _ _) (by simp [Value.oneCell']) (by omega) ?_; intro w3 ho3 hg3) | fail)
  have U3 : Upd [] w w3 := ((HH.out.1.alloc _).grown hg3 (by simp))
  have hs3 : w.heap.size < w3.heap.size := (ho3.lt _ rfl).2
  replace HH := Aside0.mk (And.intro U3 ho3)
  clear U3 ho3 hg3 c
  rw [rounds_succ]
  go_wp2
  go_ret
  exact ⟨_, rfl, by simp; omega, HH.out.1.alloc _⟩
end Go.Proofs.YtohdpnoinfnmiaaGreatDoor

namespace Go.Proofs.YtohdpnoinfnmiaaGreatDoor
open Go.RowKit U
open Go.Proofs.YtohdpnoinfnmiaaGreatDoorW.PrintWords (Aside0 Kd nums)
open Go.Proofs.YtohdpnoinfnmiaaGreatDoorW.PrintMore
/-- The cells of a row of bytes that is read. -/
theorem bytes_cells {w : World} {A : Option Addr} {n : Nat} {bs : List Int} (h : Kd.C (Kd.int .u8) w A n bs) (hn : 0 < n) : ∃ ad, A = some ad ∧ ∀ j v, bs[j]? = some v → w.cell? (ad.add j) = some (.int .u8 v) := by
  obtain ⟨ad, e, hc⟩ := h.2.2 hn
  refine ⟨ad, e, fun j v hv => ?_⟩
  obtain ⟨c, h1, h2, h3⟩ := hc j v hv
  have h2' : c = [.int .u8 v] := h2
  subst h2'
  have := h3 0 _ rfl
  simpa [Kd.int, Kd.scalar] using this
theorem setRow_open {w : World} {g : Nat} {t : TypeId} {cs : Array Value} (h : w.heap[g]? = some (.cells cs t (0, 0))) (cs' : Array Value) : (w.setRow g cs').heap[g]? = some (.cells cs' t (0, 0)) ∧ Upd [g] w (w.setRow g cs') :=
  ⟨setRow_heap w g _ _ t _ h, ⟨rfl, rfl, rfl, by simp, fun i _ hn => setRow_other w g i _ (by simpa using hn)⟩⟩
/-- copy into a block that is known whole; the world behind is a variable. -/
theorem wp_copy {P : Program} {w : World} {ops : Array Oper} {rest : List Oper} {o : Oper} {a : Act} {Q : Exit → Act → World → Prop} (hgd : o.guard = none) (d s : Operand) (dT sT : TypeId)
    (ho : o.op = .call { callee := .builtin .copy, args := #[d, s], argTypes := #[dT, sT] }) (elem : TypeId) (hu : P.underlying dT = some (.slice elem)) (hsz : (P.info? elem).map (·.size) = some 1)
    (dp sp : Option Addr) (dLen dCap sLen sCap : Nat) (hd : a.eval d = .slice dp dLen dCap) (hs : a.eval s = .slice sp sLen sCap)
    (g off : Nat) (cur : Array Value) (t : TypeId) (hg : w.heap[g]? = some (.cells cur t (0, 0))) (cs : List Value) (hn : cs.length = Nat.min sLen dLen)
    (hpos : 0 < cs.length → dp = some ⟨g, off, none⟩ ∧ ∃ ad, sp = some ad ∧ ∀ j v, cs[j]? = some v → w.cell? (ad.add j) = some v)
    (hfit : off + cs.length ≤ cur.size) (h1 : ∀ v ∈ cs, v.oneCell' = true)
    (h : ∀ w', Aside0 (w'.heap[g]? = some (.cells (splice cur.toList off cs).toArray t (0, 0))) → Aside0 (Upd [g] w w') → wpList P ops Q rest (a.put o.dst (goInt cs.length)) w') :
    wpList P ops Q (o :: rest) a w := by
  by_cases h0 : cs.length = 0
  · obtain rfl : cs = [] := List.eq_nil_of_length_eq_zero h0
    refine wpList_copy_nothing hgd d s dT sT ho elem hu hsz dp sp dLen dCap sLen sCap hd hs (by simpa using hn.symm) ?_
    exact h w ⟨by simpa [splice] using hg⟩ ⟨Upd.refl _ _⟩
  · obtain ⟨rfl, ad, rfl, hsrc⟩ := hpos (by omega)
    refine wpList_copy_own hgd d s dT sT ho elem hu hsz g off dLen dCap ad sLen sCap hd hs cur t hg cs hn hsrc (by simpa using hfit) h1 ?_
    obtain ⟨k1, k2⟩ := setRow_open hg (cur.toList.take off ++ (cs ++ cur.toList.drop (off + cs.length))).toArray
    exact h _ ⟨by simpa [splice] using k1⟩ ⟨k2⟩
theorem size5 : (Tryz.prog.info? 5).map (·.size) = some 1 := by kernel_rfl
theorem nums_one (k : IntKind) (xs : List Int) : ∀ v ∈ nums k xs, v.oneCell' = true := by
  intro v hv
  simp only [nums, List.mem_map] at hv
  obtain ⟨x, _, rfl⟩ := hv
  rfl
set_option maxRecDepth 100000 in
set_option maxHeartbeats 800000 in
theorem f246_calls (g d L C : Nat) (A : Option Addr) (c0 : Nat) (bs : List Int) (i : Nat) (cd : Array Value) (v2 : Value) (w : World) (hi : i < bs.length) (hL : bs.length < 140737488355328) (hc0 : bs.length ≤ c0)
    (h : w.heap[g]? = some (.cells #[.slice A bs.length c0, .int .i64 i, v2] 133 (0,0))) (hd : w.heap[d]? = some (.cells cd 5 (0,0))) (hdL : L ≤ cd.size) (hb : Kd.C (Kd.int .u8) w A bs.length bs) (hA : ∀ a, A = some a → a.block ≠ g) :
    Calls Tryz.prog 246 #[.pointer (some ⟨g,0,none⟩), .slice (some ⟨d,0,none⟩) L C] w fun e w' => e = .returned (.tuple #[.int .i64 (min (bs.length - i) L : Nat), .nilIface]) ∧ 
      w'.heap[g]? = some (.cells #[.slice A bs.length c0, .int .i64 (i + min (bs.length - i) L : Nat), .int .i64 (-1)] 133 (0,0)) ∧
      w'.heap[d]? = some (.cells (splice cd.toList 0 (nums .u8 ((bs.drop i).take L))).toArray 5 (0,0)) ∧ Upd [g, d] w w' := by
  have c := blk_cells h
  have z := blk_free h
  have H := Aside0.mk h
  have HD := Aside0.mk hd
  obtain ⟨ad, rfl, hcell⟩ := bytes_cells hb (by omega)
  have hne := hA ad rfl
  have HC := Aside0.mk hcell
  clear h hd hb hcell hA
  have hlt : decide (bs.length ≤ i) = false := by simp; omega
  go_enter Tryz.func246, Tryz.ntmps246
  go_wp2_with fail
  go_quiet (fail)
  replace H := Aside0.mk (show (w.drewN nq).heap[g]? = _ from H.out)
  replace HD := Aside0.mk (show (w.drewN nq).heap[d]? = _ from HD.out)
  have U1 := Aside0.mk ((Upd.refl [g, d] w).drewN nq)
  replace HC := Aside0.mk (show ∀ j v, bs[j]? = some v → (w.drewN nq).cell? (ad.add j) = some (.int .u8 v) from HC.out)
  clear c z
  generalize w.drewN nq = w1 at *
  have c := blk_cells H.out
  have z := blk_free H.out
  go_wp2_with fail
  obtain ⟨H1, U2⟩ := set_open H.out 2 (.int .i64 (-1))
  simp only [List.setIfInBounds_toArray, List.set_cons_zero, List.set_cons_succ] at H1
  clear c z
  have HC2 : ∀ j v, bs[j]? = some v → (w1.setCell ⟨g, 2, none⟩ (.int .i64 (-1))).cell? (ad.add j) = some (.int .u8 v) := fun j v hv => by
    have hb : (ad.add j).block ≠ g := by unfold Addr.add; split <;> exact hne
    exact (World.cell?_of_block (Below.heap_setCell w1 ⟨g, 2, none⟩ _ _ hb)).trans (HC.out j v hv)
  generalize w1.setCell ⟨g, 2, none⟩ (.int .i64 (-1)) = w2 at *
  replace HD := Aside0.mk (U2.keepT H.out HD.out (by decide))
  replace H := Aside0.mk H1
  replace U1 := Aside0.mk (U1.out.trans (U2.mono (M := [g, d]) (by simp)))
  replace HC := Aside0.mk HC2
  clear HC2 U2 H1
  have c := blk_cells H.out
  have z := blk_free H.out
  have hi0 : 0 ≤ (i : Int) := by omega
  have hin : i ≤ bs.length := by omega
  have hin' : (i : Int) ≤ bs.length := by omega
  go_still_tail 10, (by kernel_rfl)
  change wpList _ _ _ _ _ w2.drew
  clear c z
  replace H := Aside0.mk (drew_blk H.out)
  replace HD := Aside0.mk (drew_blk HD.out)
  replace U1 := Aside0.mk U1.out.drew
  replace HC := Aside0.mk (show ∀ j v, bs[j]? = some v → w2.drew.cell? (ad.add j) = some (.int .u8 v) from HC.out)
  generalize w2.drew = w3 at *
  have hlen : (nums .u8 ((bs.drop i).take L)).length = min (bs.length - i) L := by simp [nums, Nat.min_comm]
  refine wp_copy rfl _ _ 25 25 rfl 5 Tryz.underlying25 size5 _ _ _ _ _ _ rfl rfl d 0 cd 5 HD.out (nums .u8 ((bs.drop i).take L)) hlen ?hpos ?hfit (nums_one _ _) ?_
  case hpos =>
    intro _
    refine ⟨rfl, ad.add i, if_neg (by omega), fun j v hv => ?_⟩
    rw [Go.Deep.add_add]
    simp only [nums, List.getElem?_map, Option.map_eq_some_iff] at hv
    obtain ⟨x, hx, rfl⟩ := hv
    refine HC.out _ _ ?_
    rw [List.getElem?_take] at hx
    split at hx
    · rw [List.getElem?_drop] at hx; exact hx
    · cases hx
  case hfit => rw [hlen]; omega
  intro w4 HD4 U4
  rw [hlen]
  clear hlen
  replace H := Aside0.mk (U4.out.keepT HD.out H.out (by decide))
  replace HD := HD4
  replace U1 := Aside0.mk (U1.out.trans (U4.out.mono (M := [g, d]) (by simp)))
  clear HD4 U4 HC
  have c := blk_cells H.out
  have z := blk_free H.out
  have hmn : ((min (bs.length - i) L : Nat) : Int) ≤ 140737488355328 := by omega
  have hmn0 : 0 ≤ ((min (bs.length - i) L : Nat) : Int) := by omega
  generalize hm : min (bs.length - i) L = m at *
  have HM := Aside0.mk hm
  clear hm
  have hsum : (i : Int) + (m : Int) ≤ 281474976710656 := by omega
  go_wp2
  go_ret2
  obtain ⟨H1, U2⟩ := set_open H.out 1 (.int .i64 ((i : Int) + (m : Int)))
  simp only [List.setIfInBounds_toArray, List.set_cons_zero, List.set_cons_succ] at H1
  rw [HM.out]
  exact ⟨rfl, H1, U2.keepT H.out HD.out (by decide), U1.out.trans (U2.mono (by simp))⟩
end Go.Proofs.YtohdpnoinfnmiaaGreatDoor

namespace Go.Proofs.YtohdpnoinfnmiaaGreatDoor
open Go.RowKit U
open Go.Proofs.YtohdpnoinfnmiaaGreatDoorW.PrintWords (Aside0 Kd nums)
open Go.Proofs.YtohdpnoinfnmiaaGreatDoorW.PrintMore
theorem drewN_blk {w : World} {g : Nat} {o : Obj} (q : Nat) (h : w.heap[g]? = some o) : (w.drewN q).heap[g]? = some o := h
theorem f186_calls (g bw n m : Nat) (k : Nat) (v0 v3 : Value) (w : World) (hk : k ≤ n) (hn : n ≤ 100000) (h : w.heap[g]? = some (.cells #[v0, .slice (some ⟨bw,0,none⟩) n m, .int .i64 k, v3] 258 (0,0))) :
    Calls Tryz.prog 186 #[.pointer (some ⟨g,0,none⟩)] w fun e w' => e = .returned (.int .i64 (n - k : Nat)) ∧ ∃ q, w' = w.drewN q := by
  have c := blk_cells h
  clear h
  have hk' : (k : Int) ≤ n := by omega
  have hn' : (n : Int) ≤ 100000 := by omega
  have e1 : ((n - k : Nat) : Int) = n - k := by omega
  have E1 := Aside0.mk e1
  clear e1
  go_enter Tryz.func186, Tryz.ntmps186
  go_wp2_with fail
  go_quiet (fail)
  go_wp2
  go_ret
  exact ⟨by rw [E1.out]; rfl, _, rfl⟩
set_option maxRecDepth 100000 in
set_option maxHeartbeats 800000 in
theorem f274_calls (g bw n m d L C : Nat) (td : TypeId) (k : Nat) (v3 : Value) (cw cd : Array Value) (w : World) (hn : n ≤ 100000) (hL : k + L ≤ n) (hL0 : 0 < L)
   (h : w.heap[g]? = some (.cells #[.nilIface, .slice (some ⟨bw,0,none⟩) n m, .int .i64 k, v3] 258 (0,0))) (hb : w.heap[bw]? = some (.cells cw 5 (0,0))) (hcw : cw.size = n) (hnm : n ≤ m)
   (hd : w.heap[d]? = some (.cells cd td (0,0))) (hdL : L ≤ cd.size) (hone : ∀ v ∈ cd.toList, v.oneCell' = true) :
    Calls Tryz.prog 274 #[.pointer (some ⟨g,0,none⟩), .slice (some ⟨d,0,none⟩) L C] w fun e w' => e = .returned (.tuple #[.int .i64 L, .nilIface]) ∧ 
      w'.heap[g]? = some (.cells #[.nilIface, .slice (some ⟨bw,0,none⟩) n m, .int .i64 (k + L : Nat), v3] 258 (0,0)) ∧
      w'.heap[bw]? = some (.cells (splice cw.toList k (cd.toList.take L)).toArray 5 (0,0)) ∧ Upd [g, bw] w w' := by
  have c := blk_cells h
  have z := blk_free h
  have H := Aside0.mk h
  have HB := Aside0.mk hb
  have HD := Aside0.mk hd
  have HS := Aside0.mk hcw
  have HO := Aside0.mk hone
  have hlt : decide (n - k < L) = false := by simp; omega
  clear h hb hd hcw hone
  go_enter Tryz.func274, Tryz.ntmps274
  go_wp2_with fail
  refine wp_loop_rounds 1 ?_
  rw [rounds_succ]
  go_wp2_with (go_at_call 186; refine (f186_calls g bw n m k _ _ _ (by omega) hn H.out).mono ?_; rintro e w1 ⟨rfl, q, rfl⟩)
  replace H := Aside0.mk (drewN_blk q H.out)
  replace HB := Aside0.mk (drewN_blk q HB.out)
  replace HD := Aside0.mk (drewN_blk q HD.out)
  have U1 := Aside0.mk ((Upd.refl [g, bw] w).drewN q)
  clear c z
  generalize w.drewN q = w1 at *
  have c := blk_cells H.out
  have z := blk_free H.out
  have hi0 : 0 ≤ (k : Int) := by omega
  have hin : k ≤ n := by omega
  have hin' : (k : Int) ≤ n := by omega
  go_still_tail 10, (by kernel_rfl)
  change wpList _ _ _ _ _ w1.drew
  clear c z
  replace H := Aside0.mk (drew_blk H.out)
  replace HB := Aside0.mk (drew_blk HB.out)
  replace HD := Aside0.mk (drew_blk HD.out)
  replace U1 := Aside0.mk U1.out.drew
  generalize w1.drew = w2 at *
  have hlen : (cd.toList.take L).length = L := by simp; omega
  refine wp_copy rfl _ _ 25 25 rfl 5 Tryz.underlying25 size5 _ _ _ _ _ _ rfl rfl bw k cw 5 HB.out (cd.toList.take L) ?hl ?hpos ?hfit (fun v hv => HO.out v (List.mem_of_mem_take hv)) ?_
  case hl => rw [hlen]; show L = min L (n - k); omega
  case hpos =>
    intro _
    refine ⟨?_, _, rfl, fun j v hv => ?_⟩
    · rw [if_neg (by omega)]
    · rw [List.getElem?_take] at hv
      split at hv
      · have := blk_cells HD.out j
        rw [show (⟨d, 0, none⟩ : Addr).add j = ⟨d, j, none⟩ from by unfold Addr.add; split <;> simp_all, this]
        simpa using hv
      · cases hv
  case hfit => rw [hlen, HS.out]; omega
  intro w4 HB4 U4
  rw [hlen]
  clear hlen
  have hne : g ≠ bw := blk_ne H.out HB.out (by decide)
  replace H := Aside0.mk (U4.out.keepT HB.out H.out (by decide))
  replace U1 := Aside0.mk (U1.out.trans (U4.out.mono (M := [g, bw]) (by simp)))
  clear U4 HD HB
  have c := blk_cells H.out
  have z := blk_free H.out
  have hkl : (k : Int) + L ≤ 100000 := by omega
  have hl2 : (L : Int) ≤ 100000 := by omega
  go_wp2
  go_ret2
  obtain ⟨H1, U2⟩ := set_open H.out 2 (.int .i64 ((k : Int) + (L : Int)))
  simp only [List.setIfInBounds_toArray, List.set_cons_zero, List.set_cons_succ] at H1
  exact ⟨rfl, H1, U2.keep1 HB4.out (Ne.symm hne), U1.out.trans (U2.mono (by simp))⟩
end Go.Proofs.YtohdpnoinfnmiaaGreatDoor

namespace Go.Proofs.YtohdpnoinfnmiaaGreatDoor
open Go.RowKit U
open Go.Proofs.YtohdpnoinfnmiaaGreatDoorW.PrintWords (Aside0 Kd nums)
open Go.Proofs.YtohdpnoinfnmiaaGreatDoorW.PrintMore
set_option maxRecDepth 100000 in
set_option maxHeartbeats 1600000 in
/-- bufio.Reader.Read where there is something in the buffer. -/
theorem f273_more (g br n d L C rr rw : Nat) (td : TypeId) (htd : td ≠ 263) (v1 v5 v6 : Value) (cr cd : Array Value) (xs : List Int) (w : World) (hn : n ≤ 100000) (hL0 : 0 < L) (hLm : L ≤ 140737488355328) (hrw : rr < rw) (hrn : rw ≤ n) (hxs : xs.length = rw - rr)
   (h : w.heap[g]? = some (.cells #[.slice (some ⟨br,0,none⟩) n n, v1, .int .i64 rr, .int .i64 rw, .nilIface, v5, v6] 263 (0,0))) (hb : w.heap[br]? = some (.cells cr 5 (0,0))) (hcr : cr.size = n)
   (hx : (cr.toList.drop rr).take (rw - rr) = nums .u8 xs)
   (hd : w.heap[d]? = some (.cells cd td (0,0))) (hdL : L ≤ cd.size) (hdb : d ≠ br) :
    Calls Tryz.prog 273 #[.pointer (some ⟨g,0,none⟩), .slice (some ⟨d,0,none⟩) L C] w fun e w' => e = .returned (.tuple #[.int .i64 (min xs.length L : Nat), .nilIface]) ∧ 
      (∃ q, w'.heap[g]? = some (.cells #[.slice (some ⟨br,0,none⟩) n n, v1, .int .i64 ((rr : Int) + (min xs.length L : Nat)), .int .i64 rw, .nilIface, .int .i64 q, .int .i64 (-1)] 263 (0,0))) ∧
      w'.heap[br]? = some (.cells cr 5 (0,0)) ∧ 
      w'.heap[d]? = some (.cells (splice cd.toList 0 (nums .u8 (xs.take L))).toArray td (0,0)) ∧ Upd [g, d] w w' := by
  have c := blk_cells h
  have z := blk_free h
  have H := Aside0.mk h
  have HB := Aside0.mk hb
  have HD := Aside0.mk hd
  have HS := Aside0.mk hcr
  have HX := Aside0.mk hx
  have HXL := Aside0.mk hxs
  clear h hb hd hcr hx hxs
  have hl0 : ((L : Int) == 0) = false := by simp; omega
  have hlr : ((rr : Int) == rw) = false := by simp; omega
  go_enter Tryz.func273, Tryz.ntmps273
  go_wp2_with fail
  go_quiet (fail)
  replace H := Aside0.mk (drewN_blk nq H.out)
  replace HB := Aside0.mk (drewN_blk nq HB.out)
  replace HD := Aside0.mk (drewN_blk nq HD.out)
  have U1 := Aside0.mk ((Upd.refl [g, d] w).drewN nq)
  clear c z
  generalize w.drewN nq = w1 at *
  have c := blk_cells H.out
  have z := blk_free H.out
  go_wp2_with fail
  have hi0 : 0 ≤ (rr : Int) := by omega
  have hin : rr ≤ rw := by omega
  have hin' : (rr : Int) ≤ rw := by omega
  have hin3 : (rw : Int) ≤ n := by omega
  go_still_tail 14, (by kernel_rfl)
  change wpList _ _ _ _ _ w1.drew
  clear c z
  replace H := Aside0.mk (drew_blk H.out)
  replace HB := Aside0.mk (drew_blk HB.out)
  replace HD := Aside0.mk (drew_blk HD.out)
  replace U1 := Aside0.mk U1.out.drew
  generalize w1.drew = w2 at *
  have hxe : nums .u8 (xs.take L) = ((cr.toList.drop rr).take (rw - rr)).take L := by rw [HX.out]; simp [nums]
  have hlen : (nums .u8 (xs.take L)).length = min xs.length L := by simp [nums, Nat.min_comm]
  refine wp_copy rfl _ _ 25 25 rfl 5 Tryz.underlying25 size5 _ _ _ _ _ _ rfl rfl d 0 cd td HD.out (nums .u8 (xs.take L)) ?hl ?hpos ?hfit (nums_one _ _) ?_
  case hl => rw [hlen]; show min xs.length L = min (rw - rr) L; rw [HXL.out]
  case hpos =>
    intro _
    refine ⟨rfl, _, if_neg (by omega), fun j v hv => ?_⟩
    rw [hxe, List.getElem?_take] at hv
    split at hv
    · rw [List.getElem?_take] at hv
      split at hv
      · rw [List.getElem?_drop] at hv
        have := blk_cells HB.out (rr + j)
        rw [show ((⟨br, rr, none⟩ : Addr).add j) = ⟨br, rr + j, none⟩ from by unfold Addr.add; split <;> simp_all, this]
        simpa using hv
      · cases hv
    · cases hv
  case hfit => rw [hlen]; omega
  intro w4 HD4 U4
  rw [hlen]
  clear hlen hxe
  replace H := Aside0.mk (U4.out.keepT HD.out H.out (Ne.symm htd))
  replace HB := Aside0.mk (U4.out.keep1 HB.out (Ne.symm hdb))
  replace U1 := Aside0.mk (U1.out.trans (U4.out.mono (M := [g, d]) (by simp)))
  replace HD := HD4
  clear U4 HD4
  have hm0 : 0 < min xs.length L := by have := HXL.out; omega
  have hm1 : rr + min xs.length L ≤ rw := by have := HXL.out; omega
  have hcell : w4.cell? ⟨br, rr + min xs.length L - 1, none⟩ = some (.int .u8 (xs.getD (min xs.length L - 1) 0)) := by
    rw [blk_cells HB.out]
    have h1 : ((cr.toList.drop rr).take (rw - rr))[min xs.length L - 1]? = some (.int .u8 (xs.getD (min xs.length L - 1) 0)) := by
      rw [HX.out]
      simp only [nums, List.getElem?_map]
      rw [List.getElem?_eq_getElem (by omega)]
      simp [List.getD_eq_getElem?_getD, List.getElem?_eq_getElem (show min xs.length L - 1 < xs.length by omega)]
    rw [List.getElem?_take_of_lt (by omega), List.getElem?_drop] at h1
    rw [show rr + min xs.length L - 1 = rr + (min xs.length L - 1) by omega]
    simpa using h1
  generalize hm : min xs.length L = m at *
  have HM := Aside0.mk hm
  clear hm
  have c := blk_cells H.out
  have z := blk_free H.out
  have hrm : (rr : Int) + m ≤ 100000 := by omega
  have hmm : (m : Int) ≤ 100000 := by omega
  have hmm0 : 0 < (m : Int) := by omega
  go_wp2_with fail
  obtain ⟨H1, U2⟩ := set_open H.out 2 (.int .i64 ((rr : Int) + m))
  simp only [List.setIfInBounds_toArray, List.set_cons_zero, List.set_cons_succ] at H1
  have hcell2 : (w4.setCell ⟨g, 2, none⟩ (.int .i64 ((rr : Int) + m))).cell? ⟨br, rr + m - 1, none⟩ = some (.int .u8 (xs.getD (m - 1) 0)) := (World.cell?_of_block (Below.heap_setCell w4 _ _ _ (blk_ne HB.out H.out (by decide)))).trans hcell
  clear c z hcell
  generalize w4.setCell ⟨g, 2, none⟩ (.int .i64 ((rr : Int) + m)) = w5 at *
  replace HB := Aside0.mk (U2.keepT H.out HB.out (by decide))
  replace HD := Aside0.mk (U2.keepT H.out HD.out htd)
  replace H := Aside0.mk H1
  replace U1 := Aside0.mk (U1.out.trans (U2.mono (M := [g, d]) (by simp)))
  clear U2 H1
  have c := blk_cells H.out
  have z := blk_free H.out
  have hj1 : 0 ≤ (rr : Int) + m - 1 := by omega
  have hj2 : (rr : Int) + m - 1 < n := by omega
  have hwr : IntKind.i64.wrap ((rr : Int) + m - 1) = (rr : Int) + m - 1 := IntWalk.i64_in _ (by omega)
  have hj3 : 1 ≤ (rr : Int) + m := by omega
  have htn : ((rr : Int) + m - 1).toNat = rr + m - 1 := by omega
  go_still_tail 15, (by kernel_rfl)
  change wpList _ _ _ _ _ w5.drew
  clear c z hcell2 hwr htn
  replace H := Aside0.mk (drew_blk H.out)
  replace HB := Aside0.mk (drew_blk HB.out)
  replace HD := Aside0.mk (drew_blk HD.out)
  replace U1 := Aside0.mk U1.out.drew
  generalize w5.drew = w6 at *
  have c := blk_cells H.out
  have z := blk_free H.out
  go_wp2
  go_ret2
  obtain ⟨H1, U2⟩ := set_open H.out 5 (.int .i64 (wrap64 (xs[m - 1]?.getD 0)))
  simp only [List.setIfInBounds_toArray, List.set_cons_zero, List.set_cons_succ] at H1
  obtain ⟨H2, U3⟩ := set_open H1 6 (.int .i64 (-1))
  simp only [List.setIfInBounds_toArray, List.set_cons_zero, List.set_cons_succ] at H2
  rw [HM.out]
  exact ⟨rfl, ⟨_, H2⟩, U3.keepT H1 (U2.keepT H.out HB.out (by decide)) (by decide), U3.keepT H1 (U2.keepT H.out HD.out htd) htd, U1.out.trans ((U2.trans U3).mono (by simp))⟩
end Go.Proofs.YtohdpnoinfnmiaaGreatDoor

namespace Go.Proofs.YtohdpnoinfnmiaaGreatDoor
open Go.RowKit U
open Go.Proofs.YtohdpnoinfnmiaaGreatDoorW.PrintWords (Aside0 Kd nums)
open Go.Proofs.YtohdpnoinfnmiaaGreatDoorW.PrintMore
attribute [local go_sem ↓] Go.wp_at_zero Go.wp_at_succ
theorem C_upd {w w' : World} {A : Option Addr} {n : Nat} {bs : List Int} {L : List Nat} (h : Kd.C (Kd.int .u8) w A n bs) (u : Upd L w w') (hA : ∀ a, A = some a → a.block ∉ L) : Kd.C (Kd.int .u8) w' A n bs := by
  refine ⟨h.1, h.2.1, fun hn => ?_⟩
  obtain ⟨ad, e, hc⟩ := h.2.2 hn
  refine ⟨ad, e, fun j v hv => ?_⟩
  obtain ⟨c, h1, h2, h3⟩ := hc j v hv
  refine ⟨c, h1, h2, fun k x hx => ?_⟩
  have h4 := h3 k x hx
  have hb : (ad.add (j * (Kd.int IntKind.u8).sz + k)).block ∉ L := by unfold Addr.add; split <;> exact hA ad e
  exact (World.cell?_of_block (u.block _ (World.block_lt_of_cell? w _ h4) hb)).trans h4
theorem mt_246 (a : Addr) (w : World) : (method 573 61 (.pointer (some a)) "Read").run Tryz.prog w = .ok (246, .pointer (some a)) w := by kernel_rfl
set_option maxRecDepth 100000 in
set_option maxHeartbeats 1600000 in
/-- bufio.Reader.Read where the buffer is empty: it is filled by one call of bytes.Reader.Read. -/
theorem f273_fill (g br n d L C k gb : Nat) (A : Option Addr) (c0 : Nat) (bs : List Int) (i : Nat) (v2 v5 v6 : Value) (cr cd : Array Value) (w : World) (hn : n ≤ 100000) (hL0 : 0 < L) (hLn : L < n)
   (hi : i < bs.length) (hbs : bs.length < 140737488355328) (hc0 : bs.length ≤ c0)
   (h : w.heap[g]? = some (.cells #[.slice (some ⟨br,0,none⟩) n n, .iface 61 (.pointer (some ⟨gb,0,none⟩)), .int .i64 k, .int .i64 k, .nilIface, v5, v6] 263 (0,0))) (hb : w.heap[br]? = some (.cells cr 5 (0,0))) (hcr : cr.size = n)
   (hgb : w.heap[gb]? = some (.cells #[.slice A bs.length c0, .int .i64 i, v2] 133 (0,0)))
   (hd : w.heap[d]? = some (.cells cd 5 (0,0))) (hdL : L ≤ cd.size) (hdb : d ≠ br) (hbC : Kd.C (Kd.int .u8) w A bs.length bs) (hA : ∀ a, A = some a → a.block ≠ g ∧ a.block ≠ gb ∧ a.block ≠ br) :
    Calls Tryz.prog 273 #[.pointer (some ⟨g,0,none⟩), .slice (some ⟨d,0,none⟩) L C] w fun e w' => e = .returned (.tuple #[.int .i64 (min (min (bs.length - i) n) L : Nat), .nilIface]) ∧ 
      (∃ q, w'.heap[g]? = some (.cells #[.slice (some ⟨br,0,none⟩) n n, .iface 61 (.pointer (some ⟨gb,0,none⟩)), .int .i64 (min (min (bs.length - i) n) L : Nat), .int .i64 (min (bs.length - i) n : Nat), .nilIface, .int .i64 q, .int .i64 (-1)] 263 (0,0))) ∧
      w'.heap[br]? = some (.cells (splice cr.toList 0 (nums .u8 ((bs.drop i).take n))).toArray 5 (0,0)) ∧ 
      w'.heap[gb]? = some (.cells #[.slice A bs.length c0, .int .i64 (i + min (bs.length - i) n : Nat), .int .i64 (-1)] 133 (0,0)) ∧
      w'.heap[d]? = some (.cells (splice cd.toList 0 (nums .u8 ((bs.drop i).take L))).toArray 5 (0,0)) ∧ Upd [g, d, gb, br] w w' := by
  have c := blk_cells h
  have z := blk_free h
  have H := Aside0.mk h
  have HB := Aside0.mk hb
  have HG := Aside0.mk hgb
  have HD := Aside0.mk hd
  have HS := Aside0.mk hcr
  have HC := Aside0.mk hbC
  have HA := Aside0.mk hA
  clear h hb hd hcr hgb hbC hA
  have hl0 : ((L : Int) == 0) = false := by simp; omega
  have hlr : decide (n ≤ L) = false := by simp; omega
  go_enter Tryz.func273, Tryz.ntmps273
  go_wp2_with fail
  go_quiet (fail)
  replace H := Aside0.mk (drewN_blk nq H.out)
  replace HB := Aside0.mk (drewN_blk nq HB.out)
  replace HD := Aside0.mk (drewN_blk nq HD.out)
  replace HG := Aside0.mk (drewN_blk nq HG.out)
  replace HC := Aside0.mk (Kd.C_below HC.out (Go.Proofs.YtohdpnoinfnmiaaGreatDoorW.PrintWords.pw_below_drewN (Below.refl _ _) nq))
  have U1 := Aside0.mk ((Upd.refl [g, d, gb, br] w).drewN nq)
  clear c z
  generalize w.drewN nq = w1 at *
  have c := blk_cells H.out
  have z := blk_free H.out
  go_wp2_with fail
  obtain ⟨H1, U2⟩ := set_open H.out 2 (.int .i64 0)
  simp only [List.setIfInBounds_toArray, List.set_cons_zero, List.set_cons_succ] at H1
  obtain ⟨H2, U3⟩ := set_open H1 3 (.int .i64 0)
  simp only [List.setIfInBounds_toArray, List.set_cons_zero, List.set_cons_succ] at H2
  have HC2 := C_upd (C_upd HC.out U2 (by intro a ha; simpa using (HA.out a ha).1)) U3 (by intro a ha; simpa using (HA.out a ha).1)
  have HB2 := U3.keepT H1 (U2.keepT H.out HB.out (by decide)) (by decide)
  have HD2 := U3.keepT H1 (U2.keepT H.out HD.out (by decide)) (by decide)
  have HG2 := U3.keepT H1 (U2.keepT H.out HG.out (by decide)) (by decide)
  have U4 := (U2.trans U3).mono (M := [g, d, gb, br]) (by simp)
  clear c z U2 U3 H1
  generalize (w1.setCell ⟨g, 2, none⟩ (.int .i64 0)).setCell ⟨g, 3, none⟩ (.int .i64 0) = w2 at *
  replace H := Aside0.mk H2
  replace HB := Aside0.mk HB2
  replace HD := Aside0.mk HD2
  replace HG := Aside0.mk HG2
  replace HC := Aside0.mk HC2
  replace U1 := Aside0.mk (U1.out.trans U4)
  clear H2 HB2 HD2 HG2 HC2 U4
  have c := blk_cells H.out
  have z := blk_free H.out
  have m246 := mt_246 ⟨gb, 0, none⟩
  have HGd := Aside0.mk (drew_blk HG.out)
  have HBd := Aside0.mk (drew_blk HB.out)
  have Hd := Aside0.mk (drew_blk H.out)
  have HCd := Aside0.mk (Kd.C_below HC.out (Go.Proofs.YtohdpnoinfnmiaaGreatDoorW.PrintWords.pw_below_drewN (Below.refl _ _) 1))
  go_region_held3 (fun w' => w'.cell? ⟨g,0,none⟩ = some (.slice (some ⟨br,0,none⟩) n n) ∧ w'.cell? ⟨g,1,none⟩ = some (.iface 61 (.pointer (some ⟨gb,0,none⟩)))) (first | go_keep | (refine ⟨?_, ?_⟩ <;> (rw [World.cell?_setCell_other _ _ _ _ (by simp)]; simp [*])))
    ((go_at_call 246; refine (f246_calls gb br n n A c0 bs i cr v2 _ hi hbs hc0 HGd.out HBd.out (by rw [HS.out]; exact Nat.le_refl _) HCd.out (fun a ha => (HA.out a ha).2.1)).mono ?_; rintro e w3 ⟨rfl, K1, K2, K3⟩; have c2 := blk_cells (K3.keep Hd.out (by simp [blk_ne H.out HG.out (by decide), blk_ne H.out HB.out (by decide)])); have z2 := blk_free (K3.keep Hd.out (by simp [blk_ne H.out HG.out (by decide), blk_ne H.out HB.out (by decide)]))))
  rename_i hh
  clear hh
  have H3 := K3.keep Hd.out (by simp [blk_ne H.out HG.out (by decide), blk_ne H.out HB.out (by decide)])
  have HD3 := K3.keep (drew_blk HD.out) (by simp [blk_ne HD.out HG.out (by decide), hdb])
  have U3 := (U1.out.drew).trans (K3.mono (M := [g, d, gb, br]) (by simp))
  replace HD := Aside0.mk HD3
  replace HG := Aside0.mk K1
  replace HB := Aside0.mk K2
  replace U1 := Aside0.mk U3
  replace H := Aside0.mk H3
  obtain ⟨H1, U2⟩ := set_open H.out 4 .nilIface
  simp only [List.setIfInBounds_toArray, List.set_cons_zero, List.set_cons_succ] at H1
  clear c z c2 z2 H3 HD3 U3 K1 K2 K3 HGd HBd Hd HCd HC
  generalize w3.setCell ⟨g, 4, none⟩ .nilIface = w4 at *
  replace HD := Aside0.mk (U2.keepT H.out HD.out (by decide))
  replace HB := Aside0.mk (U2.keepT H.out HB.out (by decide))
  replace HG := Aside0.mk (U2.keepT H.out HG.out (by decide))
  replace H := Aside0.mk H1
  replace U1 := Aside0.mk (U1.out.trans (U2.mono (M := [g, d, gb, br]) (by simp)))
  clear U2 H1
  obtain ⟨xs, hxs⟩ : ∃ xs, (bs.drop i).take n = xs := ⟨_, rfl⟩
  obtain ⟨rw, hrw⟩ : ∃ k, min (bs.length - i) n = k := ⟨_, rfl⟩
  have hxl : xs.length = rw := by rw [← hxs, List.length_take, List.length_drop]; omega
  have hrw0 : 0 < rw := by omega
  have hrn : rw ≤ n := by omega
  replace HB := Aside0.mk (hxs ▸ HB.out)
  replace H := Aside0.mk (H.out)
  have hq1 : decide ((rw : Int) < 0) = false := by simp
  have hq2 : ((rw : Int) == 0) = false := by simp; omega
  have hq3 : (rw : Int) ≤ 100000 := by omega
  have HRW := Aside0.mk hrw
  have HXS := Aside0.mk hxs
  replace HG := Aside0.mk (hrw ▸ HG.out)
  simp only [hrw]
  clear hrw hxs
  have c := blk_cells H.out
  have z := blk_free H.out
  go_wp2_with fail
  obtain ⟨H1, U2⟩ := set_open H.out 3 (.int .i64 rw)
  simp only [List.setIfInBounds_toArray, List.set_cons_zero, List.set_cons_succ] at H1
  clear c z hq1 hq2
  generalize w4.setCell ⟨g, 3, none⟩ (.int .i64 rw) = wa at *
  replace HD := Aside0.mk (U2.keepT H.out HD.out (by decide))
  replace HB := Aside0.mk (U2.keepT H.out HB.out (by decide))
  replace HG := Aside0.mk (U2.keepT H.out HG.out (by decide))
  replace U1 := Aside0.mk (U1.out.trans (U2.mono (M := [g, d, gb, br]) (by simp)))
  obtain ⟨rr, hrr0⟩ : ∃ k : Nat, k = 0 := ⟨0, rfl⟩
  have H0 : wa.heap[g]? = some (.cells #[.slice (some ⟨br,0,none⟩) n n, .iface 61 (.pointer (some ⟨gb,0,none⟩)), .int .i64 rr, .int .i64 rw, .nilIface, v5, v6] 263 (0,0)) := by rw [hrr0]; exact H1
  replace H := Aside0.mk H0
  clear U2 H1 H0
  have hrrw : rr < rw := by omega
  have HRR := Aside0.mk hrr0
  have hxs' : xs.length = rw - rr := by omega
  have HXL := Aside0.mk hxs'
  have HX : Aside0 (((((splice cr.toList 0 (nums .u8 xs)).toArray).toList.drop rr).take (rw - rr)) = nums .u8 xs) := ⟨by rw [hrr0]; simp [splice, nums, hxl]⟩
  clear hrr0 hxs'
  have hcr2 : ((splice cr.toList 0 (nums .u8 xs)).toArray).size = n := by have := HS.out; simp [splice, nums, hxl]; omega
  replace HS := Aside0.mk hcr2
  clear hcr2
  generalize hce : (splice cr.toList 0 (nums .u8 xs)).toArray = cr2 at *
  have HCE := Aside0.mk hce
  clear hce
  have c := blk_cells H.out
  have z := blk_free H.out
  have hi0 : 0 ≤ (rr : Int) := by omega
  have hin : rr ≤ rw := by omega
  have hin' : (rr : Int) ≤ rw := by omega
  have hin3 : (rw : Int) ≤ n := by omega
  go_still_tail 14, (by kernel_rfl)
  change wpList _ _ _ _ _ wa.drew
  clear c z
  replace H := Aside0.mk (drew_blk H.out)
  replace HB := Aside0.mk (drew_blk HB.out)
  replace HD := Aside0.mk (drew_blk HD.out)
  replace HG := Aside0.mk (drew_blk HG.out)
  replace U1 := Aside0.mk U1.out.drew
  generalize wa.drew = wb at *
  have hxe : nums .u8 (xs.take L) = ((cr2.toList.drop rr).take (rw - rr)).take L := by rw [HX.out]; simp [nums]
  have hlen : (nums .u8 (xs.take L)).length = min xs.length L := by simp [nums, Nat.min_comm]
  refine wp_copy rfl _ _ 25 25 rfl 5 Tryz.underlying25 size5 _ _ _ _ _ _ rfl rfl d 0 cd 5 HD.out (nums .u8 (xs.take L)) ?hl ?hpos ?hfit (nums_one _ _) ?_
  case hl => rw [hlen]; show min xs.length L = min (rw - rr) L; rw [HXL.out]
  case hpos =>
    intro _
    refine ⟨rfl, _, if_neg (by omega), fun j v hv => ?_⟩
    rw [hxe, List.getElem?_take] at hv
    split at hv
    · rw [List.getElem?_take] at hv
      split at hv
      · rw [List.getElem?_drop] at hv
        have := blk_cells HB.out (rr + j)
        rw [show ((⟨br, rr, none⟩ : Addr).add j) = ⟨br, rr + j, none⟩ from by unfold Addr.add; split <;> simp_all, this]
        simpa using hv
      · cases hv
    · cases hv
  case hfit => rw [hlen]; omega
  intro w4 HD4 U4
  rw [hlen]
  clear hlen hxe
  replace H := Aside0.mk (U4.out.keepT HD.out H.out (by decide))
  replace HB := Aside0.mk (U4.out.keep1 HB.out (Ne.symm hdb))
  replace HG := Aside0.mk (U4.out.keepT HD.out HG.out (by decide))
  replace U1 := Aside0.mk (U1.out.trans (U4.out.mono (M := [g, d, gb, br]) (by simp)))
  replace HD := HD4
  clear U4 HD4
  have hm0 : 0 < min xs.length L := by have := HXL.out; omega
  have hm1 : rr + min xs.length L ≤ rw := by have := HXL.out; omega
  have hcell : w4.cell? ⟨br, rr + min xs.length L - 1, none⟩ = some (.int .u8 (xs.getD (min xs.length L - 1) 0)) := by
    rw [blk_cells HB.out]
    have h1 : ((cr2.toList.drop rr).take (rw - rr))[min xs.length L - 1]? = some (.int .u8 (xs.getD (min xs.length L - 1) 0)) := by
      rw [HX.out]
      simp only [nums, List.getElem?_map]
      rw [List.getElem?_eq_getElem (by omega)]
      simp [List.getD_eq_getElem?_getD, List.getElem?_eq_getElem (show min xs.length L - 1 < xs.length by omega)]
    rw [List.getElem?_take_of_lt (by omega), List.getElem?_drop] at h1
    rw [show rr + min xs.length L - 1 = rr + (min xs.length L - 1) by omega]
    simpa using h1
  generalize hm : min xs.length L = m at *
  have HM := Aside0.mk hm
  clear hm
  have c := blk_cells H.out
  have z := blk_free H.out
  have hrm : (rr : Int) + m ≤ 100000 := by omega
  have hmm : (m : Int) ≤ 100000 := by omega
  have hmm0 : 0 < (m : Int) := by omega
  go_wp2_with fail
  obtain ⟨H1, U2⟩ := set_open H.out 2 (.int .i64 ((rr : Int) + m))
  simp only [List.setIfInBounds_toArray, List.set_cons_zero, List.set_cons_succ] at H1
  have hcell2 : (w4.setCell ⟨g, 2, none⟩ (.int .i64 ((rr : Int) + m))).cell? ⟨br, rr + m - 1, none⟩ = some (.int .u8 (xs.getD (m - 1) 0)) := (World.cell?_of_block (Below.heap_setCell w4 _ _ _ (blk_ne HB.out H.out (by decide)))).trans hcell
  clear c z hcell
  generalize w4.setCell ⟨g, 2, none⟩ (.int .i64 ((rr : Int) + m)) = w5 at *
  replace HB := Aside0.mk (U2.keepT H.out HB.out (by decide))
  replace HD := Aside0.mk (U2.keepT H.out HD.out (by decide))
  replace HG := Aside0.mk (U2.keepT H.out HG.out (by decide))
  replace H := Aside0.mk H1
  replace U1 := Aside0.mk (U1.out.trans (U2.mono (M := [g, d, gb, br]) (by simp)))
  clear U2 H1
  have c := blk_cells H.out
  have z := blk_free H.out
  have hj1 : 0 ≤ (rr : Int) + m - 1 := by omega
  have hj2 : (rr : Int) + m - 1 < n := by omega
  have hwr : IntKind.i64.wrap ((rr : Int) + m - 1) = (rr : Int) + m - 1 := IntWalk.i64_in _ (by omega)
  have hj3 : 1 ≤ (rr : Int) + m := by omega
  have htn : ((rr : Int) + m - 1).toNat = rr + m - 1 := by omega
  go_still_tail 15, (by kernel_rfl)
  change wpList _ _ _ _ _ w5.drew
  clear c z hcell2 hwr htn
  replace H := Aside0.mk (drew_blk H.out)
  replace HB := Aside0.mk (drew_blk HB.out)
  replace HD := Aside0.mk (drew_blk HD.out)
  replace HG := Aside0.mk (drew_blk HG.out)
  replace U1 := Aside0.mk U1.out.drew
  generalize w5.drew = w6 at *
  have c := blk_cells H.out
  have z := blk_free H.out
  go_wp2
  go_ret2
  obtain ⟨H1, U2⟩ := set_open H.out 5 (.int .i64 (wrap64 (xs[m - 1]?.getD 0)))
  simp only [List.setIfInBounds_toArray, List.set_cons_zero, List.set_cons_succ] at H1
  obtain ⟨H2, U3⟩ := set_open H1 6 (.int .i64 (-1))
  simp only [List.setIfInBounds_toArray, List.set_cons_zero, List.set_cons_succ] at H2
  have e1 := HRW.out
  have e4 := HRR.out
  have e2 : min rw L = m := by rw [← HM.out, HXL.out, e4, Nat.sub_zero]
  have e3 : (bs.drop i).take L = xs.take L := by rw [← HXS.out, List.take_take, Nat.min_eq_left (by omega)]
  rw [e1, e2, e3, HXS.out, HCE.out]
  subst e4
  simp only [Int.natCast_zero, Int.zero_add] at H2
  exact ⟨rfl, ⟨_, H2⟩, U3.keepT H1 (U2.keepT H.out HB.out (by decide)) (by decide), U3.keepT H1 (U2.keepT H.out HG.out (by decide)) (by decide), U3.keepT H1 (U2.keepT H.out HD.out (by decide)) (by decide), U1.out.trans ((U2.trans U3).mono (by simp))⟩
end Go.Proofs.YtohdpnoinfnmiaaGreatDoor

namespace Go.Proofs.YtohdpnoinfnmiaaGreatDoor
open Go.RowKit U
open Go.Proofs.YtohdpnoinfnmiaaGreatDoorW.PrintWords (Aside0 Kd nums)
open Go.Proofs.YtohdpnoinfnmiaaGreatDoorW.PrintMore
attribute [local go_sem ↓] Go.wp_at_zero Go.wp_at_succ
set_option maxRecDepth 100000 in
set_option maxHeartbeats 1600000 in
theorem f272_of (g gr gw bw n m d L C : Nat) (td : TypeId) (htd : td ≠ 170) (k : Nat) (o : Nat) (v0 v1 v3 : Value) (cw cd : Array Value) (w : World) (hn : n ≤ 100000) (hL : k + L ≤ n) (hL0 : 0 < L) (hLC : L ≤ C) (ho : o ≤ 100000)
   (h : w.heap[g]? = some (.cells #[v0, v1, .pointer (some ⟨gr,0,none⟩), .pointer (some ⟨gw,0,none⟩), .int .i64 o] 170 (0,0)))
   (hw : w.heap[gw]? = some (.cells #[.nilIface, .slice (some ⟨bw,0,none⟩) n m, .int .i64 k, v3] 258 (0,0))) (hb : w.heap[bw]? = some (.cells cw 5 (0,0))) (hcw : cw.size = n) (hnm : n ≤ m)
   (hdL : L ≤ cd.size) (hone : ∀ v ∈ cd.toList, v.oneCell' = true)
   (R : World → Prop) (M : List Nat) (hg : g ∉ M) (hgw : gw ∉ M) (hbw : bw ∉ M)
   (hc : Calls Tryz.prog 273 #[.pointer (some ⟨gr,0,none⟩), .slice (some ⟨d,0,none⟩) L C] w fun e w' => e = .returned (.tuple #[.int .i64 L, .nilIface]) ∧ R w' ∧ w'.heap[d]? = some (.cells cd td (0,0)) ∧ Upd M w w') :
    Calls Tryz.prog 272 #[.pointer (some ⟨g,0,none⟩), .slice (some ⟨d,0,none⟩) L C] w fun e w' => e = .returned (.tuple #[.int .i64 L, .nilIface]) ∧
      w'.heap[g]? = some (.cells #[v0, v1, .pointer (some ⟨gr,0,none⟩), .pointer (some ⟨gw,0,none⟩), .int .i64 (o + L : Nat)] 170 (0,0)) ∧
      w'.heap[gw]? = some (.cells #[.nilIface, .slice (some ⟨bw,0,none⟩) n m, .int .i64 (k + L : Nat), v3] 258 (0,0)) ∧
      w'.heap[bw]? = some (.cells (splice cw.toList k (cd.toList.take L)).toArray 5 (0,0)) ∧ ∃ w1, R w1 ∧ w1.heap[d]? = some (.cells cd td (0,0)) ∧ Upd M w w1 ∧ Upd [g, gw, bw] w1 w' := by
  have c := blk_cells h
  have z := blk_free h
  have H := Aside0.mk h
  have HW := Aside0.mk hw
  have HB := Aside0.mk hb
  have HS := Aside0.mk hcw
  have HO := Aside0.mk hone
  clear h hw hb hcw hone
  have ho1 : 0 ≤ (o : Int) + L := by omega
  have ho2 : (o : Int) + L ≤ 200000 := by omega
  have hL1 : (L : Int) ≤ 100000 := by omega
  have hL2 : (0 : Int) ≤ L := by omega
  have hL3 : (L : Int) ≤ C := by omega
  go_enter Tryz.func272, Tryz.ntmps272
  go_wp2_with (go_at_call 273; refine hc.mono ?_; rintro e w1 ⟨rfl, K0, K1, K2⟩; have c1 := blk_cells (K2.keep H.out hg); have z1 := blk_free (K2.keep H.out hg))
  replace HW := Aside0.mk (K2.keep HW.out hgw)
  replace HB := Aside0.mk (K2.keep HB.out hbw)
  replace H := Aside0.mk (K2.keep H.out hg)
  have HD := Aside0.mk K1
  have KD := Aside0.mk K1
  clear c z c1 z1 K1
  obtain ⟨H1, U2⟩ := set_open H.out 4 (.int .i64 ((o : Int) + L))
  simp only [List.setIfInBounds_toArray, List.set_cons_zero, List.set_cons_succ] at H1
  have U1 := Aside0.mk (U2.mono (M := [g, gw, bw]) (by simp))
  generalize w1.setCell ⟨g, 4, none⟩ (.int .i64 ((o : Int) + L)) = w2 at *
  replace HD := Aside0.mk (U2.keepT H.out HD.out htd)
  replace HB := Aside0.mk (U2.keepT H.out HB.out (by decide))
  replace HW := Aside0.mk (U2.keepT H.out HW.out (by decide))
  replace H := Aside0.mk H1
  clear U2 H1
  have c := blk_cells H.out
  have z := blk_free H.out
  have HWd := Aside0.mk (drew_blk HW.out)
  have HBd := Aside0.mk (drew_blk HB.out)
  have Hd := Aside0.mk (drew_blk H.out)
  have HDd := Aside0.mk (drew_blk HD.out)
  go_region_held3 (fun w' => w'.cell? ⟨g,3,none⟩ = some (.pointer (some ⟨gw,0,none⟩))) (go_keep)
    ((go_at_call 274; refine (f274_calls gw bw n m d L C td k v3 cw cd _ hn hL hL0 HWd.out HBd.out HS.out hnm HDd.out hdL HO.out).mono ?_; rintro e w3 ⟨rfl, J1, J2, J3⟩; have c2 := blk_cells (J3.keep Hd.out (by simp [blk_ne H.out HW.out (by decide), blk_ne H.out HB.out (by decide)]))))
  go_wp2
  go_ret2
  exact ⟨rfl, J3.keep Hd.out (by simp [blk_ne H.out HW.out (by decide), blk_ne H.out HB.out (by decide)]), J1, J2, w1, K0, KD.out, K2, U1.out.drew.trans (J3.mono (by simp))⟩
theorem mt_272 (a : Addr) (w : World) : (method 573 123 (.pointer (some a)) "Read").run Tryz.prog w = .ok (272, .pointer (some a)) w := by kernel_rfl
theorem na_272 (a : Addr) (w : World) : (nilAhead 573 123 (.pointer (some a)) "Read").run Tryz.prog w = .ok (some false) w := by kernel_rfl
set_option maxRecDepth 100000 in
set_option maxHeartbeats 1600000 in
theorem f127_of (g d L C : Nat) (w : World) (hL0 : 0 < L) (hL : L ≤ 100000) (hLC : L ≤ C) (R : World → Prop)
   (hc : ∀ q, Calls Tryz.prog 272 #[.pointer (some ⟨g,0,none⟩), .slice (some ⟨d,0,none⟩) L C] (w.drewN q) fun e w' => e = .returned (.tuple #[.int .i64 L, .nilIface]) ∧ R w') :
    Calls Tryz.prog 127 #[.iface 123 (.pointer (some ⟨g,0,none⟩)), .slice (some ⟨d,0,none⟩) L C, .int .i64 L] w fun e w' => e = .returned (.tuple #[.int .i64 L, .nilIface]) ∧ R w' := by
  have m272 := mt_272 ⟨g, 0, none⟩
  have n272 := na_272 ⟨g, 0, none⟩
  have hL1 : (L : Int) ≤ 100000 := by omega
  have hL2 : (0 : Int) < L := by omega
  have hL3 : (L : Int) ≤ C := by omega
  have hL4 : (0 : Int) ≤ L := by omega
  go_enter Tryz.func127, Tryz.ntmps127
  go_wp2_with fail
  refine wp_loop_rounds 2 ?_
  rw [rounds_succ]
  go_wp2_with fail
  go_region_held3 (fun _ => True) (trivial) ((go_at_call 272; refine (hc 1).mono ?_; rintro e w1 ⟨rfl, K⟩))
  go_wp2
  rw [rounds_succ]
  go_wp2
  go_ret2
  exact ⟨rfl, K⟩
theorem f75_of (g d L C : Nat) (w : World) (hL0 : 0 < L) (hL : L ≤ 100000) (hLC : L ≤ C) (R : World → Prop)
   (hc : ∀ q, Calls Tryz.prog 272 #[.pointer (some ⟨g,0,none⟩), .slice (some ⟨d,0,none⟩) L C] (w.drewN q) fun e w' => e = .returned (.tuple #[.int .i64 L, .nilIface]) ∧ R w') :
    Calls Tryz.prog 75 #[.iface 123 (.pointer (some ⟨g,0,none⟩)), .slice (some ⟨d,0,none⟩) L C] w fun e w' => e = .returned (.tuple #[.int .i64 L, .nilIface]) ∧ R w' := by
  go_enter Tryz.func75, Tryz.ntmps75
  go_wp2_with (go_at_call 127; refine (f127_of g d L C _ hL0 hL hLC R hc).mono ?_; rintro e w1 ⟨rfl, K⟩)
  go_ret2
  exact ⟨rfl, K⟩
end Go.Proofs.YtohdpnoinfnmiaaGreatDoor
