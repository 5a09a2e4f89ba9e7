/- bytes.Buffer, where its row has sixty-four bytes of room. bytes.Buffer.Write where there is room; Bytes. patchDelta at what deltaWorks brings. patchDelta at what deltaWorks brings: the walk. PatchDelta at what deltaWorks brings. Patch at what deltaWorks brings. laws.deltaWorks: it answers true, and nothing that was there is other than it was. -/
import Derived.Test.YtohdpnoinfnmiaaGreatDoorA2
import Derived.Deep.AppendLies
import Derived.Lib.SlBytesConst
namespace Go.Proofs.YtohdpnoinfnmiaaGreatDoor
open Go.RowKit U
open Go.Proofs.YtohdpnoinfnmiaaGreatDoorW.PrintWords (Aside0 Kd nums)
open Go.Proofs.YtohdpnoinfnmiaaGreatDoorW.PrintMore
attribute [local go_sem ↓] Go.wp_at_zero Go.wp_at_succ
set_option maxRecDepth 100000 in
theorem f151_no (g : Nat) (v1 v2 : Value) (w : World) (h : w.heap[g]? = some (.cells #[.slice none 0 0, v1, v2] 73 (0,0))) :
    Calls Tryz.prog 151 #[.pointer (some ⟨g,0,none⟩), .int .i64 6] w fun e w' => e = .returned (.tuple #[.int .i64 0, .bool false]) ∧ w' = w := by
  have c := blk_cells h
  clear h
  go_enter Tryz.func151, Tryz.ntmps151
  go_wp2
  go_ret2
  exact ⟨rfl, rfl⟩
set_option maxRecDepth 100000 in
theorem f151_yes (g b l n : Nat) (hl : l + n ≤ 64) (v1 v2 : Value) (w : World) (h : w.heap[g]? = some (.cells #[.slice (some ⟨b,0,none⟩) l 64, v1, v2] 73 (0,0))) :
    Calls Tryz.prog 151 #[.pointer (some ⟨g,0,none⟩), .int .i64 n] w fun e w' => e = .returned (.tuple #[.int .i64 l, .bool true]) ∧ w'.heap[g]? = some (.cells #[.slice (some ⟨b,0,none⟩) (l + n) 64, v1, v2] 73 (0,0)) ∧ Upd [g] w w' := by
  have c := blk_cells h
  have z := blk_free h
  have H := Aside0.mk h
  have h1 : (n : Int) ≤ 64 - l := by omega
  have h2 : (0 : Int) ≤ (l : Int) + n := by omega
  have h3 : (l : Int) + n ≤ 64 := by omega
  clear h
  go_enter Tryz.func151, Tryz.ntmps151
  go_wp2
  go_ret2
  obtain ⟨H1, U2⟩ := set_open H.out 0 (.slice (some ⟨b,0,none⟩) (l + n) 64)
  simp only [List.setIfInBounds_toArray, List.set_cons_zero] at H1
  exact ⟨rfl, H1, U2⟩
theorem f143_calls (g : Nat) (A : Option Addr) (n c : Nat) (v2 : Value) (hn : n ≤ 100000) (w : World) (h : w.heap[g]? = some (.cells #[.slice A n c, .int .i64 0, v2] 73 (0,0))) :
    Calls Tryz.prog 143 #[.pointer (some ⟨g,0,none⟩)] w fun e w' => e = .returned (.int .i64 n) ∧ Upd [] w w' := by
  have c := blk_cells h
  have h2 : (n : Int) ≤ 100000 := by omega
  clear h
  go_enter Tryz.func143, Tryz.ntmps143
  go_wp2_with fail
  go_quiet (fail)
  go_wp2
  go_ret
  exact ⟨by simp, (Upd.refl _ w).drewN _⟩
/-- Sixty-four zeros. -/
def z64 : Array Value := madeCells #[.int .u8 0] 64
theorem z64_size : z64.size = 64 := by simp [z64, madeCells]
theorem eq_25_nil (w : World) : (binOp .eql 25 (.slice none 0 0) (.slice none 0 0)).run Tryz.prog w = .ok (.bool true) w := by kernel_rfl
theorem make_64 (w : World) : (Instr.makeSlice 25 (.int .i64 6) (.int .i64 64)).run Tryz.prog w = .ok (.slice (some ⟨w.heap.size, 0, none⟩) 6 64) (w.alloc (.cells z64 5)) := by
  obtain ⟨i0, hi, hz0, hz1, hz2⟩ := info_parts Tryz.info5
  have hr := run_make (P := Tryz.prog) w 25 5 i0 (.int .u8 0) Tryz.underlying25 hi hz0 .i64 .i64 6 64 (by omega) (by omega) (by rw [hz2]; omega) (by omega)
  rw [hz1] at hr
  exact hr
set_option maxRecDepth 100000 in
set_option maxHeartbeats 800000 in
theorem f138_new (g : Nat) (v2 : Value) (w : World) (h : w.heap[g]? = some (.cells #[.slice none 0 0, .int .i64 0, v2] 73 (0,0))) :
    Calls Tryz.prog 138 #[.pointer (some ⟨g,0,none⟩), .int .i64 6] w fun e w' => ∃ b cur, e = .returned (.int .i64 0) ∧ w'.heap[g]? = some (.cells #[.slice (some ⟨b,0,none⟩) 6 64, .int .i64 0, v2] 73 (0,0)) ∧ w.heap.size ≤ b ∧ w'.heap[b]? = some (.cells cur 5 (0,0)) ∧ cur.size = 64 ∧ Upd [g] w w' := by
  have H := Aside0.mk h
  clear h
  have e25 := eq_25_nil
  have mk := make_64
  go_enter Tryz.func138, Tryz.ntmps138
  go_wp2_with (first
    | (go_at_call 143; refine (f143_calls g none 0 0 v2 (by omega) _ H.out).mono ?_; rintro e w1 ⟨rfl, U1⟩; have c1 := blk_cells (U1.keep H.out (by simp)); have H1 := Aside0.mk (U1.keep H.out (by simp)); have U1 := Aside0.mk U1)
    | (go_at_call 151; refine (f151_no g _ _ _ H1.out).mono ?_; rintro e w2 ⟨rfl, rfl⟩; have c3 := blk_cells (blk_old H1.out (.cells z64 5 (0,0))); have z3 := blk_free (blk_old H1.out (.cells z64 5 (0,0)))))
  go_ret
  obtain ⟨H2, U2⟩ := set_open (blk_old H1.out (.cells z64 5 (0,0))) 0 (.slice (some ⟨w2.heap.size,0,none⟩) 6 64)
  simp only [List.setIfInBounds_toArray, List.set_cons_zero] at H2
  have hs := U1.out.size
  have hne : w2.heap.size ≠ g := fun e => by have := lt_of_blk H1.out; omega
  exact ⟨w2.heap.size, z64, rfl, H2, hs, U2.keep1 (blk_new w2 _) hne, z64_size, (((U1.out.alloc _).mono (M := [g]) (by simp)).trans U2)⟩
set_option maxRecDepth 100000 in
theorem f104_new (g : Nat) (v2 : Value) (w : World) (h : w.heap[g]? = some (.cells #[.slice none 0 0, .int .i64 0, v2] 73 (0,0))) :
    Calls Tryz.prog 104 #[.pointer (some ⟨g,0,none⟩), .int .i64 6] w fun e w' => ∃ b cur, e = .returned (.tuple #[]) ∧ w'.heap[g]? = some (.cells #[.slice (some ⟨b,0,none⟩) 0 64, .int .i64 0, v2] 73 (0,0)) ∧ w.heap.size ≤ b ∧ w'.heap[b]? = some (.cells cur 5 (0,0)) ∧ cur.size = 64 ∧ Upd [g] w w' := by
  have H := Aside0.mk h
  clear h
  go_enter Tryz.func104, Tryz.ntmps104
  go_wp2_with (go_at_call 138; refine (f138_new g v2 _ H.out).mono ?_; rintro e w1 ⟨b, cur, rfl, K1, K2, K3, K4, K5⟩; have c := blk_cells K1; have z := blk_free K1; have K1 := Aside0.mk K1; have K3 := Aside0.mk K3; have K5 := Aside0.mk K5)
  go_end0
  obtain ⟨H2, U2⟩ := set_open K1.out 0 (.slice (some ⟨b,0,none⟩) 0 64)
  simp only [List.setIfInBounds_toArray, List.set_cons_zero] at H2
  exact ⟨b, cur, rfl, H2, K2, U2.keepT K1.out K3.out (by decide), K4, K5.out.trans U2⟩
end Go.Proofs.YtohdpnoinfnmiaaGreatDoor

namespace Go.Proofs.YtohdpnoinfnmiaaGreatDoor
open Go.RowKit U
open Go.Proofs.YtohdpnoinfnmiaaGreatDoorW.PrintWords (Aside0 Kd nums)
open Go.Proofs.YtohdpnoinfnmiaaGreatDoorW.PrintMore
attribute [local go_sem ↓] Go.wp_at_zero Go.wp_at_succ
theorem f29_calls (g b n : Nat) (v2 : Value) (hn : n ≤ 64) (w : World) (h : w.heap[g]? = some (.cells #[.slice (some ⟨b,0,none⟩) n 64, .int .i64 0, v2] 73 (0,0))) :
    Calls Tryz.prog 29 #[.pointer (some ⟨g,0,none⟩)] w fun e w' => e = .returned (.slice (some ⟨b,0,none⟩) n 64) ∧ Upd [] w w' := by
  have c := blk_cells h
  have h2 : (n : Int) ≤ 64 := by omega
  clear h
  go_enter Tryz.func29, Tryz.ntmps29
  go_wp2_with fail
  go_quiet (fail)
  go_wp2
  go_ret
  exact ⟨by simp, (Upd.refl _ w).drewN _⟩
set_option maxRecDepth 100000 in
set_option maxHeartbeats 1600000 in
theorem f123_calls (g b l c0 : Nat) (A : Option Addr) (xs : List Int) (v2 : Value) (cur : Array Value) (hl : l + xs.length ≤ 64) (hx0 : 0 < xs.length) (w : World) (h : w.heap[g]? = some (.cells #[.slice (some ⟨b,0,none⟩) l 64, .int .i64 0, v2] 73 (0,0)))
   (hb : w.heap[b]? = some (.cells cur 5 (0,0))) (hcur : cur.size = 64) (hC : Kd.C (Kd.int .u8) w A xs.length xs) (hA : ∀ a, A = some a → a.block ≠ g) :
    Calls Tryz.prog 123 #[.pointer (some ⟨g,0,none⟩), .slice A xs.length c0] w fun e w' => e = .returned (.tuple #[.int .i64 xs.length, .nilIface]) ∧ w'.heap[g]? = some (.cells #[.slice (some ⟨b,0,none⟩) (l + xs.length) 64, .int .i64 0, .int .i8 0] 73 (0,0)) ∧ w'.heap[b]? = some (.cells (splice cur.toList l (nums .u8 xs)).toArray 5 (0,0)) ∧ Upd [g, b] w w' := by
  have c := blk_cells h
  have z := blk_free h
  have H := Aside0.mk h
  have HB := Aside0.mk hb
  have HC := Aside0.mk hC
  have HS := Aside0.mk hcur
  have HA := Aside0.mk hA
  clear h hb hC hA hcur
  go_enter Tryz.func123, Tryz.ntmps123
  go_wp2_with fail
  obtain ⟨H1, U2⟩ := set_open H.out 2 (.int .i8 0)
  simp only [List.setIfInBounds_toArray, List.set_cons_zero, List.set_cons_succ] at H1
  clear c z
  replace HC := Aside0.mk (C_upd HC.out U2 (fun a ha => by simpa using HA.out a ha))
  replace HB := Aside0.mk (U2.keepT H.out HB.out (by decide))
  generalize w.setCell ⟨g, 2, none⟩ (.int .i8 0) = w1 at *
  replace H := Aside0.mk H1
  have U1 := Aside0.mk (U2.mono (M := [g, b]) (by simp))
  clear H1 U2
  have hlen : (nums .u8 xs).length = xs.length := by simp [nums]
  have q1 : (0 : Int) ≤ l := by omega
  have q2 : (l : Int) ≤ (l : Int) + xs.length := by omega
  have q3 : (l : Int) + xs.length ≤ 64 := by omega
  have q4 : l ≤ l + xs.length := by omega
  go_wp2_with (first
    | (go_at_call 151; refine (f151_yes g b l xs.length hl _ _ _ H.out).mono ?_; rintro e w2 ⟨rfl, K1, K2⟩; have c := blk_cells K1; have HB2 := Aside0.mk (K2.keepT H.out HB.out (by decide)); have HC2 := Aside0.mk (C_upd HC.out K2 (fun a ha => by simpa using HA.out a ha)); have K1 := Aside0.mk K1; have K2 := Aside0.mk K2)
    | (refine wp_copy (by rfl) _ _ 25 25 (by rfl) 5 Tryz.underlying25 size5 _ _ _ _ _ _ (by rfl) (by rfl) b l cur 5 ?hg (nums .u8 xs) ?hl ?hp ?hf (nums_one _ _) ?_; (case hg => exact HB2.out); (case hl => rw [hlen]; exact (Nat.min_self _).symm); (case hf => rw [hlen, HS.out]; omega); (case hp => intro _; obtain ⟨ad, e1, e2⟩ := bytes_cells HC2.out hx0; refine ⟨rfl, ad, e1, fun j v hv => ?_⟩; simp only [nums, List.getElem?_map, Option.map_eq_some_iff] at hv; obtain ⟨x, hx, rfl⟩ := hv; exact e2 j x hx); intro w3 J1 J2; rw [hlen]))
  go_ret2
  have hne : g ≠ b := blk_ne K1.out HB2.out (by decide)
  exact ⟨rfl, J2.out.keep1 K1.out hne, J1.out, (U1.out.trans (K2.out.mono (by simp))).trans (J2.out.mono (by simp))⟩
end Go.Proofs.YtohdpnoinfnmiaaGreatDoor

namespace Go.Proofs.YtohdpnoinfnmiaaGreatDoor
open Go.RowKit U
open Go.Proofs.YtohdpnoinfnmiaaGreatDoorW.PrintWords (Aside0 Kd nums)
open Go.Proofs.YtohdpnoinfnmiaaGreatDoorW.PrintMore
attribute [local go_sem ↓] Go.wp_at_zero Go.wp_at_succ
/-- The two tables of the delta reader. -/
structure Tabs (w : World) (t o cap t' o' cap' : Nat) : Prop where
  h : w.cell? ⟨15,0,none⟩ = some (.slice (some ⟨t,o,none⟩) 4 cap)
  m0 : w.cell? ⟨t,o,none⟩ = some (.int .u8 1)
  m1 : w.cell? ⟨t,o+2,none⟩ = some (.int .u8 2)
  m2 : w.cell? ⟨t,o+4,none⟩ = some (.int .u8 4)
  m3 : w.cell? ⟨t,o+6,none⟩ = some (.int .u8 8)
  s0 : w.cell? ⟨t,o+1,none⟩ = some (.int .u64 0)
  s1 : w.cell? ⟨t,o+3,none⟩ = some (.int .u64 8)
  s2 : w.cell? ⟨t,o+5,none⟩ = some (.int .u64 16)
  s3 : w.cell? ⟨t,o+7,none⟩ = some (.int .u64 24)
  h' : w.cell? ⟨16,0,none⟩ = some (.slice (some ⟨t',o',none⟩) 3 cap')
  n0 : w.cell? ⟨t',o',none⟩ = some (.int .u8 16)
  n1 : w.cell? ⟨t',o'+2,none⟩ = some (.int .u8 32)
  n2 : w.cell? ⟨t',o'+4,none⟩ = some (.int .u8 64)
  r0 : w.cell? ⟨t',o'+1,none⟩ = some (.int .u64 0)
  r1 : w.cell? ⟨t',o'+3,none⟩ = some (.int .u64 8)
  r2 : w.cell? ⟨t',o'+5,none⟩ = some (.int .u64 16)
theorem Tabs.upd {L : List Nat} {w w' : World} {t o cap t' o' cap' : Nat} (k : Tabs w t o cap t' o' cap') (u : Upd L w w') (h1 : 15 ∉ L) (h2 : 16 ∉ L) (h3 : t ∉ L) (h4 : t' ∉ L) : Tabs w' t o cap t' o' cap' :=
  ⟨Upd.cell u k.h h1, Upd.cell u k.m0 h3, Upd.cell u k.m1 h3, Upd.cell u k.m2 h3, Upd.cell u k.m3 h3, Upd.cell u k.s0 h3, Upd.cell u k.s1 h3, Upd.cell u k.s2 h3, Upd.cell u k.s3 h3,
   Upd.cell u k.h' h2, Upd.cell u k.n0 h4, Upd.cell u k.n1 h4, Upd.cell u k.n2 h4, Upd.cell u k.r0 h4, Upd.cell u k.r1 h4, Upd.cell u k.r2 h4⟩
/-- The delta's seven bytes. -/
structure Del (w : World) (d : Nat) : Prop where
  c0 : w.cell? ⟨d,0,none⟩ = some (.int .u8 4)
  c1 : w.cell? ⟨d,1,none⟩ = some (.int .u8 6)
  c2 : w.cell? ⟨d,2,none⟩ = some (.int .u8 144)
  c3 : w.cell? ⟨d,3,none⟩ = some (.int .u8 4)
  c4 : w.cell? ⟨d,4,none⟩ = some (.int .u8 2)
  c5 : w.cell? ⟨d,5,none⟩ = some (.int .u8 45)
  c6 : w.cell? ⟨d,6,none⟩ = some (.int .u8 33)
theorem Del.upd {L : List Nat} {w w' : World} {d : Nat} (k : Del w d) (u : Upd L w w') (h : d ∉ L) : Del w' d :=
  ⟨Upd.cell u k.c0 h, Upd.cell u k.c1 h, Upd.cell u k.c2 h, Upd.cell u k.c3 h, Upd.cell u k.c4 h, Upd.cell u k.c5 h, Upd.cell u k.c6 h⟩
theorem Del.last {w : World} {d : Nat} (k : Del w d) : Kd.C (Kd.int .u8) w (some ⟨d,5,none⟩) 2 [45, 33] := by
  refine ⟨rfl, by decide, fun _ => ⟨_, rfl, fun j v hv => ⟨[.int .u8 v], rfl, rfl, fun i u hu => ?_⟩⟩⟩
  have hi : i < 1 := (List.getElem?_eq_some_iff.1 hu).1
  obtain rfl : i = 0 := by omega
  have hu' : Value.int .u8 v = u := by simpa using hu
  subst hu'
  have hj : j < 2 := (List.getElem?_eq_some_iff.1 hv).1
  have : j = 0 ∨ j = 1 := by omega
  rcases this with rfl | rfl
  · have : (45 : Int) = v := by simpa using hv
    subst this
    exact k.c5
  · have : (33 : Int) = v := by simpa using hv
    subst this
    exact k.c6
theorem f119_t {t o cap t' o' cap' : Nat} (A : Option Addr) (n c : Nat) (w : World) (k : Tabs w t o cap t' o' cap') : Calls Tryz.prog 119 #[.int .u8 144, .slice A n c] w fun e w' => e = .returned (.tuple #[.int .u64 0, .slice A n c, .nilIface]) ∧ Upd [] w w' :=
  f119_a A n c t o cap w k.h k.m0 k.m1 k.m2 k.m3 k.s0 k.s1 k.s2 k.s3
theorem f120_t {t o cap t' o' cap' : Nat} (d c : Nat) (hc : (4 : Int) ≤ c) (w : World) (k : Tabs w t o cap t' o' cap') (hb : Del w d) : Calls Tryz.prog 120 #[.int .u8 144, .slice (some ⟨d,3,none⟩) 4 c] w fun e w' => e = .returned (.tuple #[.int .u64 4, .slice (some ⟨d,4,none⟩) 3 (c - 1), .nilIface]) ∧ Upd [] w w' :=
  f120_a d c hc t' o' cap' w k.h' hb.c3 k.n0 k.n1 k.n2 k.r0 k.r1 k.r2
end Go.Proofs.YtohdpnoinfnmiaaGreatDoor

namespace Go.Proofs.YtohdpnoinfnmiaaGreatDoor
open Go.RowKit U
open Go.Proofs.YtohdpnoinfnmiaaGreatDoorW.PrintWords (Aside0 Kd nums Drawn0)
open Go.Proofs.YtohdpnoinfnmiaaGreatDoorW.PrintMore
attribute [local go_sem ↓] Go.wp_at_zero Go.wp_at_succ
attribute [local go_sem] max2_int min2_int max_two min_two
theorem Drawn0.upd {w w' : World} (h : Drawn0 w w') (L : List Nat) : Upd L w w' := by
  obtain ⟨n, rfl⟩ := h.out
  exact (Upd.refl L w).drewN n
set_option maxRecDepth 100000 in
set_option maxHeartbeats 3200000 in
theorem f70_works (g d cD cB t o cap t' o' cap' : Nat) (A : Option Addr) (w : World) (hcD : 7 ≤ cD) (hcB : 4 ≤ cB)
   (h : w.heap[g]? = some (.cells #[.slice none 0 0, .int .i64 0, .int .i8 0] 73 (0,0))) (hT : Tabs w t o cap t' o' cap') (hD : Del w d) (hB : Kd.C (Kd.int .u8) w A 4 [98, 97, 115, 101])
   (hg1 : g ≠ d) (hg2 : g ≠ t) (hg3 : g ≠ t') (hg4 : 16 < g) (hA : ∀ a, A = some a → a.block ≠ g) :
   Calls Tryz.prog 70 #[.pointer (some ⟨g,0,none⟩), .slice A 4 cB, .slice (some ⟨d,0,none⟩) 7 cD] w fun e w' => e = .returned .nilIface ∧ ∃ b cur, w'.heap[g]? = some (.cells #[.slice (some ⟨b,0,none⟩) 6 64, .int .i64 0, .int .i8 0] 73 (0,0)) ∧ w.heap.size ≤ b ∧
     w'.heap[b]? = some (.cells cur 5 (0,0)) ∧ cur.toList.take 6 = nums .u8 [98, 97, 115, 101, 45, 33] ∧ Upd [g] w w' := by
  have H := Aside0.mk h
  have T := Aside0.mk hT
  have D := Aside0.mk hD
  have B := Aside0.mk hB
  have HA := Aside0.mk hA
  clear h hT hD hB hA
  have q1 : (7 : Int) ≤ cD := by omega
  have q2 : (4 : Int) ≤ cB := by omega
  go_enter Tryz.func70, Tryz.ntmps70
  go_wp2_with (first
    | (go_at_call_of 117 (Value.slice (some ⟨d,0,none⟩) 7 cD); refine (f117_a d cD hcD _ D.out.c0).mono ?_; rintro e w1 ⟨rfl, U1⟩; have U1 := Aside0.mk U1)
    | (go_at_call 117; refine (f117_b d (cD - 1) (by omega) _ (D.out.upd U1.out (by simp)).c1).mono ?_; rintro e w2 ⟨rfl, U2⟩; have U3 := Aside0.mk (U1.out.trans U2); clear U1 U2)
    | (go_at_call 104; refine (f104_new g _ _ (U3.out.keep H.out (by simp))).mono ?_; rintro e w3 ⟨b, cur, rfl, K1, K2, K3, K4, K5⟩; have K1 := Aside0.mk K1; have K2 := Aside0.mk (Nat.le_trans U3.out.size K2); have K3 := Aside0.mk K3; have K4 := Aside0.mk K4; have U4 := Aside0.mk ((U3.out.mono (M := [g]) (by simp)).trans K5); clear K5)
    | fail)
  have hbg : b ≠ g := Ne.symm (blk_ne K1.out K3.out (by decide))
  have hbd : b ≠ d := fun e => by have := World.block_lt_of_cell? w _ D.out.c0; have := K2.out; subst e; simp at *; omega
  have D3 := D.out.upd U4.out (by simpa using hg1.symm)
  have T3 := T.out.upd U4.out (by simp; omega) (by simp; omega) (by simpa using hg2.symm) (by simpa using hg3.symm)
  have B3 := C_upd B.out U4.out (fun a ha => by simpa using HA.out a ha)
  have d2 := D3.c2
  have D3 := Aside0.mk D3
  have T3 := Aside0.mk T3
  have B3 := Aside0.mk B3
  refine wp_loop_rounds 3 ?_
  rw [rounds_succ]
  go_wp2_with (first
    | (go_at_call 118; refine (PFnPackOther.packfile_isCopyFromSrc.calls 144 true _ (by decide)).mono ?_; rintro e w4 ⟨rfl, h4⟩; have V4 := Aside0.mk (Drawn0.upd h4 []); clear h4)
    | (go_at_call 119; refine (f119_t _ _ _ _ (T3.out.upd V4.out (by simp) (by simp) (by simp) (by simp))).mono ?_; rintro e w5 ⟨rfl, h5⟩; have V5 := Aside0.mk (V4.out.trans h5); clear h5)
    | (go_at_call 120; refine (f120_t d _ (by omega) _ (T3.out.upd V5.out (by simp) (by simp) (by simp) (by simp)) (D3.out.upd V5.out (by simp))).mono ?_; rintro e w6 ⟨rfl, h6⟩; have V6 := Aside0.mk (V5.out.trans h6); clear h6)
    | (go_at_call 121; refine (PFnPackOther.packfile_invalidSize.calls 4 6 false _ (by decide)).mono ?_; rintro e w7 ⟨rfl, h7⟩; have V7 := Aside0.mk (V6.out.trans (Drawn0.upd h7 [])); clear h7)
    | (go_at_call 122; refine (PFnPackOther.packfile_invalidOffsetSize.calls 0 4 4 false _ (by decide)).mono ?_; rintro e w8 ⟨rfl, h8⟩; have V8 := Aside0.mk (V7.out.trans (Drawn0.upd h8 [])); clear h8)
    | (go_at_call 123; refine (f123_calls g b 0 cB A [98, 97, 115, 101] _ cur (by decide) (by decide) _ (V8.out.keep K1.out (by simp)) (V8.out.keep K3.out (by simp)) K4.out (C_upd B3.out V8.out (by simp)) HA.out).mono ?_; rintro e w9 ⟨rfl, Z1, Z2, Z3⟩; have Z1 := Aside0.mk Z1; have Z2 := Aside0.mk Z2; have V9 := Aside0.mk ((V8.out.mono (M := [g, b]) (by simp)).trans Z3); clear Z3; have d4 := (D3.out.upd V9.out (by simp; omega)).c4))
  have hs2 : ((splice cur.toList 0 (nums .u8 [98, 97, 115, 101])).toArray).size = 64 := by have := K4.out; simp [splice, nums]; omega
  have HS2 := Aside0.mk hs2
  clear hs2
  rw [rounds_succ]
  clear d2
  go_wp2_with (first
    | (go_at_call 118; refine (PFnPackOther.packfile_isCopyFromSrc.calls 2 false _ (by decide)).mono ?_; rintro e w10 ⟨rfl, h4⟩; have V10 := Aside0.mk (Drawn0.upd h4 []); clear h4)
    | (go_at_call 124; refine (PFnPackOther.packfile_isCopyFromDelta.calls 2 true _ (by decide)).mono ?_; rintro e w11 ⟨rfl, h4⟩; have V11 := Aside0.mk (V10.out.trans (Drawn0.upd h4 [])); clear h4)
    | (go_at_call 121; refine (PFnPackOther.packfile_invalidSize.calls 2 2 false _ (by decide)).mono ?_; rintro e w12 ⟨rfl, h4⟩; have V12 := Aside0.mk (V11.out.trans (Drawn0.upd h4 [])); clear h4)
    | (go_at_call 123; refine (f123_calls g b 4 _ (some ⟨d,5,none⟩) [45, 33] _ _ (by decide) (by decide) _ (V12.out.keep Z1.out (by simp)) (V12.out.keep Z2.out (by simp)) HS2.out ((D3.out.upd V9.out (by simp; omega)).upd V12.out (by simp)).last (fun a ha => by cases ha; exact hg1.symm)).mono ?_; rintro e w13 ⟨rfl, Y1, Y2, Y3⟩; have Y1 := Aside0.mk Y1; have Y2 := Aside0.mk Y2; have V13 := Aside0.mk ((V12.out.mono (M := [g, b]) (by simp)).trans Y3); clear Y3))
  all_goals
    rw [rounds_succ]
    go_wp2
    go_ret
    refine ⟨rfl, b, _, Y1.out, K2.out, Y2.out, by simp [splice, nums], ?_⟩
    have := K2.out
    exact U4.out.andThen (V9.out.trans V13.out) (fun x hx => by
      simp only [List.mem_cons, List.not_mem_nil, or_false] at hx
      rcases hx with rfl | rfl
      · exact .inl (by simp)
      · exact .inr this)
end Go.Proofs.YtohdpnoinfnmiaaGreatDoor

namespace Go.Proofs.YtohdpnoinfnmiaaGreatDoor
open Go.RowKit U
open Go.Proofs.YtohdpnoinfnmiaaGreatDoorW.PrintWords (Aside0 Kd nums Drawn0)
open Go.Proofs.YtohdpnoinfnmiaaGreatDoorW.PrintMore
attribute [local go_sem ↓] Go.wp_at_zero Go.wp_at_succ
set_option maxRecDepth 100000 in
set_option maxHeartbeats 1600000 in
theorem f38_works (d cD cB t o cap t' o' cap' : Nat) (A : Option Addr) (w : World) (hcD : 7 ≤ cD) (hcB : 4 ≤ cB)
   (hT : Tabs w t o cap t' o' cap') (hD : Del w d) (hB : Kd.C (Kd.int .u8) w A 4 [98, 97, 115, 101]) :
   Calls Tryz.prog 38 #[.slice A 4 cB, .slice (some ⟨d,0,none⟩) 7 cD] w fun e w' => ∃ b cur, e = .returned (.tuple #[.slice (some ⟨b,0,none⟩) 6 64, .nilIface]) ∧ 
     w'.heap[b]? = some (.cells cur 5 (0,0)) ∧ cur.toList.take 6 = nums .u8 [98, 97, 115, 101, 45, 33] ∧ w.heap.size ≤ b ∧ Upd [] w w' := by
  have l16 : 16 < w.heap.size := World.block_lt_of_cell? w _ hT.h'
  have lt : t < w.heap.size := World.block_lt_of_cell? w _ hT.m0
  have lt' : t' < w.heap.size := World.block_lt_of_cell? w _ hT.n0
  have ld : d < w.heap.size := World.block_lt_of_cell? w _ hD.c0
  have hA : ∀ a, A = some a → a.block < w.heap.size := by
    intro a ha
    obtain ⟨ad, e, hc⟩ := bytes_cells hB (by omega)
    rw [ha] at e
    cases e
    have := World.block_lt_of_cell? w _ (hc 0 _ rfl)
    rwa [show (a.add 0).block = a.block from by unfold Addr.add; split <;> rfl] at this
  have T := Aside0.mk hT
  have D := Aside0.mk hD
  have B := Aside0.mk hB
  have HA := Aside0.mk hA
  clear hT hD hB hA
  have ua := (Upd.refl [] w).alloc (.cells #[.slice none 0 0, .int .i64 0, .int .i8 0] 73 (0,0))
  have hb := blk_new w (.cells #[.slice none 0 0, .int .i64 0, .int .i8 0] 73 (0,0))
  have UA := Aside0.mk ua
  have HB := Aside0.mk hb
  clear ua hb
  go_enter Tryz.func38, Tryz.ntmps38
  go_wp2_with (first
    | (go_at_call 70; refine (f70_works w.heap.size d cD cB t o cap t' o' cap' A _ hcD hcB HB.out (T.out.upd UA.out (by simp) (by simp) (by simp) (by simp)) (D.out.upd UA.out (by simp)) (C_upd B.out UA.out (by simp)) (by omega) (by omega) (by omega) (by omega) (fun a ha => by have := HA.out a ha; omega)).mono ?_; rintro e w1 ⟨rfl, b, cur, K1, K2, K3, K4, K5⟩; have K1 := Aside0.mk K1; have K2 := Aside0.mk K2; have K3 := Aside0.mk K3; have K4 := Aside0.mk K4; have K5 := Aside0.mk K5)
    | (go_at_call 29; refine (f29_calls w.heap.size b 6 _ (by omega) _ K1.out).mono ?_; rintro e w2 ⟨rfl, U2⟩))
  go_ret2
  have := K2.out
  have := UA.out.size
  exact ⟨b, cur, rfl, U2.keep K3.out (by simp), K4.out, by omega, (UA.out.andThen K5.out (fun x hx => .inr (by simp at hx; omega))).trans U2⟩
end Go.Proofs.YtohdpnoinfnmiaaGreatDoor

namespace Go.Proofs.YtohdpnoinfnmiaaGreatDoor
open Go.RowKit U
open Go.Proofs.YtohdpnoinfnmiaaGreatDoorW.PrintWords (Aside0 Kd nums Drawn0)
open Go.Proofs.YtohdpnoinfnmiaaGreatDoorW.PrintMore
attribute [local go_sem ↓] Go.wp_at_zero Go.wp_at_succ
/-- A goal at which the walk stands still. -/
structure Held (p : Prop) : Prop where
  out : p
theorem C_of_take {w : World} {d : Nat} {t : TypeId} {cur : Array Value} {xs : List Int} (hL : xs.length ≤ 9223372036854775807) (h : w.heap[d]? = some (.cells cur t (0,0))) (ht : cur.toList.take xs.length = nums .u8 xs) : Kd.C (Kd.int .u8) w (some ⟨d,0,none⟩) xs.length xs := by
  refine ⟨rfl, hL, fun hn => ⟨_, rfl, fun j v hv => ⟨[.int .u8 v], rfl, rfl, fun i u hu => ?_⟩⟩⟩
  have hi : i < 1 := (List.getElem?_eq_some_iff.1 hu).1
  obtain rfl : i = 0 := by omega
  have hu' : Value.int .u8 v = u := by simpa using hu
  subst hu'
  rw [show (⟨d, 0, none⟩ : Addr).add (j * (Kd.int IntKind.u8).sz + 0) = ⟨d, j, none⟩ from by unfold Addr.add; split <;> simp_all [Kd.int, Kd.scalar], blk_cells h]
  have h1 : (cur.toList.take xs.length)[j]? = some (.int .u8 v) := by rw [ht]; simp [nums, hv]
  rw [List.getElem?_take] at h1
  split at h1
  · simpa using h1
  · cases h1
theorem row_take {w : World} {base e n cap : Nat} {b : Nat} {xs : List Value} (h : w.ownsRow base e 1 (.slice (some ⟨b, 0, none⟩) n cap) n xs) : ∃ cur, w.heap[b]? = some (.cells cur e (0, 0)) ∧ cur.toList.take n = xs ∧ n ≤ cap := by
  rcases h.2 with ⟨h1, _⟩ | ⟨g, cap', cur, hv, _, hh, hn, _, _, hx⟩
  · cases h1
  · cases hv
    exact ⟨cur, hh, by simpa using hx, hn⟩
set_option maxRecDepth 100000 in
set_option maxHeartbeats 1600000 in
theorem f13_works (s d t o cap0 t' o' cap' : Nat) (fr : Nat × Nat) (w : World) (hT : Tabs w t o cap0 t' o' cap')
   (hs : w.heap[s]? = some (.cells #[.int .u8 98, .int .u8 97, .int .u8 115, .int .u8 101] 5 fr)) (hd : w.heap[d]? = some (.cells #[.int .u8 4, .int .u8 6, .int .u8 144, .int .u8 4, .int .u8 2, .int .u8 45, .int .u8 33] 5 (0,0))) :
   Calls Tryz.prog 13 #[.slice (some ⟨s,0,none⟩) 4 4, .slice (some ⟨d,0,none⟩) 7 7] w fun e w' => ∃ b cur, e = .returned (.tuple #[.slice (some ⟨b,0,none⟩) 6 64, .bool true]) ∧ 
     w'.heap[b]? = some (.cells cur 5 (0,0)) ∧ cur.toList.take 6 = nums .u8 [98, 97, 115, 101, 45, 33] ∧ w.heap.size ≤ b ∧ Upd [] w w' := by
  have T := Aside0.mk hT
  have S := Aside0.mk hs
  have D := Aside0.mk hd
  clear hT hs hd
  obtain ⟨i0, hi, hz0, hz1, hz2⟩ := info_parts Tryz.info5
  go_enter Tryz.func13, Tryz.ntmps13
  have hn4 : ∀ w1 : World, Upd [] w w1 → ∀ j u, (nums .u8 [98, 97, 115, 101])[j]? = some u → w1.cell? ((⟨s,0,none⟩ : Addr).add j) = some u := fun w1 u1 j u hu => by
    rw [show (⟨s, 0, none⟩ : Addr).add j = ⟨s, j, none⟩ from by unfold Addr.add; split <;> simp_all, cell_of_row w1 s j _ 5 fr (u1.keep S.out (by simp))]
    simpa [nums] using hu
  have HN4 := Aside0.mk hn4
  clear hn4
  go_wp2_with (at_builtin; refine Held.out ?_)
  refine Held.mk ?_
  refine wpList_append_lies _ (by rfl) _ _ 25 (by rfl) w.heap.size 5 i0 (.int .u8 0) 1 1 Tryz.underlying25 hi hz0 hz1 hz2 (by rfl) (by omega) (.slice (some ⟨w.heap.size,0,none⟩) 0 0) 0 [] (by rfl) ?own ⟨s,0,none⟩ 4 4 (nums .u8 [98, 97, 115, 101]) (by rfl) (by rfl) ?news (nums_one _ _) (by omega) (by simp [maxLen]) (by omega) ?base (w.heap.size + 1) (by simp) ?_
  case own => exact ⟨rfl, .inr ⟨_, 0, #[], rfl, Nat.le_refl _, blk_new _ _, Nat.le_refl _, by simp, rfl, rfl⟩⟩
  case news => exact HN4.out _ ((Upd.refl [] w).alloc _)
  case base => simp
  intro g cap w1 ho hg hl hlt
  have hu1 : Upd [] w w1 := ((Upd.refl [] w).alloc (.cells #[] 5 (0,0))).grown hg (fun k e => by cases e; exact .inr (Nat.le_refl _))
  have hge : w.heap.size ≤ g := by rcases hl with e | e <;> first | (cases e; exact Nat.le_refl _) | omega
  obtain ⟨cur1, hb1, ht1, hc1⟩ := row_take ho
  have HU := Aside0.mk hu1
  have HB := Aside0.mk hb1
  have HT := Aside0.mk ht1
  have HC := Aside0.mk hc1
  clear ho hg hl hlt hu1 hb1 ht1 hc1
  have hn7 : ∀ w2 : World, Upd [] w1 w2 → ∀ j u, (nums .u8 [4, 6, 144, 4, 2, 45, 33])[j]? = some u → w2.cell? ((⟨d,0,none⟩ : Addr).add j) = some u := fun w2 u2 j u hu => by
    rw [show (⟨d, 0, none⟩ : Addr).add j = ⟨d, j, none⟩ from by unfold Addr.add; split <;> simp_all, blk_cells (u2.keep (HU.out.keep D.out (by simp)) (by simp))]
    simpa [nums] using hu
  have HN7 := Aside0.mk hn7
  clear hn7
  go_wp2_with (at_builtin; refine Held.out ?_)
  refine Held.mk ?_
  refine wpList_append_lies _ (by rfl) _ _ 25 (by rfl) w1.heap.size 5 i0 (.int .u8 0) 1 1 Tryz.underlying25 hi hz0 hz1 hz2 (by rfl) (by omega) (.slice (some ⟨w1.heap.size,0,none⟩) 0 0) 0 [] (by rfl) ?own ⟨d,0,none⟩ 7 7 (nums .u8 [4, 6, 144, 4, 2, 45, 33]) (by rfl) (by rfl) ?news (nums_one _ _) (by omega) (by simp [maxLen]) (by omega) ?base (w1.heap.size + 1) (by simp) ?_
  case own => exact ⟨rfl, .inr ⟨_, 0, #[], rfl, Nat.le_refl _, blk_new _ _, Nat.le_refl _, by simp, rfl, rfl⟩⟩
  case news => exact HN7.out _ ((Upd.refl [] w1).alloc _)
  case base => simp
  intro e cap2 w2 ho hg hl hlt
  have hu1 : Upd [] w1 w2 := ((Upd.refl [] w1).alloc (.cells #[] 5 (0,0))).grown hg (fun k e => by cases e; exact .inr (Nat.le_refl _))
  obtain ⟨cur2, hb1, ht1, hc1⟩ := row_take ho
  have HU2 := Aside0.mk hu1
  have HB2 := Aside0.mk hb1
  have HT2 := Aside0.mk ht1
  have HC2 := Aside0.mk hc1
  have hD : Del w2 e := by
    have hc : ∀ j v, (nums .u8 [4, 6, 144, 4, 2, 45, 33])[j]? = some v → w2.cell? ⟨e, j, none⟩ = some v := fun j v hv => by
      rw [blk_cells hb1]
      have ht2 : cur2.toList.take 7 = nums .u8 [4, 6, 144, 4, 2, 45, 33] := ht1
      rw [← ht2, List.getElem?_take] at hv
      split at hv
      · simpa using hv
      · cases hv
    exact ⟨hc 0 _ rfl, hc 1 _ rfl, hc 2 _ rfl, hc 3 _ rfl, hc 4 _ rfl, hc 5 _ rfl, hc 6 _ rfl⟩
  have hC : Kd.C (Kd.int .u8) w2 (some ⟨g,0,none⟩) 4 [98, 97, 115, 101] := C_of_take (by decide) (HU2.out.keep HB.out (by simp)) HT.out
  have DD := Aside0.mk hD
  have CC := Aside0.mk hC
  clear ho hg hl hlt hu1 hb1 ht1 hc1 hD hC
  go_wp2_with (first | (go_at_call 38; refine (f38_works e cap2 cap t o cap0 t' o' cap' _ _ HC2.out HC.out ((T.out.upd HU.out (by simp) (by simp) (by simp) (by simp)).upd HU2.out (by simp) (by simp) (by simp) (by simp)) DD.out CC.out).mono ?_; rintro e1 w3 ⟨b, cur3, rfl, K1, K2, K3, K4⟩; have K1 := Aside0.mk K1; have K2 := Aside0.mk K2; have K3 := Aside0.mk K3; have K4 := Aside0.mk K4) | fail)
  go_quiet (fail)
  go_wp2
  go_ret2
  have := K3.out
  have := HU.out.size
  have := HU2.out.size
  exact ⟨b, cur3, rfl, drewN_blk nq K1.out, K2.out, by omega, ((HU.out.trans HU2.out).trans K4.out).drewN nq⟩
end Go.Proofs.YtohdpnoinfnmiaaGreatDoor

namespace Go.Proofs.YtohdpnoinfnmiaaGreatDoor
open Go.RowKit U
open Go.Proofs.YtohdpnoinfnmiaaGreatDoorW.PrintWords (Aside0 Kd nums Drawn0)
open Go.Proofs.YtohdpnoinfnmiaaGreatDoorW.PrintMore
set_option maxRecDepth 100000 in
set_option maxHeartbeats 1600000 in
theorem f6_works (t o cap0 t' o' cap' : Nat) (w : World) (hT : Tabs w t o cap0 t' o' cap') :
   Calls Tryz.prog 6 #[] w fun e w' => e = .returned (.bool true) ∧ Upd [] w w' := by
  have T := Aside0.mk hT
  clear hT
  have ua := (Upd.refl [] w).alloc (.cells #[.int .u8 98, .int .u8 97, .int .u8 115, .int .u8 101] 5 (4,5))
  have ub := ua.alloc (.cells #[.int .u8 4, .int .u8 6, .int .u8 144, .int .u8 4, .int .u8 2, .int .u8 45, .int .u8 33] 5 (0,0))
  have UB := Aside0.mk ub
  clear ua ub
  have cc := Lib.run_convert_bytes_const (P := Tryz.prog) w 25 5 #[.int .u8 98, .int .u8 97, .int .u8 115, .int .u8 101] 4 4 Tryz.underlying25 Tryz.underlying5
  simp only [List.size_toArray, List.length_cons, List.length_nil, Nat.reduceAdd] at cc
  go_enter Tryz.func6, Tryz.ntmps6
  go_wp2_with (go_at_call 13; refine (f13_works w.heap.size (w.heap.size + 1) t o cap0 t' o' cap' (4,5) _ (T.out.upd UB.out (by simp) (by simp) (by simp) (by simp)) (blk_old (blk_new w _) _) (by simpa using blk_new (w.alloc (.cells #[.int .u8 98, .int .u8 97, .int .u8 115, .int .u8 101] 5 (4,5))) (.cells #[.int .u8 4, .int .u8 6, .int .u8 144, .int .u8 4, .int .u8 2, .int .u8 45, .int .u8 33] 5 (0,0)))).mono ?_; rintro e w3 ⟨b, cur, rfl, K1, K2, K3, K4⟩; have cv : (convert 25 9 (.slice (some ⟨b,0,none⟩) 6 64)).run Tryz.prog w3 = .ok (.string (strOfNums [98, 97, 115, 101, 45, 33])) w3 := Kd.C_string (P := Tryz.prog) (c := 64) Tryz.underlying25 Tryz.underlying5 Tryz.underlying9 (C_of_take (xs := [98, 97, 115, 101, 45, 33]) (by decide) K1 K2); have K4 := Aside0.mk K4)
  have hb : ((strOfNums [98, 97, 115, 101, 45, 33]).toList == [98, 97, 115, 101, 45, 33]) = true := by decide +kernel
  go_ret
  refine ⟨?_, UB.out.trans K4.out⟩
  show Ending.returned (.bool ((strOfNums [98, 97, 115, 101, 45, 33]).toList == [98, 97, 115, 101, 45, 33])) = _
  rw [hb]
end Go.Proofs.YtohdpnoinfnmiaaGreatDoor
