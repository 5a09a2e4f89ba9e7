/- Contracts of readSignature, isValidSignature, over what scannerReader.Read does. Contracts of zzBig, zzRead, ReadUint32, readVersion, over what scannerReader.Read does. Contracts of hash.New, newScannerReader, NewScanner. What the scanner's reader gives at its first and its second read of four bytes. ScanPack and the header, where the first eight bytes are not those of a pack. The parser at a bad head. ParsePack at a bad head. The delta reader's small parts, at the numbers that deltaWorks brings. -/
import Derived.Test.YtohdpnoinfnmiaaGreatDoorA1
import Derived.Test.YtohdpnoinfnmiaaGreatDoorP4
import Derived.LaidEql
import Derived.Deep.MidRow
import Derived.Laws.ResultCell
import Derived.Test.YtohdpnoinfnmiaaGreatDoorPFnPackOtherx2
namespace Go.Proofs.YtohdpnoinfnmiaaGreatDoor
open Go.RowKit U
open Go.Proofs.YtohdpnoinfnmiaaGreatDoorW.PrintWords (Aside0 Kd nums)
open Go.Proofs.YtohdpnoinfnmiaaGreatDoorW.PrintMore
attribute [local go_sem ↓] Go.wp_at_zero Go.wp_at_succ
theorem row_blk2 {w : World} {base e n : Nat} {b : Nat} {xs : List Value} (h : w.ownsRow base e 1 (.slice (some ⟨b, 0, none⟩) n n) n xs) : ∃ cur, w.heap[b]? = some (.cells cur e (0, 0)) ∧ cur.size = n ∧ cur.toList = xs := by
  rcases h.2 with ⟨h1, _⟩ | ⟨g, cap, cur, hv, _, hh, _, _, hs, hx⟩
  · cases h1
  · cases hv
    refine ⟨cur, hh, by simpa using hs, ?_⟩
    rw [← hx, List.take_of_length_le (by simp at hs ⊢; omega)]
/-- A read of as many bytes as xs has, into a block of one's own, by the scanner's reader g. -/
structure Rd (g : Nat) (xs : List Int) (td : TypeId) (w : World) (L : List Nat) (R : World → Prop) : Prop where
  read : ∀ (w1 : World) (d : Nat) (C : Nat) (cd : Array Value), Upd [] w w1 → w.heap.size ≤ d → w1.heap[d]? = some (.cells cd td (0,0)) → xs.length ≤ cd.size → xs.length ≤ C → (∀ v ∈ cd.toList, v.oneCell' = true) →
    Calls Tryz.prog 272 #[.pointer (some ⟨g,0,none⟩), .slice (some ⟨d,0,none⟩) xs.length C] w1 fun e w' => e = .returned (.tuple #[.int .i64 xs.length, .nilIface]) ∧ w'.heap[d]? = some (.cells (splice cd.toList 0 (nums .u8 xs)).toArray td (0,0)) ∧ R w' ∧ Upd (d :: L) w1 w'
  keep : ∀ (v : Nat) (w2 w' : World), w.heap.size ≤ v → Upd [v] w2 w' → R w2 → R w'
theorem Rd.later {g : Nat} {xs : List Int} {td : TypeId} {w w1 : World} {L : List Nat} {R : World → Prop} (h : Rd g xs td w L R) (u : Upd [] w w1) : Rd g xs td w1 L R :=
  ⟨fun w2 d C cd u2 hd hb h1 h2 h3 => h.read w2 d C cd (u.trans u2) (Nat.le_trans u.size hd) hb h1 h2 h3, fun v w2 w' hv u2 hr => h.keep v w2 w' (Nat.le_trans u.size hv) u2 hr⟩
theorem Rd.at {g : Nat} {xs : List Int} {td : TypeId} {w : World} {L : List Nat} {R : World → Prop} (h : Rd g xs td w L R) (w1 : World) (d : Nat) (C : Nat) (cd : Array Value) (u : Upd [] w w1) (hd : w.heap.size ≤ d) (hb : w1.heap[d]? = some (.cells cd td (0,0))) (h1 : xs.length ≤ cd.size) (h2 : xs.length ≤ C) (h3 : ∀ v ∈ cd.toList, v.oneCell' = true) :
    ∀ q, Calls Tryz.prog 272 #[.pointer (some ⟨g,0,none⟩), .slice (some ⟨d,0,none⟩) xs.length C] (w1.drewN q) fun e w' => e = .returned (.tuple #[.int .i64 xs.length, .nilIface]) ∧ w'.heap[d]? = some (.cells (splice cd.toList 0 (nums .u8 xs)).toArray td (0,0)) ∧ R w' ∧ Upd (d :: L) w1 w' := fun q => by
  refine (h.read (w1.drewN q) d C cd (u.drewN q) hd (drewN_blk q hb) h1 h2 h3).mono ?_
  rintro e w' ⟨rfl, k1, k2, k3⟩
  exact ⟨rfl, k1, k2, ((Upd.refl (d :: L) w1).drewN q).trans k3⟩
theorem C_of_blk {w : World} {d : Nat} {t : TypeId} {xs : List Int} (hL : xs.length ≤ 9223372036854775807) (h : w.heap[d]? = some (.cells (nums .u8 xs).toArray t (0,0))) : Kd.C (Kd.int .u8) w (some ⟨d,0,none⟩) xs.length xs := by
  refine ⟨rfl, hL, fun hn => ⟨_, rfl, fun j v hv => ⟨[.int .u8 v], rfl, rfl, fun i u hu => ?_⟩⟩⟩
  · have : i = 0 := by
      have := (List.getElem?_eq_some_iff.1 hu).1
      simpa using this
    subst this
    have hu' : Value.int .u8 v = u := by simpa using hu
    subst hu'
    rw [show (⟨d, 0, none⟩ : Addr).add (j * (Kd.int IntKind.u8).sz + 0) = ⟨d, j, none⟩ from by unfold Addr.add; split <;> simp_all [Kd.int, Kd.scalar], blk_cells h]
    simp [nums, hv]
set_option maxRecDepth 100000 in
theorem f49_calls (s : Value) (A : Option Addr) (c : Nat) (xs : List Int) (w : World) (hx : Kd.C (Kd.int .u8) w A xs.length xs) (hc : xs.length ≤ c) :
    Calls Tryz.prog 49 #[s, .slice A xs.length c] w fun e w' => e = .returned (.bool ((strOfNums xs).toList == (strOfNums [80, 65, 67, 75]).toList)) ∧ Upd [] w w' := by
  have HX := Aside0.mk hx
  have HC := Aside0.mk hc
  clear hx hc
  go_enter Tryz.func49, Tryz.ntmps49
  go_wp2_with (first | (go_at_call 77; refine (PFnPackOther.packfile_signature.calls _ _ rfl).mono ?_; rintro e w1 ⟨v, rfl, hR, hB⟩; obtain ⟨A1, c1, rfl, hc1, hC1⟩ := Kd.R_reads hR; have K0 := Aside0.mk hB; have K1 := Aside0.mk hc1; have K2 := Aside0.mk hC1; clear hR hB hc1 hC1) | (go_at_call 76; refine (PFnPackOther.bytes_Equal.calls A c xs A1 c1 [80, 65, 67, 75] _ _ (Kd.C_below HX.out K0.out) HC.out K2.out K1.out rfl).mono ?_; rintro e w2 ⟨rfl, hd⟩))
  go_ret
  exact ⟨rfl, (Upd.of_below K0.out []).trans (Upd.of_below hd.below [])⟩

set_option maxRecDepth 100000 in
set_option maxHeartbeats 800000 in
theorem f48_calls (s g : Nat) (x0 x1 x2 x3 : Int) (cs : Array Value) (w : World) (L : List Nat) (R : World → Prop) (h : w.heap[s]? = some (.cells cs 131 (0,0))) (h0 : cs[0]? = some (.pointer (some ⟨g,0,none⟩))) (hr : Rd g [x0, x1, x2, x3] 5 w L R) :
    Calls Tryz.prog 48 #[.pointer (some ⟨s,0,none⟩)] w fun e w' => ∃ d, e = .returned (.tuple #[.slice (some ⟨d,0,none⟩) 4 4, .nilIface]) ∧ w.heap.size ≤ d ∧ w'.heap[d]? = some (.cells (nums .u8 [x0, x1, x2, x3]).toArray 5 (0,0)) ∧ R w' ∧ Upd L w w' := by
  have c := blk_cells h
  have c0 : w.cell? ⟨s,0,none⟩ = some (.pointer (some ⟨g,0,none⟩)) := (c 0).trans h0
  have H := Aside0.mk h
  have HR := Aside0.mk hr
  clear h h0 hr c
  obtain ⟨i0, hi, hz0, hz1, hz2⟩ := info_parts Tryz.info5
  go_enter Tryz.func48, Tryz.ntmps48
  go_wp2_with (first | (at_make; refine wpList_make_full _ rfl _ _ 25 rfl w.heap.size 5 i0 (.int .u8 0) 1 Tryz.underlying25 hi hz0 hz1 _ _ _ _ 4 rfl rfl rfl rfl ?c1 ?c2 ?c3 ?_) | fail)
  case c1 => omega
  case c2 => simp only [maxLen]; omega
  case c3 => exact Nat.le_refl _
  intro w1 ho hg
  obtain ⟨cur, hb2, hs2, hs3⟩ := row_blk2 ho
  have hone : ∀ v ∈ cur.toList, v.oneCell' = true := by
    rw [hs3]
    intro v hv
    simp only [madeCells, Array.toList_map, Array.toList_range, List.mem_map] at hv
    obtain ⟨x, _, rfl⟩ := hv
    rw [show x % (#[Value.int .u8 0] : Array Value).size = 0 from Nat.mod_one x]
    rfl
  have hb1 := blk_grown H.out hg (by simp)
  have hU : Upd [] w w1 := (Upd.refl _ _).grown hg (by simp)
  have hc := HR.out.at w1 w.heap.size 4 cur hU (Nat.le_refl _) hb2 (by rw [hs2]; exact Nat.le_refl 4) (Nat.le_refl 4) hone
  have c1 : w1.cell? ⟨s,0,none⟩ = some (.pointer (some ⟨g,0,none⟩)) := (blk_cells hb1 0).trans ((blk_cells H.out 0).symm.trans c0)
  have HC := Aside0.mk hc
  have HS := Aside0.mk hs2
  have HU := Aside0.mk hU
  have hs4 : cur.toList.length = 4 := by simpa using hs2
  clear c0 hc hone hb2 hb1 hs2 hs3 ho hg hU
  go_wp2_with (go_at_call 75; refine (f75_of g w.heap.size 4 4 _ (by omega) (by omega) (by omega) _ HC.out).mono ?_; rintro e w2 ⟨rfl, K1, K2, K3⟩)
  go_ret2
  refine ⟨_, rfl, Nat.le_refl _, ?_, K2, (HU.out.mono (by simp)).andThen K3 (fun x hx => by rcases List.mem_cons.1 hx with rfl | h1 <;> first | exact .inr (Nat.le_refl _) | exact .inl h1)⟩
  rw [K1]
  simp [splice, nums, hs4]
end Go.Proofs.YtohdpnoinfnmiaaGreatDoor

namespace Go.Proofs.YtohdpnoinfnmiaaGreatDoor
open Go.RowKit U
open Go.Proofs.YtohdpnoinfnmiaaGreatDoorW.PrintWords (Aside0 Kd nums)
open Go.Proofs.YtohdpnoinfnmiaaGreatDoorW.PrintMore
attribute [local go_sem ↓] Go.wp_at_zero Go.wp_at_succ
theorem Upd.cell {L : List Nat} {w w' : World} {p : Addr} {v : Value} (u : Upd L w w') (h : w.cell? p = some v) (hp : p.block ∉ L) : w'.cell? p = some v :=
  (World.cell?_of_block (u.block _ (World.block_lt_of_cell? w _ h) hp)).trans h
/-- Four bytes of a number, the highest first, as the code puts them together. -/
def be4 (x0 x1 x2 x3 : Int) : Int := bits .or .u64 (IntKind.u64.wrap (bits .or .u64 (IntKind.u64.wrap (bits .or .u64 (IntKind.u64.wrap (bits .or .u64 0 (IntKind.u64.wrap x0) * 256)) (IntKind.u64.wrap x1) * 256)) (IntKind.u64.wrap x2) * 256)) (IntKind.u64.wrap x3)
set_option maxRecDepth 100000 in
set_option maxHeartbeats 1600000 in
theorem f134_calls (g : Nat) (x0 x1 x2 x3 : Int) (w : World) (L : List Nat) (R : World → Prop) (hr : Rd g [x0, x1, x2, x3] 330 w L R) :
    Calls Tryz.prog 134 #[.iface 123 (.pointer (some ⟨g,0,none⟩)), .int .i64 4] w fun e w' => e = .returned (.tuple #[.int .u64 (be4 x0 x1 x2 x3), .nilIface]) ∧ R w' ∧ Upd L w w' := by
  have HR := Aside0.mk hr
  clear hr
  go_enter Tryz.func134, Tryz.ntmps134
  go_wp2_with fail
  have hb := blk_new w (.cells #[.int .u8 0, .int .u8 0, .int .u8 0, .int .u8 0, .int .u8 0, .int .u8 0, .int .u8 0, .int .u8 0] 330 (0,0))
  have hU : Upd [] w (w.alloc (.cells #[.int .u8 0, .int .u8 0, .int .u8 0, .int .u8 0, .int .u8 0, .int .u8 0, .int .u8 0, .int .u8 0] 330 (0,0))) := (Upd.refl _ _).alloc _
  have hc := HR.out.at (w.alloc (.cells #[.int .u8 0, .int .u8 0, .int .u8 0, .int .u8 0, .int .u8 0, .int .u8 0, .int .u8 0, .int .u8 0] 330 (0,0))) w.heap.size 8 _ hU (Nat.le_refl _) hb (by show 4 ≤ 8; omega) (by show 4 ≤ 8; omega) (by simp [Value.oneCell'])
  have HU := Aside0.mk hU
  have HC := Aside0.mk hc
  clear hc hb hU
  have hdd : w.heap.size ≤ w.heap.size := Nat.le_refl _
  have HDD := Aside0.mk hdd
  clear hdd
  generalize hdq : w.heap.size = d at *
  have HDQ := Aside0.mk hdq
  clear hdq HDD
  generalize w.alloc (.cells #[.int .u8 0, .int .u8 0, .int .u8 0, .int .u8 0, .int .u8 0, .int .u8 0, .int .u8 0, .int .u8 0] 330 (0,0)) = w1 at *
  go_wp2_with (go_at_call 75; refine (f75_of g d 4 8 _ (by omega) (by omega) (by omega) _ HC.out).mono ?_; rintro e w2 ⟨rfl, K1, K2, K3⟩; simp [splice, nums] at K1; have c := blk_cells K1)
  refine wp_loop_rounds 5 ?_
  rw [rounds_succ]
  go_wp2_with fail
  iterate 3 (rw [rounds_succ]; go_wp2_with fail)
  rw [rounds_succ]
  go_wp2
  go_ret2
  exact ⟨rfl, K2, (HU.out.mono (by simp)).andThen K3 (fun x hx => by rcases List.mem_cons.1 hx with rfl | h1 <;> first | exact .inr (Nat.le_of_eq HDQ.out) | exact .inl h1)⟩
theorem ta_269 (p : Addr) (w : World) : (Instr.typeAssert (.iface 261 (.pointer (some p))) 20 269 true).run Tryz.prog w = .ok (.tuple #[.pointer none, .bool false]) w := by kernel_rfl
theorem ta_279 (p : Addr) (w : World) : (Instr.typeAssert (.iface 261 (.pointer (some p))) 20 279 true).run Tryz.prog w = .ok (.tuple #[.pointer none, .bool false]) w := by kernel_rfl
theorem ta_261 (p : Addr) (w : World) : (Instr.typeAssert (.iface 261 (.pointer (some p))) 20 261 true).run Tryz.prog w = .ok (.tuple #[.pointer (some p), .bool true]) w := by kernel_rfl
set_option maxRecDepth 100000 in
set_option maxHeartbeats 1600000 in
theorem f92_calls (g v : Nat) (a : Value) (x0 x1 x2 x3 : Int) (w : World) (L : List Nat) (R : World → Prop) (hr : Rd g [x0, x1, x2, x3] 330 w L R) (hv : w.heap[v]? = some (.cells #[a] 29 (0,0))) (hvL : v ∉ L) :
    Calls Tryz.prog 92 #[.iface 123 (.pointer (some ⟨g,0,none⟩)), .iface 261 (.pointer (some ⟨v,0,none⟩))] w fun e w' => e = .returned .nilIface ∧ w'.heap[v]? = some (.cells #[.int .u32 (IntKind.u32.wrap (be4 x0 x1 x2 x3))] 29 (0,0)) ∧ ∃ w2, R w2 ∧ Upd L w w2 ∧ Upd [v] w2 w' := by
  have HR := Aside0.mk hr
  have HV := Aside0.mk hv
  clear hr hv
  have t1 := ta_269 ⟨v,0,none⟩
  have t2 := ta_279 ⟨v,0,none⟩
  have t3 := ta_261 ⟨v,0,none⟩
  go_enter Tryz.func92, Tryz.ntmps92
  go_wp2_with (go_at_call 134; refine (f134_calls g x0 x1 x2 x3 _ L R HR.out).mono ?_; rintro e w2 ⟨rfl, K1, K2⟩; have c := blk_cells (K2.keep HV.out hvL); have z := blk_free (K2.keep HV.out hvL))
  go_ret
  obtain ⟨H1, U2⟩ := set_open (K2.keep HV.out hvL) 0 (.int .u32 (be4 x0 x1 x2 x3 % 4294967296))
  exact ⟨rfl, H1, w2, K1, K2, U2⟩
set_option maxRecDepth 100000 in
set_option maxHeartbeats 1600000 in
theorem f78_calls (g : Nat) (x0 x1 x2 x3 : Int) (w : World) (L : List Nat) (R : World → Prop) (hr : Rd g [x0, x1, x2, x3] 330 w L R) (hL : ∀ x ∈ L, x < w.heap.size) :
    Calls Tryz.prog 78 #[.iface 123 (.pointer (some ⟨g,0,none⟩))] w fun e w' => e = .returned (.tuple #[.int .u32 (IntKind.u32.wrap (be4 x0 x1 x2 x3)), .nilIface]) ∧ R w' ∧ Upd L w w' := by
  have HR := Aside0.mk hr
  have HL := Aside0.mk hL
  clear hr hL
  go_enter Tryz.func78, Tryz.ntmps78
  go_wp2_with fail
  have hb := blk_new w (.cells #[.int .u32 0] 29 (0,0))
  have hU : Upd [] w (w.alloc (.cells #[.int .u32 0] 29 (0,0))) := (Upd.refl _ _).alloc _
  have hnl : w.heap.size ∉ L := fun hm => by have := HL.out _ hm; omega
  have HNL := Aside0.mk hnl
  have HB := Aside0.mk hb
  have HU := Aside0.mk hU
  clear hb hU hnl
  generalize hdq : w.heap.size = d at *
  have HDQ := Aside0.mk hdq
  clear hdq
  generalize w.alloc (.cells #[.int .u32 0] 29 (0,0)) = w1 at *
  go_wp2_with (go_at_call 92; refine (f92_calls g d _ x0 x1 x2 x3 _ L R (HR.out.later HU.out) HB.out HNL.out).mono ?_; rintro e w3 ⟨rfl, K0, w2, K1, K2, K3⟩; have c := blk_cells K0; have K2 := Aside0.mk K2; have K3 := Aside0.mk K3; have K1 := Aside0.mk K1)
  go_ret2
  exact ⟨rfl, HR.out.keep d w2 _ (Nat.le_of_eq HDQ.out) K3.out K1.out, ((HU.out.mono (by simp)).trans K2.out).andThen K3.out (fun x hx => by rw [List.mem_singleton.1 hx]; exact .inr (Nat.le_of_eq HDQ.out))⟩
set_option maxRecDepth 100000 in
theorem f50_calls (s g : Nat) (x0 x1 x2 x3 : Int) (cs : Array Value) (w : World) (L : List Nat) (R : World → Prop) (h : w.heap[s]? = some (.cells cs 131 (0,0))) (h0 : cs[0]? = some (.pointer (some ⟨g,0,none⟩))) (hr : Rd g [x0, x1, x2, x3] 330 w L R) (hL : ∀ x ∈ L, x < w.heap.size) :
    Calls Tryz.prog 50 #[.pointer (some ⟨s,0,none⟩)] w fun e w' => e = .returned (.tuple #[.int .u32 (IntKind.u32.wrap (be4 x0 x1 x2 x3)), .nilIface]) ∧ R w' ∧ Upd L w w' := by
  have c0 : w.cell? ⟨s,0,none⟩ = some (.pointer (some ⟨g,0,none⟩)) := (blk_cells h 0).trans h0
  have HR := Aside0.mk hr
  have HL := Aside0.mk hL
  clear hr hL h h0
  go_enter Tryz.func50, Tryz.ntmps50
  go_wp2_with (go_at_call 78; refine (f78_calls g x0 x1 x2 x3 _ L R HR.out HL.out).mono ?_; rintro e w2 ⟨rfl, K1, K2⟩)
  go_ret2
  exact ⟨rfl, K1, K2⟩
theorem f51_calls (s : Value) (n : Int) (w : World) : Calls Tryz.prog 51 #[s, .int .u32 n] w fun e w' => e = .returned (.bool (n == 2)) ∧ w' = w := by
  go_enter Tryz.func51, Tryz.ntmps51
  go_wp2
  go_ret
  exact ⟨rfl, rfl⟩
set_option maxRecDepth 100000 in
set_option maxHeartbeats 1600000 in
theorem f25_bad (s g : Nat) (x0 x1 x2 x3 : Int) (c1 c2 c3 c5 c6 : Value) (w : World) (L : List Nat) (R : World → Prop) (t2 : TypeId) (v2 : Value) (hg2 : w.cell? ⟨2,0,none⟩ = some (.iface t2 v2)) (h2 : 2 ∉ L)
   (h : w.heap[s]? = some (.cells #[.pointer (some ⟨g,0,none⟩), c1, c2, c3, .int .u32 0, c5, c6] 131 (0,0))) (hr : Rd g [x0, x1, x2, x3] 5 w L R) (hbad : ((strOfNums [x0, x1, x2, x3]).toList == (strOfNums [80, 65, 67, 75]).toList) = false) :
    Calls Tryz.prog 25 #[.pointer (some ⟨s,0,none⟩)] w fun e w' => e = .returned (.tuple #[.int .u32 0, .int .u32 0, .iface t2 v2]) ∧ R w' ∧ Upd L w w' := by
  have c := blk_cells h
  have H := Aside0.mk h
  have HR := Aside0.mk hr
  have HG := Aside0.mk hg2
  clear hr h hg2
  go_enter Tryz.func25, Tryz.ntmps25
  go_wp2_with (first | (go_at_call 48; refine (f48_calls s g x0 x1 x2 x3 _ _ L R H.out rfl HR.out).mono ?_; rintro e w2 ⟨d, rfl, K1, K2, K3, K4⟩) | (go_at_call 49; refine (f49_calls _ _ 4 [x0, x1, x2, x3] _ (C_of_blk (by show 4 ≤ _; omega) K2) (by show 4 ≤ 4; omega)).mono ?_; rintro e w3 ⟨rfl, K5⟩; rw [hbad]; have cg := Upd.cell K5 (Upd.cell K4 HG.out h2) (by simp)))
  go_ret3
  exact ⟨rfl, HR.out.keep _ w2 w3 (Nat.le_refl _) (K5.mono (by simp)) K3, K4.trans (K5.mono (by simp))⟩
set_option maxRecDepth 100000 in
set_option maxHeartbeats 1600000 in
theorem f25_version (s g : Nat) (x0 x1 x2 x3 : Int) (c1 c2 c3 c5 c6 : Value) (w : World) (L L2 : List Nat) (R R2 : World → Prop) (t3 : TypeId) (v3 : Value) (hg3 : w.cell? ⟨3,0,none⟩ = some (.iface t3 v3)) (h3 : 3 ∉ L) (h32 : 3 ∉ L2) (hsL : s ∉ L) (hsL2 : s ∉ L2)
   (h : w.heap[s]? = some (.cells #[.pointer (some ⟨g,0,none⟩), c1, c2, c3, .int .u32 0, c5, c6] 131 (0,0))) (hr : Rd g [80, 65, 67, 75] 5 w L R) 
   (hr2 : ∀ w1, R w1 → w.heap.size ≤ w1.heap.size → Rd g [x0, x1, x2, x3] 330 w1 L2 R2) (hL2 : ∀ x ∈ L2, x < w.heap.size)
   (hbad : (be4 x0 x1 x2 x3 % 4294967296 == 2) = false) :
    Calls Tryz.prog 25 #[.pointer (some ⟨s,0,none⟩)] w fun e w' => (∃ n, e = .returned (.tuple #[.int .u32 n, .int .u32 0, .iface t3 v3])) ∧ (∃ w2, R2 w2 ∧ Upd [s] w2 w') ∧ Upd (s :: (L ++ L2)) w w' := by
  have c := blk_cells h
  have H := Aside0.mk h
  have HR := Aside0.mk hr
  have HG := Aside0.mk hg3
  have HR2 := Aside0.mk hr2
  clear hr h hg3 hr2
  have HB : ((strOfNums [80, 65, 67, 75]).toList == (strOfNums [80, 65, 67, 75]).toList) = true := by simp
  go_enter Tryz.func25, Tryz.ntmps25
  go_wp2_with (first 
    | (go_at_call 48; refine (f48_calls s g 80 65 67 75 _ _ L R H.out rfl HR.out).mono ?_; rintro e w2 ⟨d, rfl, K1, K2, K3, K4⟩; have K4 := Aside0.mk K4) 
    | (go_at_call 49; refine (f49_calls _ _ 4 [80, 65, 67, 75] _ (C_of_blk (by show 4 ≤ _; omega) K2) (by show 4 ≤ 4; omega)).mono ?_; rintro e w3 ⟨rfl, K5⟩; rw [HB]; have Hs := Aside0.mk (K5.keep (K4.out.keep H.out hsL) (by simp)); have HG3 := Aside0.mk (Upd.cell K5 (Upd.cell K4.out HG.out h3) (by simp)); have K6 := Aside0.mk (HR.out.keep _ w2 w3 (Nat.le_refl _) (K5.mono (by simp)) K3); have K7 := Aside0.mk (K4.out.trans (K5.mono (by simp))); clear K5)
    | (go_at_call 50; refine (f50_calls s g x0 x1 x2 x3 _ _ L2 R2 Hs.out rfl (HR2.out _ K6.out K7.out.size) (fun x hx => Nat.lt_of_lt_of_le (hL2 x hx) K7.out.size)).mono ?_; rintro e w4 ⟨rfl, J1, J2⟩; have Ht := Aside0.mk (J2.keep Hs.out hsL2); have z := blk_free Ht.out; have ct := blk_cells Ht.out; have hg4 := Upd.cell J2 HG3.out h32; have J2 := Aside0.mk J2)
    | (go_at_call 51; refine (f51_calls _ _ _).mono ?_; rintro e w5 ⟨rfl, rfl⟩; rw [hbad]))
  go_ret3
  obtain ⟨_, U2⟩ := set_open Ht.out 4 (.int .u32 (be4 x0 x1 x2 x3 % 4294967296))
  exact ⟨⟨_, rfl⟩, ⟨w4, J1, U2⟩, ((K7.out.mono (M := s :: (L ++ L2)) (fun x hx => .inl (by simp [hx]))).trans (J2.out.mono (fun x hx => .inl (by simp [hx])))).trans (U2.mono (by simp))⟩
end Go.Proofs.YtohdpnoinfnmiaaGreatDoor

namespace Go.Proofs.YtohdpnoinfnmiaaGreatDoor
open Go.RowKit U
open Go.Proofs.YtohdpnoinfnmiaaGreatDoorW.PrintWords (Aside0 Kd nums)
open Go.Proofs.YtohdpnoinfnmiaaGreatDoorW.PrintMore
set_option maxHeartbeats 400000 in
theorem f71_calls (g : Nat) (v0 v1 v2 v3 v4 v5 v6 : Value) (w : World) (h : w.heap[g]? = some (.cells #[v0,v1,v2,v3,v4,v5,v6] 164 (0,0))) : Calls Tryz.prog 71 #[.pointer (some ⟨g,0,none⟩)] w fun e w' => e = .returned (.tuple #[]) ∧ w'.heap[g]? = some (.cells #[.int .u32 1732584193, .int .u32 4023233417, .int .u32 2562383102, .int .u32 271733878, .int .u32 3285377520, .slice none 0 0, .int .u64 0] 164 (0,0)) ∧ Upd [g] w w' := by
  have c := blk_cells h
  have z := blk_free h
  have H := Aside0.mk h
  clear h
  go_enter Tryz.func71, Tryz.ntmps71
  go_wp2
  go_end0
  exact ⟨rfl, by simp [World.setCell, Array.getElem?_modify, H.out], by repeat (first | (with_reducible refine Upd.setCell ?_ (.inl (by simp)) _) | with_reducible exact Upd.refl _ _)⟩
set_option maxHeartbeats 400000 in
theorem f45_calls (k : Int) (w : World) : Calls Tryz.prog 45 #[.int .i64 k] w fun e w' => e = .returned (.iface 162 (.pointer (some ⟨w.heap.size,0,none⟩))) ∧ w'.heap[w.heap.size]? = some (.cells #[.int .u32 1732584193, .int .u32 4023233417, .int .u32 2562383102, .int .u32 271733878, .int .u32 3285377520, .slice none 0 0, .int .u64 0] 164 (0,0)) ∧ Upd [] w w' := by
  go_enter Tryz.func45, Tryz.ntmps45
  go_wp2_with (go_at_call 71; refine (f71_calls _ _ _ _ _ _ _ _ _ (blk_new _ _)).mono ?_; rintro e w' ⟨rfl, h1, h2⟩)
  go_ret
  exact ⟨rfl, h1, ((Upd.refl _ _).alloc _).andThen h2 (by simp)⟩
/-- The blocks of a scanner's reader before its first read. -/
structure Sr (B : Nat) (w : World) (g gr gw gb br bw : Nat) (A : Option Addr) (n c0 i : Nat) : Prop where
  h_g : ∃ q, w.heap[g]? = some (.cells #[.iface 61 (.pointer (some ⟨gb,0,none⟩)), .iface 173 (.pointer (some q)), .pointer (some ⟨gr,0,none⟩), .pointer (some ⟨gw,0,none⟩), .int .i64 i] 170 (0,0))
  h_gr : w.heap[gr]? = some (.cells #[.slice (some ⟨br,0,none⟩) 4096 4096, .iface 61 (.pointer (some ⟨gb,0,none⟩)), .int .i64 0, .int .i64 0, .nilIface, .int .i64 (-1), .int .i64 (-1)] 263 (0,0))
  h_br : ∃ cr, w.heap[br]? = some (.cells cr 5 (0,0)) ∧ cr.size = 4096
  h_gw : ∃ v3, w.heap[gw]? = some (.cells #[.nilIface, .slice (some ⟨bw,0,none⟩) 64 64, .int .i64 0, v3] 258 (0,0))
  h_bw : ∃ cw, w.heap[bw]? = some (.cells cw 5 (0,0)) ∧ cw.size = 64
  h_gb : w.heap[gb]? = some (.cells #[.slice A n c0, .int .i64 i, .int .i64 (-1)] 133 (0,0))
  h_ne : bw ≠ br
  b0 : B ≤ g
  b1 : B ≤ gr
  b2 : B ≤ gw
  b3 : B ≤ br
  b4 : B ≤ bw
theorem Sr.keep {B : Nat} {w w' : World} {g gr gw gb br bw : Nat} {A : Option Addr} {n c0 i : Nat} (h : Sr B w g gr gw gb br bw A n c0 i) (u : Upd [] w w') : Sr B w' g gr gw gb br bw A n c0 i :=
  ⟨h.h_g.imp fun _ k => u.keep k (by simp), u.keep h.h_gr (by simp), h.h_br.imp fun _ k => ⟨u.keep k.1 (by simp), k.2⟩, h.h_gw.imp fun _ k => u.keep k (by simp), h.h_bw.imp fun _ k => ⟨u.keep k.1 (by simp), k.2⟩, u.keep h.h_gb (by simp), h.h_ne, h.b0, h.b1, h.b2, h.b3, h.b4⟩
set_option maxRecDepth 100000 in
set_option maxHeartbeats 1600000 in
theorem f46_calls (gb : Nat) (A : Option Addr) (n c0 i : Nat) (hi : i ≤ 140737488355328) (q : Addr) (b2 : Value) (w : World) (h : w.heap[gb]? = some (.cells #[.slice A n c0, .int .i64 i, b2] 133 (0,0))) :
    Calls Tryz.prog 46 #[.iface 61 (.pointer (some ⟨gb,0,none⟩)), .iface 173 (.pointer (some q))] w fun e w' => ∃ g gr gw br bw, e = .returned (.pointer (some ⟨g,0,none⟩)) ∧ Sr w.heap.size w' g gr gw gb br bw A n c0 i ∧ Upd [gb] w w' := by
  have H := Aside0.mk h
  clear h
  go_enter Tryz.func46, Tryz.ntmps46
  go_wp2_with (first 
    | (go_at_call 72; refine (f72_calls _).mono ?_; rintro e w1 ⟨gr, br, cr, rfl, H1⟩; have H1 := Aside0.mk H1)
    | (go_at_call 73; refine (f73_calls 64 (by omega) (by omega) _).mono ?_; rintro e w2 ⟨gw, bw, cw, rfl, H2⟩; have H2 := Aside0.mk H2)
    | fail)
  obtain ⟨a1, a2, a3, a4, a5, a6, a7⟩ := H1.out
  obtain ⟨d1, d2, d3, d4, d5, d6, d7⟩ := H2.out
  have sz := a7.size
  have sz2 := d7.size
  have Ua := (Upd.refl [] w2).alloc (.cells #[.nilIface, .iface 173 (.pointer (some q)), .pointer (some ⟨gr,0,none⟩), .pointer (some ⟨gw,0,none⟩), .int .i64 0] 170 (0,0))
  have e1 := blk_new w2 (.cells #[.nilIface, .iface 173 (.pointer (some q)), .pointer (some ⟨gr,0,none⟩), .pointer (some ⟨gw,0,none⟩), .int .i64 0] 170 (0,0))
  have e2 := Ua.keep (d7.keep a4 (by simp)) (by simp)
  have e3 := Ua.keep d4 (by simp)
  have e4 := Ua.keep (d7.keep (a7.keep H.out (by simp)) (by simp)) (by simp)
  have e5 := Ua.keep (d7.keep a5 (by simp)) (by simp)
  have e6 := Ua.keep d5 (by simp)
  have U0 := (a7.trans d7).trans Ua
  have hbb : bw ≠ br := fun e => by have := lt_of_blk a5; omega
  have HA := Aside0.mk (And.intro a1 (And.intro a2 (And.intro a6 (And.intro d1 (And.intro d2 (And.intro d6 (And.intro sz (And.intro sz2 hbb))))))))
  have E1 := Aside0.mk e1
  have E2 := Aside0.mk e2
  have E3 := Aside0.mk e3
  have E4 := Aside0.mk e4
  have E5 := Aside0.mk e5
  have E6 := Aside0.mk e6
  have U0 := Aside0.mk U0
  clear a1 a2 a3 a4 a5 a6 a7 d1 d2 d3 d4 d5 d6 d7 sz sz2 Ua e1 e2 e3 e4 e5 e6 hbb H1 H2
  generalize w2.alloc (.cells #[.nilIface, .iface 173 (.pointer (some q)), .pointer (some ⟨gr,0,none⟩), .pointer (some ⟨gw,0,none⟩), .int .i64 0] 170 (0,0)) = w3 at *
  generalize hg : w2.heap.size = g at *
  clear hg
  have hi2 : (i : Int) ≤ 140737488355328 := by omega
  go_wp2_with (go_at_call 74; refine (f74_calls g gr gw gb br bw 4096 4096 64 64 A n c0 i q (by omega) hi2 _ _ _ _ _ _ _ _ _ _ _ _ _ E1.out E2.out E3.out E4.out).mono ?_; rintro e w4 ⟨rfl, K1, K2, K3, K4, K5⟩)
  go_ret
  obtain ⟨a1, a2, a6, d1, d2, d6, sz, sz2, hbb⟩ := HA.out
  refine ⟨g, gr, gw, br, bw, rfl, ⟨⟨q, K1⟩, K2, ⟨cr, K5.keep E5.out ?_, a6⟩, ⟨_, K3⟩, ⟨cw, K5.keep E6.out ?_, d6⟩, K4, hbb, ?_, ?_, ?_, ?_, ?_⟩, ?_⟩
  · simp [blk_ne E5.out E1.out (by decide), blk_ne E5.out E2.out (by decide), blk_ne E5.out E3.out (by decide), blk_ne E5.out E4.out (by decide)]
  · simp [blk_ne E6.out E1.out (by decide), blk_ne E6.out E2.out (by decide), blk_ne E6.out E3.out (by decide), blk_ne E6.out E4.out (by decide)]
  · omega
  · omega
  · omega
  · omega
  · omega
  · refine (U0.out.mono (M := [gb]) (by simp)).andThen K5 (fun x hx => ?_)
    simp only [List.mem_cons, List.not_mem_nil, or_false] at hx
    rcases hx with rfl | rfl | rfl | rfl
    · exact .inr (by omega)
    · exact .inr (by omega)
    · exact .inr (by omega)
    · exact .inl (by simp)
set_option maxRecDepth 100000 in
set_option maxHeartbeats 1600000 in
theorem f23_calls (gb : Nat) (A : Option Addr) (n c0 i : Nat) (hi : i ≤ 140737488355328) (b2 : Value) (w : World) (h : w.heap[gb]? = some (.cells #[.slice A n c0, .int .i64 i, b2] 133 (0,0))) :
    Calls Tryz.prog 23 #[.iface 61 (.pointer (some ⟨gb,0,none⟩))] w fun e w' => ∃ s g gr gw br bw, e = .returned (.pointer (some ⟨s,0,none⟩)) ∧ (∃ c1 c2 c3 c5, w'.heap[s]? = some (.cells #[.pointer (some ⟨g,0,none⟩), c1, c2, c3, .int .u32 0, c5, .bool true] 131 (0,0))) ∧ w.heap.size ≤ s ∧ Sr w.heap.size w' g gr gw gb br bw A n c0 i ∧ Upd [gb] w w' := by
  have H := Aside0.mk h
  have t1 := ta_61_115 ⟨gb,0,none⟩
  clear h
  go_enter Tryz.func23, Tryz.ntmps23
  go_wp2_with (first 
    | (go_at_call 45; refine (f45_calls _ _).mono ?_; rintro e w1 ⟨rfl, H1, H2⟩; have H1 := Aside0.mk H1; have H2 := Aside0.mk H2)
    | fail)
  go_wp2_with (first 
    | (go_at_call 47; refine (f47_calls _ _ _ _ (blk_new _ _)).mono ?_; rintro e w2 ⟨q, rfl, _, H3⟩; have H3 := Aside0.mk H3; have H4 := Aside0.mk (((((Upd.refl [] w).alloc _).trans H2.out).alloc _).trans H3.out))
    | (go_at_call 46; refine (f46_calls gb A n c0 i hi q b2 _ (H4.out.keep H.out (by simp))).mono ?_; rintro e w3 ⟨g, gr, gw, br, bw, rfl, H5, H6⟩; have H5 := Aside0.mk H5; have H6 := Aside0.mk H6))
  go_ret
  have u := (H4.out.mono (M := [gb]) (by simp)).trans H6.out
  have ua := ((Upd.refl [] w3).alloc (.cells #[.pointer (some ⟨g,0,none⟩), .iface 117 (.pointer (some ⟨w.heap.size,0,none⟩)), .iface 162 (.pointer (some ⟨w.heap.size + 1,0,none⟩)), .pointer none, .int .u32 0, .int .u32 0, .bool true] 131 (0,0)))
  have h5 := H5.out.keep ua
  have e2 := H4.out.size
  exact ⟨_, g, gr, gw, br, bw, rfl, ⟨_, _, _, _, blk_new w3 _⟩, by have := u.size; omega, ⟨h5.h_g, h5.h_gr, h5.h_br, h5.h_gw, h5.h_bw, h5.h_gb, h5.h_ne, by have := h5.b0; omega, by have := h5.b1; omega, by have := h5.b2; omega, by have := h5.b3; omega, by have := h5.b4; omega⟩, u.trans (ua.mono (by simp))⟩
end Go.Proofs.YtohdpnoinfnmiaaGreatDoor

namespace Go.Proofs.YtohdpnoinfnmiaaGreatDoor
open Go.RowKit U
open Go.Proofs.YtohdpnoinfnmiaaGreatDoorW.PrintWords (Aside0 Kd nums)
open Go.Proofs.YtohdpnoinfnmiaaGreatDoorW.PrintMore
/-- The reader's blocks where 'rest' is in its buffer. -/
structure Sr2 (w : World) (g gr gw br bw : Nat) (rest : List Int) : Prop where
  h_g : ∃ v0 v1, w.heap[g]? = some (.cells #[v0, v1, .pointer (some ⟨gr,0,none⟩), .pointer (some ⟨gw,0,none⟩), .int .i64 (4 : Nat)] 170 (0,0))
  h_gr : ∃ v1 q rw cr, w.heap[gr]? = some (.cells #[.slice (some ⟨br,0,none⟩) 4096 4096, v1, .int .i64 (4 : Nat), .int .i64 (rw : Nat), .nilIface, .int .i64 q, .int .i64 (-1)] 263 (0,0)) ∧ w.heap[br]? = some (.cells cr 5 (0,0)) ∧ cr.size = 4096 ∧ 4 < rw ∧ rw ≤ 4096 ∧ (cr.toList.drop 4).take (rw - 4) = nums .u8 rest ∧ rest.length = rw - 4
  h_gw : ∃ v3, w.heap[gw]? = some (.cells #[.nilIface, .slice (some ⟨bw,0,none⟩) 64 64, .int .i64 (4 : Nat), v3] 258 (0,0))
  h_bw : ∃ cw, w.heap[bw]? = some (.cells cw 5 (0,0)) ∧ cw.size = 64
  h_ne : bw ≠ br
theorem Sr2.keep {w w' : World} {g gr gw br bw : Nat} {rest : List Int} (h : Sr2 w g gr gw br bw rest) (L : List Nat) (u : Upd L w w') (k1 : g ∉ L) (k2 : gr ∉ L) (k3 : gw ∉ L) (k4 : br ∉ L) (k5 : bw ∉ L) : Sr2 w' g gr gw br bw rest := by
  obtain ⟨v1, q, rw, cr, a1, a2, a3⟩ := h.h_gr
  obtain ⟨v0, v1', b1⟩ := h.h_g
  obtain ⟨v3, b2⟩ := h.h_gw
  obtain ⟨cw, b3, b4⟩ := h.h_bw
  exact ⟨⟨v0, v1', u.keep b1 k1⟩, ⟨v1, q, rw, cr, u.keep a1 k2, u.keep a2 k4, a3⟩, ⟨v3, u.keep b2 k3⟩, ⟨cw, u.keep b3 k5, b4⟩, h.h_ne⟩
theorem nums_one' (k : IntKind) (xs : List Int) (cd : Array Value) (hc : ∀ v ∈ cd.toList, v.oneCell' = true) : ∀ v ∈ ((splice cd.toList 0 (nums k xs)).toArray).toList, v.oneCell' = true := by
  intro v hv
  simp only [splice, List.take_zero, List.nil_append] at hv
  rcases List.mem_append.1 (by simpa using hv) with h | h
  · exact nums_one k xs v h
  · exact hc v (List.mem_of_mem_drop h)
set_option maxRecDepth 100000 in
set_option maxHeartbeats 400000 in
/-- The first read. -/
theorem Sr.rd {B : Nat} {w : World} {g gr gw gb br bw : Nat} {A : Option Addr} {c0 : Nat} {bs : List Int} (h : Sr B w g gr gw gb br bw A bs.length c0 0) (hl : 8 ≤ bs.length) (hlm : bs.length < 140737488355328) (hc0 : bs.length ≤ c0)
   (hC : Kd.C (Kd.int .u8) w A bs.length bs) (hA : ∀ a, A = some a → a.block < B ∧ a.block ≠ gb) :
   Rd g (bs.take 4) 5 w [g, gr, gb, br, gw, bw] (fun w' => Sr2 w' g gr gw br bw ((bs.take 4096).drop 4)) := by
  obtain ⟨q, hg⟩ := h.h_g
  obtain ⟨cr, hbr, hcr⟩ := h.h_br
  obtain ⟨v3, hgw⟩ := h.h_gw
  obtain ⟨cw, hbw, hcw⟩ := h.h_bw
  have n1 := lt_of_blk hg
  have n2 := lt_of_blk h.h_gr
  have n3 := lt_of_blk hgw
  have n4 := lt_of_blk hbr
  have n5 := lt_of_blk hbw
  have n6 := lt_of_blk h.h_gb
  have e4 : (bs.take 4).length = 4 := by simp; omega
  refine ⟨fun w1 d C cd u hd hb hk1 hk2 hone => ?_, fun v w2 w' hv u hr => hr.keep [v] u (by simp; omega) (by simp; omega) (by simp; omega) (by simp; omega) (by simp; omega)⟩
  rw [e4] at hk1 hk2
  have f1 := f273_fill gr br 4096 d 4 C 0 gb A c0 bs 0 (.int .i64 (-1)) (.int .i64 (-1)) (.int .i64 (-1)) cr cd w1 (by omega) (by omega) (by omega) (by omega) hlm hc0
    (u.keep h.h_gr (by simp)) (u.keep hbr (by simp)) hcr (u.keep h.h_gb (by simp)) hb hk1 (by omega) (C_upd hC u (by simp)) (fun a ha => ⟨by have := h.b1; have := (hA a ha).1; omega, (hA a ha).2, by have := h.b3; have := (hA a ha).1; omega⟩)
  have hne1 : gr ≠ br := blk_ne h.h_gr hbr (by decide)
  have hne2 : gb ≠ br := blk_ne h.h_gb hbr (by decide)
  have hne3 : gw ≠ br := blk_ne hgw hbr (by decide)
  have hne4 : g ≠ br := blk_ne hg hbr (by decide)
  have hne5 : g ≠ gr := blk_ne hg h.h_gr (by decide)
  have hne6 : g ≠ gb := blk_ne hg h.h_gb (by decide)
  have hne7 : gw ≠ gr := blk_ne hgw h.h_gr (by decide)
  have hne8 : gw ≠ gb := blk_ne hgw h.h_gb (by decide)
  have hne9 : bw ≠ gr := blk_ne hbw h.h_gr (by decide)
  have hne10 : bw ≠ gb := blk_ne hbw h.h_gb (by decide)
  have hne11 := h.h_ne
  have hne12 : gr ≠ gb := blk_ne h.h_gr h.h_gb (by decide)
  have hne13 : gr ≠ g := Ne.symm hne5
  have hne14 : br ≠ g := Ne.symm hne4
  have hne15 : br ≠ gw := Ne.symm hne3
  have hne16 : gr ≠ gw := Ne.symm hne7
  have hne17 : gr ≠ bw := Ne.symm hne9
  have hne18 : br ≠ bw := Ne.symm hne11
  have hne19 : g ≠ gw := blk_ne hg hgw (by decide)
  have hne20 : g ≠ bw := blk_ne hg hbw (by decide)
  have hne21 : gw ≠ bw := blk_ne hgw hbw (by decide)
  have f2 := f272_of g gr gw bw 64 64 d 4 C 5 (by decide) 0 0 (.iface 61 (.pointer (some ⟨gb,0,none⟩))) (.iface 173 (.pointer (some q))) v3 cw (splice cd.toList 0 (nums .u8 ((bs.drop 0).take 4))).toArray w1 (by omega) (by omega) (by omega) (by omega) (by omega)
    (u.keep hg (by simp)) (u.keep hgw (by simp)) (u.keep hbw (by simp)) hcw (by omega) (by simp [splice]; omega) (nums_one' _ _ _ hone)
    (fun w' => (∃ q, w'.heap[gr]? = some (.cells #[.slice (some ⟨br,0,none⟩) 4096 4096, .iface 61 (.pointer (some ⟨gb,0,none⟩)), .int .i64 (min (min (bs.length - 0) 4096) 4 : Nat), .int .i64 (min (bs.length - 0) 4096 : Nat), .nilIface, .int .i64 q, .int .i64 (-1)] 263 (0,0))) ∧ w'.heap[br]? = some (.cells (splice cr.toList 0 (nums .u8 ((bs.drop 0).take 4096))).toArray 5 (0,0)))
    [gr, d, gb, br] (by simp [hne5, hne6, hne4]; omega) (by simp [hne7, hne8, hne3]; omega) (by simp [hne9, hne10, hne11]; omega)
    (f1.mono (by
      rintro e w' ⟨rfl, k1, k2, k3, k4, k5⟩
      exact ⟨by rw [show min (min (bs.length - 0) 4096) 4 = 4 by omega], ⟨k1, k2⟩, k4, k5⟩))
  rw [e4]
  refine f2.mono ?_
  rintro e w' ⟨rfl, g1, g2, g3, w2, ⟨⟨q2, r1⟩, r2⟩, r3, r4, r5⟩
  have hm : min (min (bs.length - 0) 4096) 4 = 4 := by omega
  rw [hm] at r1
  refine ⟨rfl, ?_, ⟨⟨_, _, by simpa using g1⟩, ⟨_, q2, min (bs.length - 0) 4096, _, r5.keep r1 (by simp [hne13, hne16, hne17]), r5.keep r2 (by simp [hne14, hne15, hne18]), ?_, ?_, ?_, ?_, ?_⟩, ⟨v3, by simpa using g2⟩, ⟨_, g3, ?_⟩, h.h_ne⟩, ?_⟩
  · have := r5.keep r3 (by simp; omega)
    simpa using this
  · simp [splice, nums]; omega
  · omega
  · omega
  · simp only [splice, List.take_zero, List.nil_append, List.drop_zero, Nat.zero_add]
    have hl : (nums .u8 (bs.take 4096)).length = min bs.length 4096 := by simp [nums, Nat.min_comm]
    rw [List.drop_append_of_le_length (by rw [hl]; omega), List.take_append_of_le_length (by simp [hl])]
    rw [List.take_of_length_le (by simp [hl])]
    simp [nums]
  · simp; omega
  · simp [splice, nums]; omega
  · refine (r4.mono (M := d :: [g, gr, gb, br, gw, bw]) (by simp)).trans (r5.mono (by simp))
set_option maxRecDepth 100000 in
set_option maxHeartbeats 400000 in
/-- The second read. -/
theorem Sr2.rd {w : World} {g gr gw br bw : Nat} {rest : List Int} (h : Sr2 w g gr gw br bw rest) (hl : 4 ≤ rest.length) :
   Rd g (rest.take 4) 330 w [g, gr, gw, bw] (fun _ => True) := by
  obtain ⟨v1, q, rw, cr, hgr, hbr, hcr, h4, hrw, hx, hxl⟩ := h.h_gr
  obtain ⟨v0, v1', hg⟩ := h.h_g
  obtain ⟨v3, hgw⟩ := h.h_gw
  obtain ⟨cw, hbw, hcw⟩ := h.h_bw
  have n1 := lt_of_blk hg
  have n2 := lt_of_blk hgr
  have n3 := lt_of_blk hgw
  have n4 := lt_of_blk hbr
  have n5 := lt_of_blk hbw
  have e4 : (rest.take 4).length = 4 := by simp; omega
  refine ⟨fun w1 d C cd u hd hb hk1 hk2 hone => ?_, fun _ _ _ _ _ _ => trivial⟩
  rw [e4] at hk1 hk2
  have f1 := f273_more gr br 4096 d 4 C 4 rw 330 (by decide) v1 (.int .i64 q) (.int .i64 (-1)) cr cd rest w1 (by omega) (by omega) (by omega) (by omega) (by omega) hxl
    (u.keep hgr (by simp)) (u.keep hbr (by simp)) hcr hx hb hk1 (by omega)
  have hne5 : g ≠ gr := blk_ne hg hgr (by decide)
  have hne7 : gw ≠ gr := blk_ne hgw hgr (by decide)
  have hne9 : bw ≠ gr := blk_ne hbw hgr (by decide)
  have f2 := f272_of g gr gw bw 64 64 d 4 C 330 (by decide) 4 4 v0 v1' v3 cw (splice cd.toList 0 (nums .u8 (rest.take 4))).toArray w1 (by omega) (by omega) (by omega) (by omega) (by omega)
    (u.keep hg (by simp)) (u.keep hgw (by simp)) (u.keep hbw (by simp)) hcw (by omega) (by simp [splice]; omega) (nums_one' _ _ _ hone)
    (fun _ => True) [gr, d] (by simp [hne5]; omega) (by simp [hne7]; omega) (by simp [hne9]; omega)
    (f1.mono (by
      rintro e w' ⟨rfl, k1, k2, k3, k4⟩
      exact ⟨by rw [show min rest.length 4 = 4 by omega], trivial, k3, k4⟩))
  rw [e4]
  refine f2.mono ?_
  rintro e w' ⟨rfl, g1, g2, g3, w2, _, r3, r4, r5⟩
  refine ⟨rfl, r5.keep r3 (by simp; omega), trivial, ?_⟩
  exact (r4.mono (M := d :: [g, gr, gw, bw]) (by simp)).trans (r5.mono (by simp))
end Go.Proofs.YtohdpnoinfnmiaaGreatDoor

namespace Go.Proofs.YtohdpnoinfnmiaaGreatDoor
open Go.RowKit U
open Go.Proofs.YtohdpnoinfnmiaaGreatDoorW.PrintWords (Aside0 Kd nums)
open Go.Proofs.YtohdpnoinfnmiaaGreatDoorW.PrintMore
theorem f24_calls (v : Value) (A : Option Addr) (n c0 : Nat) (w : World) (hv : v = .slice A n c0) : Calls Tryz.prog 24 #[v] w fun e w' => e = .returned (.pointer (some ⟨w.heap.size,0,none⟩)) ∧ w'.heap[w.heap.size]? = some (.cells #[.slice A n c0, .int .i64 0, .int .i64 (-1)] 133 (0,0)) ∧ Upd [] w w' := by
  subst hv
  go_enter Tryz.func24, Tryz.ntmps24
  go_wp2
  go_ret
  exact ⟨rfl, blk_new _ _, (Upd.refl _ _).alloc _⟩
theorem results_tmp5 {fn : Func} {t1 t2 t3 t4 t5 : Tmp} (h : fn.results = #[.tmp t1, .tmp t2, .tmp t3, .tmp t4, .tmp t5]) (tmps : Array Value) (P : Program) (w : World) :
    (results fn tmps).run P w = .ok (.tuple #[tmps.getD t1 undef, tmps.getD t2 undef, tmps.getD t3 undef, tmps.getD t4 undef, tmps.getD t5 undef]) w := by
  simp [results, h]
/-- The first eight bytes are not those of a pack of version two. -/
def BadHead (bs : List Int) : Prop := ∃ x0 x1 x2 x3 y0 y1 y2 y3 r, bs = x0 :: x1 :: x2 :: x3 :: y0 :: y1 :: y2 :: y3 :: r ∧
  (((strOfNums [x0, x1, x2, x3]).toList == (strOfNums [80, 65, 67, 75]).toList) = false ∨ ([x0, x1, x2, x3] = [80, 65, 67, 75] ∧ (be4 y0 y1 y2 y3 % 4294967296 == 2) = false))
set_option maxRecDepth 100000 in
theorem f25_any (s g gr gw gb br bw : Nat) (c1 c2 c3 c5 c6 : Value) (B : Nat) (A : Option Addr) (c0 : Nat) (bs : List Int) (w : World) (t2 t3 : TypeId) (v2 v3 : Value) (hg2 : w.cell? ⟨2,0,none⟩ = some (.iface t2 v2)) (hg3 : w.cell? ⟨3,0,none⟩ = some (.iface t3 v3))
   (h : w.heap[s]? = some (.cells #[.pointer (some ⟨g,0,none⟩), c1, c2, c3, .int .u32 0, c5, c6] 131 (0,0))) (hs : Sr B w g gr gw gb br bw A bs.length c0 0) (hB : 4 ≤ B) (hgb : 4 ≤ gb) (hlm : bs.length < 140737488355328) (hc0 : bs.length ≤ c0)
   (hC : Kd.C (Kd.int .u8) w A bs.length bs) (hA : ∀ a, A = some a → a.block < B ∧ a.block ≠ gb) (hbad : BadHead bs) :
    Calls Tryz.prog 25 #[.pointer (some ⟨s,0,none⟩)] w fun e w' => (∃ n t v, e = .returned (.tuple #[.int .u32 n, .int .u32 0, .iface t v]) ∧ ((t = t2 ∧ v = v2) ∨ (t = t3 ∧ v = v3))) ∧ Upd [s, g, gr, gb, br, gw, bw] w w' := by
  obtain ⟨x0, x1, x2, x3, y0, y1, y2, y3, r, rfl, hh⟩ := hbad
  have hr := hs.rd (by simp) hlm hc0 hC hA
  rw [show (x0 :: x1 :: x2 :: x3 :: y0 :: y1 :: y2 :: y3 :: r).take 4 = [x0, x1, x2, x3] from rfl] at hr
  obtain ⟨q, hg⟩ := hs.h_g
  obtain ⟨cr, hbr, hcr⟩ := hs.h_br
  obtain ⟨v3', hgw⟩ := hs.h_gw
  obtain ⟨cw, hbw, hcw⟩ := hs.h_bw
  have b0 := hs.b0
  have b1 := hs.b1
  have b2 := hs.b2
  have b3 := hs.b3
  have b4 := hs.b4
  rcases hh with hh | ⟨he, hh⟩
  · refine (f25_bad s g x0 x1 x2 x3 c1 c2 c3 c5 c6 w _ _ t2 v2 hg2 (by simp; omega) h hr hh).mono ?_
    rintro e w' ⟨rfl, _, k⟩
    exact ⟨⟨0, t2, v2, rfl, .inl ⟨rfl, rfl⟩⟩, k.mono (fun x hx => .inl (List.mem_cons_of_mem _ hx))⟩
  · simp only [List.cons.injEq, and_true] at he
    obtain ⟨rfl, rfl, rfl, rfl⟩ := he
    have n1 := blk_ne h hg (by decide)
    have n2 := blk_ne h hs.h_gr (by decide)
    have n3 := blk_ne h hs.h_gb (by decide)
    have n4 := blk_ne h hbr (by decide)
    have n5 := blk_ne h hgw (by decide)
    have n6 := blk_ne h hbw (by decide)
    have l1 := lt_of_blk hg
    have l2 := lt_of_blk hs.h_gr
    have l3 := lt_of_blk hgw
    have l4 := lt_of_blk hbw
    refine (f25_version s g y0 y1 y2 y3 c1 c2 c3 c5 c6 w _ [g, gr, gw, bw] _ (fun _ => True) t3 v3 hg3 (by simp; omega) (by simp; omega) (by simp [n1, n2, n3, n4, n5, n6]) (by simp [n1, n2, n5, n6]) h hr ?_ (by simp; omega) hh).mono ?_
    · intro w1 hr1 _
      have := hr1.rd (by simp)
      rwa [show (((80 :: 65 :: 67 :: 75 :: y0 :: y1 :: y2 :: y3 :: r).take 4096).drop 4).take 4 = [y0, y1, y2, y3] from rfl] at this
    · rintro e w' ⟨⟨n, rfl⟩, _, k⟩
      exact ⟨⟨n, t3, v3, rfl, .inr ⟨rfl, rfl⟩⟩, k.mono (fun x hx => .inl (by simp only [List.cons_append, List.nil_append, List.mem_cons, List.not_mem_nil, or_false] at hx ⊢; rcases hx with h | h | h | h | h | h | h | h | h | h | h <;> simp [h]))⟩
set_option maxRecDepth 100000 in
set_option maxHeartbeats 1600000 in
theorem f8_bad (A : Option Addr) (c0 : Nat) (bs : List Int) (w : World) (t2 t3 : TypeId) (v2 v3 : Value) (hg2 : w.cell? ⟨2,0,none⟩ = some (.iface t2 v2)) (hg3 : w.cell? ⟨3,0,none⟩ = some (.iface t3 v3)) (hlm : bs.length < 140737488355328) (hc0 : bs.length ≤ c0)
   (hC : Kd.C (Kd.int .u8) w A bs.length bs) (hbad : BadHead bs) :
    Calls Tryz.prog 8 #[.slice A bs.length c0] w fun e w' => e = .returned (.tuple #[.int .u32 0, .int .u32 0, .slice none 0 0, .string ⟨#[]⟩, .bool false]) ∧ Upd [] w w' := by
  have HG2 := Aside0.mk hg2
  have HG3 := Aside0.mk hg3
  have HC := Aside0.mk hC
  have HBad := Aside0.mk hbad
  have l3 : 3 < w.heap.size := World.block_lt_of_cell? w _ hg3
  have hA : ∀ a, A = some a → a.block < w.heap.size := by
    intro a ha
    obtain ⟨x0, x1, x2, x3, y0, y1, y2, y3, r, rfl, _⟩ := hbad
    obtain ⟨ad, e, hc⟩ := bytes_cells hC (by simp)
    rw [ha] at e
    cases e
    have := World.block_lt_of_cell? w _ (hc 0 _ rfl)
    rwa [show (a.add 0).block = a.block from by unfold Addr.add; split <;> rfl] at this
  have HA := Aside0.mk hA
  clear hA
  clear hg2 hg3 hC hbad
  go_enter Tryz.func8, Tryz.ntmps8
  go_wp2_with (first
    | (go_at_call 24; refine (f24_calls _ A bs.length c0 _ rfl).mono ?_; rintro e w1 ⟨rfl, H1, H2⟩; have H1 := Aside0.mk H1; have H2 := Aside0.mk H2)
    | (go_at_call 23; refine (f23_calls w.heap.size A bs.length c0 0 (by omega) _ _ H1.out).mono ?_; rintro e w2 ⟨s, g, gr, gw, br, bw, rfl, ⟨c1, c2, c3, c5, H3⟩, H4, H5, H6⟩; have H3 := Aside0.mk H3; have H4 := Aside0.mk H4; have H5 := Aside0.mk H5; have H7 := Aside0.mk ((H2.out.mono (M := [w.heap.size]) (by simp)).trans H6); clear H6)
    | (go_at_call 25; refine (f25_any s g gr gw w.heap.size br bw c1 c2 c3 c5 (.bool true) w1.heap.size A c0 bs _ t2 t3 v2 v3 (Upd.cell H7.out HG2.out (by simp; omega)) (Upd.cell H7.out HG3.out (by simp; omega)) H3.out H5.out (by have := H2.out.size; omega) (by omega) hlm hc0 (C_upd (C_upd HC.out ((Upd.refl [] w)) (by simp)) H7.out (fun a ha hm => by simp at hm; have := HA.out a ha; omega)) (fun a ha => ⟨by have := HA.out a ha; have := H2.out.size; omega, by have := HA.out a ha; omega⟩) HBad.out).mono ?_; rintro e w3 ⟨⟨n, t, v, rfl, H8⟩, H9⟩; have H8 := Aside0.mk H8; have H9 := Aside0.mk H9))
  refine bodyPost_ret (results_tmp5 rfl _ _ _) rfl ?_
  have b0 := H5.out.b0
  have b1 := H5.out.b1
  have b2 := H5.out.b2
  have b3 := H5.out.b3
  have b4 := H5.out.b4
  have h4 := H4.out
  have h2 := H2.out.size
  refine ⟨rfl, (H7.out.mono (M := []) (by simp)).andThen H9.out (fun x hx => .inr ?_)⟩
  simp only [List.mem_cons, List.not_mem_nil, or_false] at hx
  rcases hx with rfl | rfl | rfl | rfl | rfl | rfl | rfl <;> omega
end Go.Proofs.YtohdpnoinfnmiaaGreatDoor

namespace Go.Proofs.YtohdpnoinfnmiaaGreatDoor
open Go.RowKit U
open Go.Proofs.YtohdpnoinfnmiaaGreatDoorW.PrintWords (Aside0 Kd nums)
open Go.Proofs.YtohdpnoinfnmiaaGreatDoorW.PrintMore
/-- An error of the package's, or of io's: a pointer to a text. -/
def ErB (w : World) (a : Addr) : Prop := ∃ ca ta, w.heap[a.block]? = some (.cells ca ta (0,0))
structure Er (w : World) (k : Nat) (a : Addr) : Prop where
  cell : w.cell? ⟨k,0,none⟩ = some (.iface 272 (.pointer (some a)))
  blk : ErB w a
theorem ErB.upd {L : List Nat} {w w' : World} {a : Addr} (h : ErB w a) (u : Upd L w w') (hn : a.block ∉ L) : ErB w' a := by
  obtain ⟨c, t, hb⟩ := h
  exact ⟨c, t, u.keep hb hn⟩
theorem Er.upd {L : List Nat} {w w' : World} {k : Nat} {a : Addr} (h : Er w k a) (u : Upd L w w') (hk : k ∉ L) (hn : a.block ∉ L) : Er w' k a := ⟨Upd.cell u h.cell hk, h.blk.upd u hn⟩
theorem info272 : (Tryz.prog.info? 272).map (·.comparable) = some true := by kernel_rfl
theorem info274 : (Tryz.prog.info? 274).map (·.size) = some 1 := by kernel_rfl
theorem eq_err (a b : Addr) (w : World) (ha : ErB w a) (hb : ErB w b) : ∃ r : Bool, (binOp .eql 64 (.iface 272 (.pointer (some a))) (.iface 272 (.pointer (some b)))).run Tryz.prog w = .ok (.bool r) w := by
  obtain ⟨i, hi, hc⟩ := Option.map_eq_some_iff.1 info272
  obtain ⟨j, hj, hs⟩ := Option.map_eq_some_iff.1 info274
  by_cases h : a = b
  · subst h
    exact ⟨true, run_eql_iface_ptr_same w a Tryz.underlying64 Tryz.underlying272 hi hc hj⟩
  · obtain ⟨ca, ta, ha⟩ := ha
    obtain ⟨cb, tb, hb⟩ := hb
    exact ⟨false, run_eql_iface_ptr_other w Tryz.underlying64 Tryz.underlying272 hi hc hj (by rw [hs]; simp) h ha hb⟩
set_option maxRecDepth 100000 in
theorem f63_calls (a a0 a4 a8 : Addr) (w : World) (ha : ErB w a) (h0 : Er w 0 a0) (h4 : Er w 4 a4) (h8 : Er w 8 a8) :
    Calls Tryz.prog 63 #[.iface 272 (.pointer (some a))] w fun e w' => (∃ b, e = .returned (.iface 272 (.pointer (some b)))) ∧ w' = w := by
  obtain ⟨r1, e1⟩ := eq_err a a8 w ha h8.blk
  obtain ⟨r2, e2⟩ := eq_err a a0 w ha h0.blk
  have c0 := h0.cell
  have c4 := h4.cell
  have c8 := h8.cell
  clear ha h0 h4 h8
  cases r1 <;> cases r2
  all_goals
    go_enter Tryz.func63, Tryz.ntmps63
    go_wp2
    go_ret
    exact ⟨⟨_, rfl⟩, rfl⟩
theorem f93_calls (w : World) : Calls Tryz.prog 93 #[] w fun e w' => (∃ b, e = .returned (.pointer (some b))) ∧ Upd [] w w' := by
  go_enter Tryz.func93, Tryz.ntmps93
  go_wp2
  go_ret
  exact ⟨⟨_, rfl⟩, (Upd.refl _ _).alloc _⟩
set_option maxRecDepth 100000 in
theorem f61_calls (s g : Nat) (c1 c2 c3 c5 : Value) (A : Option Addr) (n c : Nat) (w : World) (h : w.heap[s]? = some (.cells #[.pointer (some ⟨g,0,none⟩), c1, c2, c3, .int .u32 0, c5, .bool true] 131 (0,0))) :
    Calls Tryz.prog 61 #[.pointer (some ⟨s,0,none⟩), .nilIface, .slice A n c] w fun e w' => ∃ p, e = .returned (.tuple #[.pointer (some ⟨p,0,none⟩), .nilIface]) ∧ w'.cell? ⟨p,1,none⟩ = some (.pointer (some ⟨s,0,none⟩)) ∧ Upd [] w w' := by
  have c := blk_cells h
  clear h
  go_enter Tryz.func61, Tryz.ntmps61
  go_wp2_with (go_at_call 93; refine (f93_calls _).mono ?_; rintro e w1 ⟨⟨b, rfl⟩, H1⟩)
  go_ret2
  exact ⟨_, rfl, (blk_cells (blk_new _ _) 1).trans rfl, H1.trans ((Upd.refl _ _).alloc _)⟩
theorem f31_calls (s g : Nat) (c1 c2 c3 c5 : Value) (A : Option Addr) (n c : Nat) (w : World) (h : w.heap[s]? = some (.cells #[.pointer (some ⟨g,0,none⟩), c1, c2, c3, .int .u32 0, c5, .bool true] 131 (0,0))) :
    Calls Tryz.prog 31 #[.pointer (some ⟨s,0,none⟩), .slice A n c] w fun e w' => ∃ p, e = .returned (.tuple #[.pointer (some ⟨p,0,none⟩), .nilIface]) ∧ w'.cell? ⟨p,1,none⟩ = some (.pointer (some ⟨s,0,none⟩)) ∧ Upd [] w w' := by
  go_enter Tryz.func31, Tryz.ntmps31
  go_wp2_with (go_at_call 61; refine (f61_calls s g c1 c2 c3 c5 A n c w h).mono ?_; rintro e w1 ⟨p, rfl, H1, H2⟩)
  go_ret2
  exact ⟨_, rfl, H1, H2⟩
set_option maxRecDepth 100000 in
theorem f62_of (p s : Nat) (Q : Addr → Prop) (L : List Nat) (w : World) (hp : w.cell? ⟨p,1,none⟩ = some (.pointer (some ⟨s,0,none⟩)))
   (h : Calls Tryz.prog 25 #[.pointer (some ⟨s,0,none⟩)] w fun e w' => (∃ n a, e = .returned (.tuple #[.int .u32 n, .int .u32 0, .iface 272 (.pointer (some a))]) ∧ Q a) ∧ Upd L w w') :
    Calls Tryz.prog 62 #[.pointer (some ⟨p,0,none⟩)] w fun e w' => (∃ a, e = .returned (.iface 272 (.pointer (some a))) ∧ Q a) ∧ Upd L w w' := by
  go_enter Tryz.func62, Tryz.ntmps62
  go_wp2_with (go_at_call 25; refine h.mono ?_; rintro e w1 ⟨⟨n, a, rfl, hq⟩, H1⟩)
  go_ret
  exact ⟨⟨a, rfl, hq⟩, H1⟩
theorem Upd.setCells {L : List Nat} (b : Nat) (hb : b ∈ L) : ∀ (vs : List Value) (o : Nat) (a w : World), Upd L a w → Upd L a (w.setCells b o vs)
  | [], _, _, _, h => h
  | v :: r, o, a, w, h => by rw [World.setCells]; exact Upd.setCells b hb r (o + 1) a _ (h.setCell (.inl hb) v)
theorem results_cell2 {fn : Func} {p u : Tmp} {ty : TypeId} (h : fn.results = #[.cell p ty, .tmp u]) (tmps : Array Value) (P : Program) (w : World) (a : Addr) (v : Value) (hp : tmps.getD p undef = .pointer (some a)) (hl : (loadVar ty a).run P w = .ok v w) : (results fn tmps).run P w = .ok (.tuple #[v, tmps.getD u undef]) w := by
  rw [results_cell_tmp h, hp]
  simp [asAddr, hl]
theorem info79 : (Tryz.prog.info? 79).map (·.size) = some 20 := by kernel_rfl
/-- Twenty zeros. -/
def z20 : Array Value := #[.int .u8 0, .int .u8 0, .int .u8 0, .int .u8 0, .int .u8 0, .int .u8 0, .int .u8 0, .int .u8 0, .int .u8 0, .int .u8 0, .int .u8 0, .int .u8 0, .int .u8 0, .int .u8 0, .int .u8 0, .int .u8 0, .int .u8 0, .int .u8 0, .int .u8 0, .int .u8 0]
theorem z20_one : z20.all (·.oneCell') = true := by simp [z20, Value.oneCell']
theorem there_blk {w : World} {d : Nat} {t : TypeId} {cs : Array Value} (h : w.heap[d]? = some (.cells cs t (0,0))) : w.there d 0 cs.size := fun j hj => ⟨by rw [blk_cells h, Nat.zero_add, Array.getElem?_eq_getElem hj]; rfl, blk_free h _⟩
set_option maxRecDepth 100000 in
set_option maxHeartbeats 800000 in
theorem f32_of (p s : Nat) (Q : Addr → Prop) (a0 a4 a8 : Addr) (L : List Nat) (w : World) (hp : w.cell? ⟨p,1,none⟩ = some (.pointer (some ⟨s,0,none⟩)))
   (h : ∀ w1, Upd [] w w1 → Calls Tryz.prog 25 #[.pointer (some ⟨s,0,none⟩)] w1 fun e w' => (∃ n a, e = .returned (.tuple #[.int .u32 n, .int .u32 0, .iface 272 (.pointer (some a))]) ∧ Q a) ∧ Upd L w1 w') (hL : ∀ x ∈ L, x < w.heap.size)
   (ha : ∀ a, Q a → ErB w a ∧ a.block ∉ L) (h0 : Er w 0 a0) (h4 : Er w 4 a4) (h8 : Er w 8 a8) (n0 : 0 ∉ L) (n4 : 4 ∉ L) (n8 : 8 ∉ L) (m0 : a0.block ∉ L) (m4 : a4.block ∉ L) (m8 : a8.block ∉ L) :
    Calls Tryz.prog 32 #[.pointer (some ⟨p,0,none⟩)] w fun e w' => (∃ b, e = .returned (.tuple #[.agg z20, .iface 272 (.pointer (some b))])) ∧ Upd L w w' := by
  have HP := Aside0.mk hp
  have HH := Aside0.mk h
  have HA := Aside0.mk ha
  have H0 := Aside0.mk h0
  have H4 := Aside0.mk h4
  have H8 := Aside0.mk h8
  clear hp h ha h0 h4 h8
  go_enter Tryz.func32, Tryz.ntmps32
  go_wp2_with fail
  have hb := blk_new w (.cells #[.int .u8 0, .int .u8 0, .int .u8 0, .int .u8 0, .int .u8 0, .int .u8 0, .int .u8 0, .int .u8 0, .int .u8 0, .int .u8 0, .int .u8 0, .int .u8 0, .int .u8 0, .int .u8 0, .int .u8 0, .int .u8 0, .int .u8 0, .int .u8 0, .int .u8 0, .int .u8 0] 79 (0,0))
  have ud := (Upd.refl [] w).alloc (.cells #[.int .u8 0, .int .u8 0, .int .u8 0, .int .u8 0, .int .u8 0, .int .u8 0, .int .u8 0, .int .u8 0, .int .u8 0, .int .u8 0, .int .u8 0, .int .u8 0, .int .u8 0, .int .u8 0, .int .u8 0, .int .u8 0, .int .u8 0, .int .u8 0, .int .u8 0, .int .u8 0] 79 (0,0))
  have hnl : w.heap.size ∉ L := fun hm => by have := hL _ hm; omega
  have hp' := Upd.cell ud HP.out (by simp)
  have HP' := Aside0.mk hp'
  have HB := Aside0.mk hb
  have UD := Aside0.mk ud
  have HNL := Aside0.mk hnl
  clear hb ud hnl hp'
  generalize hdq : w.heap.size = d at *
  have HDQ := Aside0.mk hdq
  clear hdq
  generalize w.alloc (.cells #[.int .u8 0, .int .u8 0, .int .u8 0, .int .u8 0, .int .u8 0, .int .u8 0, .int .u8 0, .int .u8 0, .int .u8 0, .int .u8 0, .int .u8 0, .int .u8 0, .int .u8 0, .int .u8 0, .int .u8 0, .int .u8 0, .int .u8 0, .int .u8 0, .int .u8 0, .int .u8 0] 79 (0,0)) = w1 at *
  go_wp2_with (first
    | (go_at_call 62; refine (f62_of p s Q L _ HP'.out (HH.out _ UD.out)).mono ?_; rintro e w2 ⟨⟨a, rfl, hq⟩, K1⟩; obtain ⟨ha1, ha2⟩ := HA.out a hq; have TH := Aside0.mk (there_blk (K1.keep HB.out HNL.out)); have K1 := Aside0.mk K1)
    | (go_at_call 63; refine (f63_calls a a0 a4 a8 _ ((ha1.upd UD.out (by simp)).upd K1.out ha2) ((H0.out.upd UD.out (by simp) (by simp)).upd K1.out n0 m0) ((H4.out.upd UD.out (by simp) (by simp)).upd K1.out n4 m4) ((H8.out.upd UD.out (by simp) (by simp)).upd K1.out n8 m8)).mono ?_; rintro e w3 ⟨⟨b, rfl⟩, rfl⟩)
    | (refine wpList_store_mid (by rfl) 79 _ _ (by rfl) d 0 z20 (by rfl) (by rfl) TH.out info79 z20_one ?_))
  have hth : w3.there d 0 20 := TH.out
  have hr := World.rangeAt_setCells_same w3 d 0 z20.toList hth
  have hl := run_loadVar_mid (P := Tryz.prog) (w3.setCells d 0 z20.toList) d 0 79 z20.toList _ hr Tryz.underlying79 rfl info79
  have hu := (K1.out.mono (M := d :: L) (fun x hx => .inl (List.mem_cons_of_mem _ hx))).trans (Upd.setCells d (by simp) z20.toList 0 _ _ (Upd.refl (d :: L) w3))
  generalize w3.setCells d 0 z20.toList = w4 at *
  refine bodyPost_ret (v := .tuple #[.agg z20, .iface 272 (.pointer (some b))]) ?_ rfl ?_
  · exact results_cell2 (p := 2) (u := 3) (ty := 79) (by rfl) _ _ _ ⟨d, 0, none⟩ (.agg z20) (by rfl) hl
  · exact ⟨⟨b, rfl⟩, (UD.out.mono (by simp)).andThen hu (fun x hx => by rcases List.mem_cons.1 hx with rfl | h1 <;> first | exact .inr (Nat.le_of_eq HDQ.out) | exact .inl h1)⟩
set_option maxRecDepth 100000 in
theorem f32_bad (p s g gr gw gb br bw : Nat) (c1 c2 c3 c5 : Value) (B : Nat) (A : Option Addr) (c0 : Nat) (bs : List Int) (w w3 : World) (a0 a2 a3 a4 a8 : Addr) (h0 : Er w 0 a0) (h2 : Er w 2 a2) (h3 : Er w 3 a3) (h4 : Er w 4 a4) (h8 : Er w 8 a8)
   (U : Upd [gb] w w3) (hp : w3.cell? ⟨p,1,none⟩ = some (.pointer (some ⟨s,0,none⟩))) (h : w3.heap[s]? = some (.cells #[.pointer (some ⟨g,0,none⟩), c1, c2, c3, .int .u32 0, c5, .bool true] 131 (0,0)))
   (hs : Sr B w3 g gr gw gb br bw A bs.length c0 0) (hgb : w.heap.size ≤ gb) (hsB : w.heap.size ≤ s) (hB : w.heap.size ≤ B) (hlm : bs.length < 140737488355328) (hc0 : bs.length ≤ c0)
   (hC : Kd.C (Kd.int .u8) w A bs.length bs) (hA : ∀ a, A = some a → a.block < w.heap.size) (hbad : BadHead bs) :
    Calls Tryz.prog 32 #[.pointer (some ⟨p,0,none⟩)] w3 fun e w' => (∃ b, e = .returned (.tuple #[.agg z20, .iface 272 (.pointer (some b))])) ∧ Upd [s, g, gr, gb, br, gw, bw] w3 w' := by
  obtain ⟨q, hg⟩ := hs.h_g
  obtain ⟨cr, hbr, hcr⟩ := hs.h_br
  obtain ⟨v3', hgw⟩ := hs.h_gw
  obtain ⟨cw, hbw, hcw⟩ := hs.h_bw
  have b0 := hs.b0
  have b1 := hs.b1
  have b2 := hs.b2
  have b3 := hs.b3
  have b4 := hs.b4
  have l0 := lt_of_blk h
  have l1 := lt_of_blk hg
  have l2 := lt_of_blk hs.h_gr
  have l3 := lt_of_blk hgw
  have l4 := lt_of_blk hbw
  have l5 := lt_of_blk hbr
  have l6 := lt_of_blk hs.h_gb
  have n8 : 8 < w.heap.size := World.block_lt_of_cell? w _ h8.cell
  have eb : ∀ {k a}, Er w k a → a.block < w.heap.size := fun he => by obtain ⟨_, _, hb⟩ := he.blk; exact lt_of_blk hb
  have old : ∀ {x : Nat}, x < w.heap.size → x ∉ [s, g, gr, gb, br, gw, bw] := fun hx hm => by
    simp only [List.mem_cons, List.not_mem_nil, or_false] at hm
    omega
  have old1 : ∀ {x : Nat}, x < w.heap.size → x ∉ [gb] := fun hx hm => by
    simp only [List.mem_cons, List.not_mem_nil, or_false] at hm
    omega
  have k2 := h2.upd U (old1 (by omega)) (old1 (eb h2))
  have k3 := h3.upd U (old1 (by omega)) (old1 (eb h3))
  refine f32_of p s (fun a => a = a2 ∨ a = a3) a0 a4 a8 _ w3 hp ?_ ?_ ?_ (h0.upd U (old1 (by omega)) (old1 (eb h0))) (h4.upd U (old1 (by omega)) (old1 (eb h4))) (h8.upd U (old1 (by omega)) (old1 (eb h8))) (old (by omega)) (old (by omega)) (old (by omega)) (old (eb h0)) (old (eb h4)) (old (eb h8))
  · intro w1 u
    refine (f25_any s g gr gw gb br bw c1 c2 c3 c5 (.bool true) B A c0 bs w1 272 272 (.pointer (some a2)) (.pointer (some a3)) (Upd.cell u k2.cell (by simp)) (Upd.cell u k3.cell (by simp)) (u.keep h (by simp)) (hs.keep u) (by omega) (by omega) hlm hc0 (C_upd (C_upd hC U (fun a ha => old1 (hA a ha))) u (by simp)) (fun a ha => ⟨by have := hA a ha; omega, by have := hA a ha; omega⟩) hbad).mono ?_
    rintro e w' ⟨⟨n, t, v, rfl, hh⟩, k⟩
    refine ⟨?_, k⟩
    rcases hh with ⟨rfl, rfl⟩ | ⟨rfl, rfl⟩
    · exact ⟨n, a2, rfl, .inl rfl⟩
    · exact ⟨n, a3, rfl, .inr rfl⟩
  · intro x hx
    simp only [List.mem_cons, List.not_mem_nil, or_false] at hx
    rcases hx with rfl | rfl | rfl | rfl | rfl | rfl | rfl <;> assumption
  · rintro a (rfl | rfl)
    · exact ⟨k2.blk, old (eb h2)⟩
    · exact ⟨k3.blk, old (eb h3)⟩
end Go.Proofs.YtohdpnoinfnmiaaGreatDoor

namespace Go.Proofs.YtohdpnoinfnmiaaGreatDoor
open Go.RowKit U
open Go.Proofs.YtohdpnoinfnmiaaGreatDoorW.PrintWords (Aside0 Kd nums)
open Go.Proofs.YtohdpnoinfnmiaaGreatDoorW.PrintMore
set_option maxRecDepth 100000 in
set_option maxHeartbeats 800000 in
theorem f9_bad (A : Option Addr) (c0 : Nat) (bs : List Int) (w : World) (a0 a2 a3 a4 a8 : Addr) (h0 : Er w 0 a0) (h2 : Er w 2 a2) (h3 : Er w 3 a3) (h4 : Er w 4 a4) (h8 : Er w 8 a8) (hlm : bs.length < 140737488355328) (hc0 : bs.length ≤ c0)
   (hC : Kd.C (Kd.int .u8) w A bs.length bs) (hbad : BadHead bs) :
    Calls Tryz.prog 9 #[.slice A bs.length c0] w fun e w' => e = .returned (.tuple #[.slice none 0 0, .string ⟨#[]⟩, .bool false]) ∧ Upd [] w w' := by
  have H0 := Aside0.mk h0
  have H2 := Aside0.mk h2
  have H3 := Aside0.mk h3
  have H4 := Aside0.mk h4
  have H8 := Aside0.mk h8
  have HC := Aside0.mk hC
  have HBad := Aside0.mk hbad
  have l3 : 8 < w.heap.size := World.block_lt_of_cell? w _ h8.cell
  have hA : ∀ a, A = some a → a.block < w.heap.size := by
    intro a ha
    obtain ⟨x0, x1, x2, x3, y0, y1, y2, y3, r, rfl, _⟩ := hbad
    obtain ⟨ad, e, hc⟩ := bytes_cells hC (by simp)
    rw [ha] at e
    cases e
    have := World.block_lt_of_cell? w _ (hc 0 _ rfl)
    rwa [show (a.add 0).block = a.block from by unfold Addr.add; split <;> rfl] at this
  have HA := Aside0.mk hA
  clear h0 h2 h3 h4 h8 hC hbad hA
  have hmm := @run_makeMap Tryz.prog
  go_enter Tryz.func9, Tryz.ntmps9
  go_wp2_with (first
    | (go_at_call 24; refine (f24_calls _ A bs.length c0 _ rfl).mono ?_; rintro e w1 ⟨rfl, G1, G2⟩; have G1 : Aside0 (w1.heap[w.heap.size + 1 + 1 + 1]? = some (.cells #[.slice A bs.length c0, .int .i64 0, .int .i64 (-1)] 133 (0,0))) := ⟨by simpa using G1⟩; have G3 := Aside0.mk (((((Upd.refl [] w).alloc _).alloc _).alloc _).trans G2); clear G2)
    | (go_at_call 23; refine (f23_calls (w.heap.size + 1 + 1 + 1) A bs.length c0 0 (by omega) _ _ G1.out).mono ?_; rintro e w2 ⟨s, g, gr, gw, br, bw, rfl, ⟨c1, c2, c3, c5, G4⟩, G5, G6, G7⟩; have G4 := Aside0.mk G4; have G5 := Aside0.mk G5; have G6 := Aside0.mk G6; have G8 := Aside0.mk ((G3.out.mono (M := [w.heap.size + 1 + 1 + 1]) (by simp)).trans G7); clear G7)
    | (go_at_call 31; refine (f31_calls s g c1 c2 c3 c5 _ _ _ _ (blk_old G4.out _)).mono ?_; rintro e w3 ⟨p, rfl, G9, G10⟩; have G9 := Aside0.mk G9; have G11 := Aside0.mk (((Upd.refl [] w2).alloc _).trans G10); clear G10)
    | (go_at_call 32; refine (f32_bad p s g gr gw (w.heap.size + 1 + 1 + 1) br bw c1 c2 c3 c5 w1.heap.size A c0 bs w _ a0 a2 a3 a4 a8 H0.out H2.out H3.out H4.out H8.out (G8.out.trans (G11.out.mono (by simp))) G9.out (G11.out.keep G4.out (by simp)) (G6.out.keep G11.out) (by omega) (by have := G5.out; have := G3.out.size; omega) G3.out.size hlm hc0 HC.out HA.out HBad.out).mono ?_; rintro e w4 ⟨⟨b, rfl⟩, G12⟩; have G12 := Aside0.mk G12; have TH := Aside0.mk (there_blk (blk_new w4 (.cells #[.int .u8 0, .int .u8 0, .int .u8 0, .int .u8 0, .int .u8 0, .int .u8 0, .int .u8 0, .int .u8 0, .int .u8 0, .int .u8 0, .int .u8 0, .int .u8 0, .int .u8 0, .int .u8 0, .int .u8 0, .int .u8 0, .int .u8 0, .int .u8 0, .int .u8 0, .int .u8 0] 79 (0,0)))))
    | (refine wpList_store_mid (by rfl) 79 _ _ (by rfl) w4.heap.size 0 z20 (by rfl) (by rfl) ?th info79 z20_one ?_; (case th => exact TH.out)))
  go_ret3
  have u1 := (G8.out.trans (G11.out.mono (by simp)))
  have u2 := (u1.mono (M := []) (by simp; omega)).andThen G12.out (fun x hx => .inr (by
    have b0 := G6.out.b0
    have b1 := G6.out.b1
    have b2 := G6.out.b2
    have b3 := G6.out.b3
    have b4 := G6.out.b4
    have h4 := G5.out
    have h2 := G3.out.size
    simp only [List.mem_cons, List.not_mem_nil, or_false] at hx
    rcases hx with rfl | rfl | rfl | rfl | rfl | rfl | rfl <;> omega))
  refine ⟨rfl, u2.andThen (Upd.setCells w4.heap.size (L := [w4.heap.size]) (by simp) z20.toList 0 w4 _ ((Upd.refl _ w4).alloc _)) (fun x hx => .inr (by have := u2.size; simp at hx; omega))⟩
end Go.Proofs.YtohdpnoinfnmiaaGreatDoor

namespace Go.Proofs.YtohdpnoinfnmiaaGreatDoor
open Go.RowKit U
open Go.Proofs.YtohdpnoinfnmiaaGreatDoorW.PrintWords (Aside0 Kd nums)
open Go.Proofs.YtohdpnoinfnmiaaGreatDoorW.PrintMore
attribute [local go_sem ↓] Go.wp_at_zero Go.wp_at_succ
set_option maxRecDepth 100000 in
set_option maxHeartbeats 800000 in
theorem f117_a (d c : Nat) (hc : 7 ≤ c) (w : World) (h : w.cell? ⟨d,0,none⟩ = some (.int .u8 4)) :
    Calls Tryz.prog 117 #[.slice (some ⟨d,0,none⟩) 7 c] w fun e w' => e = .returned (.tuple #[.int .u64 4, .slice (some ⟨d,1,none⟩) 6 (c - 1), .nilIface]) ∧ Upd [] w w' := by
  have hc' : (1 : Int) ≤ c := by omega
  have hc2 : (7 : Int) ≤ c := by omega
  go_enter Tryz.func117, Tryz.ntmps117
  go_wp2_with fail
  refine wp_loop_rounds 2 ?_
  rw [rounds_succ]
  go_wp2_with fail
  go_quiet (fail)
  go_wp2
  go_ret3
  refine ⟨?_, (Upd.refl _ w).drewN _⟩
  show Ending.returned (.tuple #[.int .u64 (bits .or .u64 0 (IntKind.u64.wrap (bits .and .u64 4 127))), .slice (some ⟨d,1,none⟩) 6 (c - 1), .nilIface]) = _
  rw [show bits .or .u64 0 (IntKind.u64.wrap (bits .and .u64 4 127)) = 4 from by decide]
set_option maxRecDepth 100000 in
set_option maxHeartbeats 800000 in
theorem f117_b (d c : Nat) (hc : 6 ≤ c) (w : World) (h : w.cell? ⟨d,1,none⟩ = some (.int .u8 6)) :
    Calls Tryz.prog 117 #[.slice (some ⟨d,1,none⟩) 6 c] w fun e w' => e = .returned (.tuple #[.int .u64 6, .slice (some ⟨d,2,none⟩) 5 (c - 1), .nilIface]) ∧ Upd [] w w' := by
  have hc' : (1 : Int) ≤ c := by omega
  have hc2 : (6 : Int) ≤ c := by omega
  go_enter Tryz.func117, Tryz.ntmps117
  go_wp2_with fail
  refine wp_loop_rounds 2 ?_
  rw [rounds_succ]
  go_wp2_with fail
  go_quiet (fail)
  go_wp2
  go_ret3
  refine ⟨?_, (Upd.refl _ w).drewN _⟩
  show Ending.returned (.tuple #[.int .u64 (bits .or .u64 0 (IntKind.u64.wrap (bits .and .u64 6 127))), .slice (some ⟨d,2,none⟩) 5 (c - 1), .nilIface]) = _
  rw [show bits .or .u64 0 (IntKind.u64.wrap (bits .and .u64 6 127)) = 6 from by decide]
theorem drewN_cell {w : World} {p : Addr} {v : Value} (q : Nat) (h : w.cell? p = some v) : (w.drewN q).cell? p = some v := h
set_option maxRecDepth 100000 in
set_option maxHeartbeats 1600000 in
theorem f119_a (A : Option Addr) (n c : Nat) (t o : Nat) (cap : Nat) (w : World) (ht : w.cell? ⟨15,0,none⟩ = some (.slice (some ⟨t,o,none⟩) 4 cap))
   (m0 : w.cell? ⟨t,o,none⟩ = some (.int .u8 1)) (m1 : w.cell? ⟨t,o+2,none⟩ = some (.int .u8 2)) (m2 : w.cell? ⟨t,o+4,none⟩ = some (.int .u8 4)) (m3 : w.cell? ⟨t,o+6,none⟩ = some (.int .u8 8))
   (s0 : w.cell? ⟨t,o+1,none⟩ = some (.int .u64 0)) (s1 : w.cell? ⟨t,o+3,none⟩ = some (.int .u64 8)) (s2 : w.cell? ⟨t,o+5,none⟩ = some (.int .u64 16)) (s3 : w.cell? ⟨t,o+7,none⟩ = some (.int .u64 24)) :
    Calls Tryz.prog 119 #[.int .u8 144, .slice A n c] w fun e w' => e = .returned (.tuple #[.int .u64 0, .slice A n c, .nilIface]) ∧ Upd [] w w' := by
  have U := Aside0.mk (Upd.refl [] w)
  go_enter Tryz.func119, Tryz.ntmps119
  go_wp2_with fail
  refine wp_loop_rounds 5 ?_
  rw [rounds_succ]
  go_wp2_with fail
  have u := (Upd.refl [] w).alloc (.cells #[.int .u8 1, .int .u64 0] 310 (0,0))
  replace U := Aside0.mk (U.out.trans u)
  replace m0 := Upd.cell u m0 (by simp)
  replace m1 := Upd.cell u m1 (by simp)
  replace m2 := Upd.cell u m2 (by simp)
  replace m3 := Upd.cell u m3 (by simp)
  replace s0 := Upd.cell u s0 (by simp)
  replace s1 := Upd.cell u s1 (by simp)
  replace s2 := Upd.cell u s2 (by simp)
  replace s3 := Upd.cell u s3 (by simp)
  generalize w.alloc (.cells #[.int .u8 1, .int .u64 0] 310 (0,0)) = w1 at *
  clear u
  rw [rounds_succ]
  go_wp2_with fail
  have u := (Upd.refl [] w1).alloc (.cells #[.int .u8 2, .int .u64 8] 310 (0,0))
  replace U := Aside0.mk (U.out.trans u)
  replace m0 := Upd.cell u m0 (by simp)
  replace m1 := Upd.cell u m1 (by simp)
  replace m2 := Upd.cell u m2 (by simp)
  replace m3 := Upd.cell u m3 (by simp)
  replace s0 := Upd.cell u s0 (by simp)
  replace s1 := Upd.cell u s1 (by simp)
  replace s2 := Upd.cell u s2 (by simp)
  replace s3 := Upd.cell u s3 (by simp)
  generalize w1.alloc (.cells #[.int .u8 2, .int .u64 8] 310 (0,0)) = w2 at *
  clear u
  rw [rounds_succ]
  go_wp2_with fail
  have u := (Upd.refl [] w2).alloc (.cells #[.int .u8 4, .int .u64 16] 310 (0,0))
  replace U := Aside0.mk (U.out.trans u)
  replace m0 := Upd.cell u m0 (by simp)
  replace m1 := Upd.cell u m1 (by simp)
  replace m2 := Upd.cell u m2 (by simp)
  replace m3 := Upd.cell u m3 (by simp)
  replace s0 := Upd.cell u s0 (by simp)
  replace s1 := Upd.cell u s1 (by simp)
  replace s2 := Upd.cell u s2 (by simp)
  replace s3 := Upd.cell u s3 (by simp)
  generalize w2.alloc (.cells #[.int .u8 4, .int .u64 16] 310 (0,0)) = w3 at *
  clear u
  rw [rounds_succ]
  go_wp2_with fail
  have u := (Upd.refl [] w3).alloc (.cells #[.int .u8 8, .int .u64 24] 310 (0,0))
  replace U := Aside0.mk (U.out.trans u)
  replace m0 := Upd.cell u m0 (by simp)
  replace m1 := Upd.cell u m1 (by simp)
  replace m2 := Upd.cell u m2 (by simp)
  replace m3 := Upd.cell u m3 (by simp)
  replace s0 := Upd.cell u s0 (by simp)
  replace s1 := Upd.cell u s1 (by simp)
  replace s2 := Upd.cell u s2 (by simp)
  replace s3 := Upd.cell u s3 (by simp)
  generalize w3.alloc (.cells #[.int .u8 8, .int .u64 24] 310 (0,0)) = w4 at *
  clear u
  rw [rounds_succ]
  go_wp2
  go_ret3
  exact ⟨rfl, U.out⟩
set_option maxRecDepth 100000 in
set_option maxHeartbeats 1600000 in
theorem f120_a (d c : Nat) (hc : (4 : Int) ≤ c) (t o : Nat) (cap : Nat) (w : World) (ht : w.cell? ⟨16,0,none⟩ = some (.slice (some ⟨t,o,none⟩) 3 cap)) (hb : w.cell? ⟨d,3,none⟩ = some (.int .u8 4))
   (m0 : w.cell? ⟨t,o,none⟩ = some (.int .u8 16)) (m1 : w.cell? ⟨t,o+2,none⟩ = some (.int .u8 32)) (m2 : w.cell? ⟨t,o+4,none⟩ = some (.int .u8 64))
   (s0 : w.cell? ⟨t,o+1,none⟩ = some (.int .u64 0)) (s1 : w.cell? ⟨t,o+3,none⟩ = some (.int .u64 8)) (s2 : w.cell? ⟨t,o+5,none⟩ = some (.int .u64 16)) :
    Calls Tryz.prog 120 #[.int .u8 144, .slice (some ⟨d,3,none⟩) 4 c] w fun e w' => e = .returned (.tuple #[.int .u64 4, .slice (some ⟨d,4,none⟩) 3 (c - 1), .nilIface]) ∧ Upd [] w w' := by
  have U := Aside0.mk (Upd.refl [] w)
  go_enter Tryz.func120, Tryz.ntmps120
  go_wp2_with fail
  refine wp_loop_rounds 4 ?_
  rw [rounds_succ]
  go_wp2_with fail
  have u := (Upd.refl [] w).alloc (.cells #[.int .u8 16, .int .u64 0] 310 (0,0))
  replace U := Aside0.mk (U.out.trans u)
  replace m0 := Upd.cell u m0 (by simp)
  replace m1 := Upd.cell u m1 (by simp)
  replace m2 := Upd.cell u m2 (by simp)
  replace s0 := Upd.cell u s0 (by simp)
  replace s1 := Upd.cell u s1 (by simp)
  replace s2 := Upd.cell u s2 (by simp)
  replace hb := Upd.cell u hb (by simp)
  have c9 := blk_cells (blk_new w (.cells #[.int .u8 16, .int .u64 0] 310 (0,0)))
  generalize w.heap.size = e0 at *
  generalize w.alloc (.cells #[.int .u8 16, .int .u64 0] 310 (0,0)) = w1 at *
  clear u
  go_quiet (fail)
  replace m0 := drewN_cell nq m0
  replace m1 := drewN_cell nq m1
  replace m2 := drewN_cell nq m2
  replace s0 := drewN_cell nq s0
  replace s1 := drewN_cell nq s1
  replace s2 := drewN_cell nq s2
  replace hb := drewN_cell nq hb
  replace U := Aside0.mk (U.out.drewN nq)
  clear c9
  generalize w1.drewN nq = w1b at *
  go_wp2_with fail
  rw [rounds_succ]
  go_wp2_with fail
  have u := (Upd.refl [] w1b).alloc (.cells #[.int .u8 32, .int .u64 8] 310 (0,0))
  replace U := Aside0.mk (U.out.trans u)
  replace m0 := Upd.cell u m0 (by simp)
  replace m1 := Upd.cell u m1 (by simp)
  replace m2 := Upd.cell u m2 (by simp)
  replace s0 := Upd.cell u s0 (by simp)
  replace s1 := Upd.cell u s1 (by simp)
  replace s2 := Upd.cell u s2 (by simp)
  replace hb := Upd.cell u hb (by simp)
  generalize w1b.alloc (.cells #[.int .u8 32, .int .u64 8] 310 (0,0)) = w2 at *
  clear u
  rw [rounds_succ]
  go_wp2_with fail
  have u := (Upd.refl [] w2).alloc (.cells #[.int .u8 64, .int .u64 16] 310 (0,0))
  replace U := Aside0.mk (U.out.trans u)
  replace m0 := Upd.cell u m0 (by simp)
  replace m1 := Upd.cell u m1 (by simp)
  replace m2 := Upd.cell u m2 (by simp)
  replace s0 := Upd.cell u s0 (by simp)
  replace s1 := Upd.cell u s1 (by simp)
  replace s2 := Upd.cell u s2 (by simp)
  replace hb := Upd.cell u hb (by simp)
  generalize w2.alloc (.cells #[.int .u8 64, .int .u64 16] 310 (0,0)) = w3 at *
  clear u
  rw [rounds_succ]
  go_wp2
  go_ret3
  refine ⟨?_, U.out⟩
  show Ending.returned (.tuple #[.int .u64 (bits .or .u64 0 4), .slice (some ⟨d,4,none⟩) 3 (c - 1), .nilIface]) = _
  rw [show bits .or .u64 0 4 = 4 from by decide]
end Go.Proofs.YtohdpnoinfnmiaaGreatDoor
