/- spec.ObjectHash and Object.Name end. -/
import Derived.Test.YtohdpnoinfnmiaaGreatDoorV26
import Derived.Test.YtohdpnoinfnmiaaGreatDoorV27
import Derived.Test.YtohdpnoinfnmiaaGreatDoorV30
import Derived.Deep.RegionHeld3
namespace Go.Proofs.YtohdpnoinfnmiaaGreatDoor
open Go.RowKit U
open Go.Proofs.YtohdpnoinfnmiaaGreatDoorW.PrintWords (Aside0 Kd nums Drawn0 ReadsInt nums_append print_bytes bytesOf bytesOf_length bytes_below below_then pw_below_drewN)
open Go.Proofs.YtohdpnoinfnmiaaGreatDoorW.PrintMore
open PFnPackOther (info5)
set_option maxHeartbeats 8000000 in
set_option maxRecDepth 100000 in
theorem f18_any (s : ByteArray) (A0 : Option Addr) (c0 : Nat) (l0 : List Int) (w : World) (hs : s.size ≤ 10) (hr0 : Kd.C (Kd.int .u8) w A0 l0.length l0) (hl0 : l0.length ≤ 100000000000) :
    Calls Tryz.prog 18 #[.string s, .slice A0 l0.length c0] w fun e w' => ∃ g cap r, e = .returned (.slice (some ⟨g,0,none⟩) 20 cap) ∧ Own1 w w' g cap r ∧ r.length = 20 ∧ (∀ x ∈ r, 0 ≤ x ∧ x ≤ 255) := by
  have HR0 := Aside0.mk (C_reads hr0)
  have HL := Aside0.mk hl0
  have KEY := Aside0.mk (f41_any 12 (l0.length : Int) w (by omega) (by omega) (by omega) (by omega))
  clear hr0 hl0
  have kb := fun (t : ByteArray) W => print_bytes (P := Tryz.prog) 9 25 5 Tryz.underlying9 Tryz.underlying25 Tryz.underlying5 t W
  go_enter Tryz.func18, Tryz.ntmps18
  go_wp2_with (first
    | (go_at_call 41; refine KEY.out.mono ?_; rintro e w1 ⟨d, rfl, hd, rfl⟩)
    | (at_builtin; refine Held1.out ?_))
  refine Held1.mk ?_
  have hlen : (bytesOf (s ++ { data := #[32] } ++ d)).length = s.size + 1 + d.size := by
    rw [bytesOf_length, ByteArray.size_append, ByteArray.size_append]
    rfl
  have hO : Own1 w1 (Lib.bytesWorld w1 5 (s ++ { data := #[32] } ++ d)) w1.heap.size (grownCap w1 (s.size + 1 + d.size) 0 5) (bytesOf (s ++ { data := #[32] } ++ d)) := by
    have hM := Mrow.of_conv w1 5 (s ++ { data := #[32] } ++ d)
    have hsz : (s ++ { data := #[32] } ++ d).size = s.size + 1 + d.size := by rw [← bytesOf_length]; exact hlen
    rw [hsz] at hM
    exact ⟨hM, by rw [Lib.bytesWorld_size]; omega, Nat.le_refl _, .of_below (bytes_below (Below.refl _ _) (Nat.le_refl _) 5 _) []⟩
  have hs63 : s.size + 1 + d.size ≤ 63 := by omega
  clear kb
  generalize bytesOf (s ++ { data := #[32] } ++ d) = xs at hlen hO
  generalize Lib.bytesWorld w1 5 (s ++ { data := #[32] } ++ d) = wb at *
  generalize grownCap w1 (s.size + 1 + d.size) 0 5 = cp at *
  generalize s.size + 1 + d.size = n at *
  subst hlen
  have HO := Aside0.mk hO
  have HN := Aside0.mk hs63
  clear hO hs63 hs hd
  refine append_o1 (w0 := w1) (by rfl) _ _ 25 (by rfl) Tryz.underlying25 info5 w1.heap.size cp xs 0 (by rfl) (by rfl) HO.out (by have := HN.out; omega) ?_
  clear HO
  intro g2 cap2 w2 hO2 _ _
  have hq : (xs ++ [0]).length = xs.length + 1 := by simp
  generalize xs ++ [0] = xs2 at *
  have HO2 := Aside0.mk hO2
  have HQ := Aside0.mk hq
  clear hO2 hq
  go_wp2_with (at_builtin; refine Held1.out ?_)
  refine Held1.mk ?_
  refine append_o (w0 := w1) (by rfl) _ _ 25 (by rfl) Tryz.underlying25 info5 g2 cap2 xs2 l0 A0 l0.length c0 (by rfl) (by rfl) HO2.out (reads_upd HR0.out HO2.out.upd) (by have := HL.out; have := HN.out; have := HQ.out; omega) ?_
  intro g3 cap3 w3 hO3 _ _
  have hq : (xs2 ++ l0).length = xs2.length + l0.length := by simp
  generalize xs2 ++ l0 = xs3 at *
  have HO3 := Aside0.mk hO3
  have hl3 : xs3.length ≤ 1000000000000 := by have := HL.out; have := HN.out; have := HQ.out; omega
  have HC3 := Aside0.mk (hO3.row.C (by omega))
  have HL3 := Aside0.mk hl3
  clear hO3 hq HO2 hl3
  go_wp2_with (go_at_call 22; refine (f22_any _ cap3 xs3 w3 HC3.out HL3.out).mono ?_; rintro e w4 ⟨g4, cap4, r, rfl, HO4, hr4, hb4⟩; have HO4 := Aside0.mk HO4; have HB4 := Aside0.mk (And.intro hr4 hb4))
  go_ret
  have h1 := HO3.out
  have h2 := HO4.out
  exact ⟨g4, cap4, r, rfl, ⟨h2.row, h2.lt, Nat.le_trans h1.upd.size h2.new, h1.upd.trans h2.upd⟩, HB4.out.1, HB4.out.2⟩
theorem drew_b {w : World} {g : Nat} {o : Obj} (h : w.heap[g]? = some o) : w.drew.heap[g]? = some o := h
theorem f19_any (kd : Int) (nm : ByteArray) (h : PFnPackOther.spec_KindName.f kd = some nm) (w : World) : Calls Tryz.prog 19 #[.int .i64 kd] w fun e w' => e = .returned (.string nm) ∧ Upd [] w w' :=
  (PFnPackOther.spec_KindName.calls kd nm w h).mono fun _ _ h => ⟨h.1, .of_below h.2 []⟩
theorem f69_any (A0 : Option Addr) (n c0 : Nat) (l0 : List Int) (w : World) (hr0 : Kd.C (Kd.int .u8) w A0 n l0) (hc : n ≤ c0) (hn : n ≤ 1000) (hb : ∀ x ∈ l0, 0 ≤ x ∧ x ≤ 255) : Calls Tryz.prog 69 #[.slice A0 n c0] w fun e w' => ∃ s : ByteArray, e = .returned (.string s) ∧ s.size ≤ 2 * n ∧ Upd [] w w' := by
  obtain rfl : l0.length = n := hr0.1
  obtain ⟨r, k, hk, hs⟩ := hex_ev l0 hn hb
  exact (PFnPackOther.spec_Hex.calls k A0 c0 l0 r w hr0 hc hk).mono fun _ _ h => ⟨r, h.1, hs, .of_below h.2 []⟩
set_option maxHeartbeats 8000000 in
set_option maxRecDepth 100000 in
theorem f36_any (kd : Int) (A0 : Option Addr) (c0 : Nat) (l0 : List Int) (w : World) (h0 : 1 ≤ kd) (h1 : kd ≤ 4) (hr0 : Kd.C (Kd.int .u8) w A0 l0.length l0) (hl0 : l0.length ≤ 100000000000) :
    Calls Tryz.prog 36 #[.agg #[.int .i64 kd, .slice A0 l0.length c0]] w fun e w' => ∃ s : ByteArray, e = .returned (.string s) ∧ s.size ≤ 40 ∧ Upd [] w w' := by
  have HL := Aside0.mk hl0
  obtain ⟨nm, hnm, hn6⟩ := kind_ev kd h0 h1
  have NM := Aside0.mk (And.intro hnm hn6)
  have hu := (Upd.refl [] w).alloc (.cells #[.int .i64 kd, .slice A0 l0.length c0] 50)
  have HR0 := Aside0.mk (Kd.C_below hr0 hu.to_below)
  have HB := Aside0.mk (drew_b (U.blk_new w (.cells #[.int .i64 kd, .slice A0 l0.length c0] 50)))
  have HU := Aside0.mk hu
  clear hl0 hnm hn6 h0 h1 hu hr0
  go_enter Tryz.func36, Tryz.ntmps36
  go_wp2
  generalize hbb : w.heap.size = b at *
  have hb : (w.alloc (.cells #[.int .i64 kd, .slice A0 l0.length c0] 50)).heap[b]? = some (.cells #[.int .i64 kd, .slice A0 l0.length c0] 50 (0,0)) := HB.out
  generalize w.alloc (.cells #[.int .i64 kd, .slice A0 l0.length c0] 50) = w0 at *
  have c := blk_cells hb
  clear hb hbb
  go_region_held3 (fun w' => w'.cell? ⟨b,0,none⟩ = some (.int .i64 kd) ∧ w'.cell? ⟨b,1,none⟩ = some (.slice A0 l0.length c0)) (go_keep)
    ((first
      | (go_at_call 19; refine (f19_any kd nm NM.out.1 _).mono ?_; rintro e w2 ⟨rfl, U2⟩; have c2 := blk_cells (U2.keep HB.out (by simp)); have HR2 := Aside0.mk (Kd.C_below HR0.out (below_then (pw_below_drewN (Below.refl w0.heap.size w0) 1) (Nat.le_refl _) U2.to_below)); have U2 := Aside0.mk U2)
      | (go_at_call 18; refine (f18_any nm A0 c0 l0 _ (by have := NM.out.2; omega) HR2.out HL.out).mono ?_; rintro e w3 ⟨g, cap, r, rfl, O3, hr3, hb3⟩; have c3 := blk_cells (O3.upd.keep (U2.out.keep HB.out (by simp)) (by simp)); have O3 := Aside0.mk O3; have HR3 := Aside0.mk (And.intro hr3 hb3); clear hr3 hb3)
      | (go_at_call 69; refine (f69_any _ 20 _ r _ (by have h := O3.out.row.C (by rw [HR3.out.1]; omega); rw [HR3.out.1] at h; exact h) (by have h := O3.out.row.le; simp [nums, HR3.out.1] at h; exact h) (by omega) HR3.out.2).mono ?_; rintro e w4 ⟨s, rfl, hs4, U4⟩; have c4 := blk_cells (U4.keep (O3.out.upd.keep (U2.out.keep HB.out (by simp)) (by simp)) (by simp)); have U4 := Aside0.mk U4)))
  go_wp2
  go_ret
  exact ⟨s, rfl, by omega, ((HU.out.drew.trans U2.out).trans O3.out.upd).trans U4.out⟩
end Go.Proofs.YtohdpnoinfnmiaaGreatDoor
