-- PRINTED BY print.sh 35421559b90ae4d0a3588c463048766b98c2df88dd9212a6774a882060cdf62d: not written by this session
import Derived.Test.YtohdpnoinfnmiaaGreatDoorProg
import Derived.Below
import Derived.Deep.Draws
import Derived.Deep.AppendLies
import Derived.Maps.AppendAt
import Derived.OwnWalk
import Derived.Laws.BytesArg
import Derived.Laws.MakeOwn
import Derived.Laws.OwnMore
import Derived.Deep.OwnRows
import Derived.Tactics
import Derived.Lib.ConvBytes
import Derived.Laws.Slices
import Derived.WalkKit
import Derived.KernelRfl
import Derived.RowKit3
import Derived.Deep.LoopGhost
import Derived.Deep.QuietTactic
import Derived.BigQuiet
import Derived.WideLaws
import Derived.Deep.DeepCutAuto
import Derived.Deep.CutBlock
import Derived.Deep.RegionHeld3
import Derived.Laws.Rows
import Derived.Lib.AppendStr
import Derived.ArgAppend
import Derived.Laws.IdiomCopy
import Derived.OrdersHeld
import Derived.Laws.BitsLemmas
import Derived.RowKit
import Derived.Test.YtohdpnoinfnmiaaGreatDoorWWords
import Derived.Test.YtohdpnoinfnmiaaGreatDoorWLast
import Derived.Test.YtohdpnoinfnmiaaGreatDoorWTab
import Derived.Test.YtohdpnoinfnmiaaGreatDoorWFour
import Derived.Test.YtohdpnoinfnmiaaGreatDoorWQPut
import Derived.Test.YtohdpnoinfnmiaaGreatDoorWApart
import Derived.Test.YtohdpnoinfnmiaaGreatDoorWArr
import Derived.Test.YtohdpnoinfnmiaaGreatDoorWZeros
import Derived.Test.YtohdpnoinfnmiaaGreatDoorWFoot
import Derived.Test.YtohdpnoinfnmiaaGreatDoorWKept
import Derived.Test.YtohdpnoinfnmiaaGreatDoorWShare
import Derived.Test.YtohdpnoinfnmiaaGreatDoorWN
import Derived.Test.YtohdpnoinfnmiaaGreatDoorWFootNe
import Derived.Test.YtohdpnoinfnmiaaGreatDoorWAt
import Derived.Test.YtohdpnoinfnmiaaGreatDoorWEqStruct
import Derived.Test.YtohdpnoinfnmiaaGreatDoorWRepsOne
import Derived.Test.YtohdpnoinfnmiaaGreatDoorWInv
import Derived.Test.YtohdpnoinfnmiaaGreatDoorWInvWords
import Derived.Test.YtohdpnoinfnmiaaGreatDoorWGuard
import Derived.Test.YtohdpnoinfnmiaaGreatDoorWNEv
import Derived.Test.YtohdpnoinfnmiaaGreatDoorWMore
namespace Go.Proofs.YtohdpnoinfnmiaaGreatDoor.PFnPackOther
open Go.RowKit Go.Proofs.YtohdpnoinfnmiaaGreatDoorW.PrintWords Go.Proofs.YtohdpnoinfnmiaaGreatDoorW.PrintLast Go.Proofs.YtohdpnoinfnmiaaGreatDoorW.PrintMore
attribute [local go_sem] max2_int min2_int max_two min_two max_three min_three max_four min_four   -- for this text's walks alone
set_option linter.unusedVariables false
set_option linter.unusedSimpArgs false



def errW : Option Int → Value
  | none => .nilIface
  | some c => .iface 0 (.int .i64 c)
theorem errW_none : errW none = .nilIface := rfl
theorem errW_some (c : Int) : errW (some c) = .iface 0 (.int .i64 c) := rfl

theorem info5 : (Tryz.prog.info? 5).map (fun i => (i.zero, i.size, i.bytes)) = some (some (.int .u8 0), 1, 1) := by kernel_rfl
theorem info9 : (Tryz.prog.info? 9).map (fun i => (i.zero, i.size, i.bytes)) = some (some (.string ⟨#[]⟩), 1, 16) := by kernel_rfl
-- the values' own types
def rd_L3 (xs : List (List Int)) (i : Int) : (List Int) := xs.getD i.toNat ([] : List Int)
theorem at_L3 {w : World} {A : Option Addr} {n : Nat} {xs : List (List Int)} (h : Kd.C (Kd.slice 5 (Kd.int .u8)) w A n xs) (i : Int) (h0 : 0 ≤ i) (h1 : i < n) : ∃ ad A0 c0, A = some ad ∧ w.cell? (ad.add i.toNat) = some (.slice A0 (rd_L3 xs i).length c0) ∧ (rd_L3 xs i).length ≤ c0 ∧ (Kd.int .u8).C w A0 (rd_L3 xs i).length (rd_L3 xs i) := by
  obtain ⟨ad, c, e, _, hK, hc0⟩ := Kd.C_get h ([] : List Int) i h0 h1
  have hc : ∀ j u, c[j]? = some u → w.cell? (ad.add (i.toNat * 1 + j)) = some u := hc0
  obtain ⟨A0, c0, rfl, l0, g0⟩ := hK
  exact ⟨ad, A0, c0, e, by have hq := hc 0 _ rfl; rwa [Nat.mul_one, Nat.add_zero] at hq, l0, g0⟩

/-! #### struct type 105 -/
structure S105 where
  f0 : Bool
  f1 : Int
  f2 : Int
  f3 : (List Int)
  f4 : Int
def z105 : S105 := ⟨false, (0 : Int), (0 : Int), ([] : List Int), (0 : Int)⟩
def k105 : Kd S105 := Kd.iso (Kd.pair Kd.bool (Kd.pair (Kd.int .i64) (Kd.pair (Kd.int .i64) (Kd.pair (Kd.slice 5 (Kd.int .u8)) (Kd.int .i64))))) (fun x : S105 => (x.f0, x.f1, x.f2, x.f3, x.f4))
theorem k105_heap : Kd.Heap k105 := Kd.heap_iso _ (Kd.heap_pair Kd.heap_bool (Kd.heap_pair (Kd.heap_int .i64) (Kd.heap_pair (Kd.heap_int .i64) (Kd.heap_pair (Kd.heap_slice 5 (Kd.heap_int .u8)) (Kd.heap_int .i64)))))
theorem k105_open {w : World} {x : S105} {cs : List Value} (h : k105.K w x cs) : ∃ A3 c3, cs = [.bool x.f0, .int .i64 x.f1, .int .i64 x.f2, .slice A3 x.f3.length c3, .int .i64 x.f4] ∧ x.f3.length ≤ c3 ∧ (Kd.int .u8).C w A3 x.f3.length x.f3 := by
  obtain ⟨_, _, rfl, rfl, ⟨_, _, rfl, rfl, ⟨_, _, rfl, rfl, ⟨_, _, rfl, ⟨A3, c3, rfl, l3, g3⟩, rfl⟩⟩⟩⟩ := h
  exact ⟨A3, c3, rfl, l3, g3⟩
theorem k105_openM {w : World} {base : Nat} {ok : Nat → Prop} {x : S105} {cs : List Value} (h : k105.M w base ok x cs) : ∃ v3, cs = [.bool x.f0, .int .i64 x.f1, .int .i64 x.f2, v3, .int .i64 x.f4] ∧ (Kd.int .u8).R 5 w base ok v3 x.f3 := by
  obtain ⟨_, _, rfl, rfl, ⟨_, _, rfl, rfl, ⟨_, _, rfl, rfl, ⟨_, _, rfl, ⟨v3, rfl, g3⟩, rfl⟩⟩⟩⟩ := h
  exact ⟨v3, rfl, g3⟩
theorem k105_mk (w : World) (x : S105) {A3 : Option Addr} {c3 : Nat} (l3 : x.f3.length ≤ c3) (g3 : (Kd.int .u8).C w A3 x.f3.length x.f3) : k105.K w x [.bool x.f0, .int .i64 x.f1, .int .i64 x.f2, .slice A3 x.f3.length c3, .int .i64 x.f4] := ⟨[.bool x.f0], [.int .i64 x.f1, .int .i64 x.f2, .slice A3 x.f3.length c3, .int .i64 x.f4], rfl, rfl, ⟨[.int .i64 x.f1], [.int .i64 x.f2, .slice A3 x.f3.length c3, .int .i64 x.f4], rfl, rfl, ⟨[.int .i64 x.f2], [.slice A3 x.f3.length c3, .int .i64 x.f4], rfl, rfl, ⟨[.slice A3 x.f3.length c3], [.int .i64 x.f4], rfl, ⟨A3, c3, rfl, l3, g3⟩, rfl⟩⟩⟩⟩
theorem k105_mkM (w : World) (base : Nat) (ok : Nat → Prop) (x : S105) {v3 : Value} (g3 : (Kd.int .u8).R 5 w base ok v3 x.f3) : k105.M w base ok x [.bool x.f0, .int .i64 x.f1, .int .i64 x.f2, v3, .int .i64 x.f4] := ⟨[.bool x.f0], [.int .i64 x.f1, .int .i64 x.f2, v3, .int .i64 x.f4], rfl, rfl, ⟨[.int .i64 x.f1], [.int .i64 x.f2, v3, .int .i64 x.f4], rfl, rfl, ⟨[.int .i64 x.f2], [v3, .int .i64 x.f4], rfl, rfl, ⟨[v3], [.int .i64 x.f4], rfl, ⟨v3, rfl, g3⟩, rfl⟩⟩⟩⟩
theorem k105_openF {W : World} {ok : Nat → Prop} {x : S105} {cs : List Value} (h : Kd.FK k105 W ok x cs) : ∃ A3 c3, cs = [.bool x.f0, .int .i64 x.f1, .int .i64 x.f2, .slice A3 x.f3.length c3, .int .i64 x.f4] ∧ x.f3.length ≤ c3 ∧ Kd.F (Kd.int .u8) W ok A3 x.f3.length x.f3 := by
  obtain ⟨A3, c3, rfl, l3, _⟩ := k105_open (Kd.FK_now h)
  exact ⟨A3, c3, rfl, l3, (fun W' hW => by obtain ⟨A3_, c3_, he, l3_, g3_⟩ := k105_open (h W' hW); injection (Option.some.inj (show some (Value.slice A3 x.f3.length c3) = some (Value.slice A3_ x.f3.length c3_) from congrArg (fun l => l[3]?) he)) with ha_ _ _; rw [ha_]; exact g3_)⟩
theorem k105_mkF (W : World) (ok : Nat → Prop) (x : S105) {A3 : Option Addr} {c3 : Nat} (l3 : x.f3.length ≤ c3) (g3 : Kd.F (Kd.int .u8) W ok A3 x.f3.length x.f3) : Kd.FK k105 W ok x [.bool x.f0, .int .i64 x.f1, .int .i64 x.f2, .slice A3 x.f3.length c3, .int .i64 x.f4] := fun W2 hW => k105_mk W2 x l3 (g3 W2 hW)
def rd_T105 (xs : List S105) (i : Int) : S105 := xs.getD i.toNat z105
theorem at_T105 {w : World} {A : Option Addr} {n : Nat} {xs : List S105} (h : Kd.C k105 w A n xs) (i : Int) (h0 : 0 ≤ i) (h1 : i < n) : ∃ ad A3 c3, A = some ad ∧ w.cell? (ad.add (i.toNat * 5)) = some (.bool (rd_T105 xs i).f0) ∧ w.cell? ⟨(ad.add (i.toNat * 5)).block, (ad.add (i.toNat * 5)).off + 1, none⟩ = some (.int .i64 (rd_T105 xs i).f1) ∧ w.cell? ⟨(ad.add (i.toNat * 5)).block, (ad.add (i.toNat * 5)).off + 2, none⟩ = some (.int .i64 (rd_T105 xs i).f2) ∧ w.cell? ⟨(ad.add (i.toNat * 5)).block, (ad.add (i.toNat * 5)).off + 3, none⟩ = some (.slice A3 (rd_T105 xs i).f3.length c3) ∧ w.cell? ⟨(ad.add (i.toNat * 5)).block, (ad.add (i.toNat * 5)).off + 4, none⟩ = some (.int .i64 (rd_T105 xs i).f4) ∧ (rd_T105 xs i).f3.length ≤ c3 ∧ (Kd.int .u8).C w A3 (rd_T105 xs i).f3.length (rd_T105 xs i).f3 := by
  obtain ⟨ad, c, e, _, hK, hc0⟩ := Kd.C_get h z105 i h0 h1
  have hc : ∀ j u, c[j]? = some u → w.cell? (ad.add (i.toNat * 5 + j)) = some u := hc0
  obtain ⟨A3, c3, rfl, l3, g3⟩ := k105_open hK
  exact ⟨ad, A3, c3, e, hc 0 _ rfl, by rw [← add_field _ _ 1 (by omega)]; exact hc 1 _ rfl, by rw [← add_field _ _ 2 (by omega)]; exact hc 2 _ rfl, by rw [← add_field _ _ 3 (by omega)]; exact hc 3 _ rfl, by rw [← add_field _ _ 4 (by omega)]; exact hc 4 _ rfl, l3, g3⟩

def rd_L5 (xs : List (List S105)) (i : Int) : (List S105) := xs.getD i.toNat ([] : List S105)
theorem at_L5 {w : World} {A : Option Addr} {n : Nat} {xs : List (List S105)} (h : Kd.C (Kd.slice 105 k105) w A n xs) (i : Int) (h0 : 0 ≤ i) (h1 : i < n) : ∃ ad A0 c0, A = some ad ∧ w.cell? (ad.add i.toNat) = some (.slice A0 (rd_L5 xs i).length c0) ∧ (rd_L5 xs i).length ≤ c0 ∧ k105.C w A0 (rd_L5 xs i).length (rd_L5 xs i) := by
  obtain ⟨ad, c, e, _, hK, hc0⟩ := Kd.C_get h ([] : List S105) i h0 h1
  have hc : ∀ j u, c[j]? = some u → w.cell? (ad.add (i.toNat * 1 + j)) = some u := hc0
  obtain ⟨A0, c0, rfl, l0, g0⟩ := hK
  exact ⟨ad, A0, c0, e, by have hq := hc 0 _ rfl; rwa [Nat.mul_one, Nat.add_zero] at hq, l0, g0⟩

/-! #### struct type 39 -/
structure S39 where
  f0 : Int
  f1 : (List Int)
  f2 : Int
  f3 : (List S105)
def z39 : S39 := ⟨(0 : Int), ([] : List Int), (0 : Int), ([] : List S105)⟩
def k39 : Kd S39 := Kd.iso (Kd.pair (Kd.int .i64) (Kd.pair (Kd.slice 5 (Kd.int .u8)) (Kd.pair (Kd.int .i64) (Kd.slice 105 k105)))) (fun x : S39 => (x.f0, x.f1, x.f2, x.f3))
theorem k39_heap : Kd.Heap k39 := Kd.heap_iso _ (Kd.heap_pair (Kd.heap_int .i64) (Kd.heap_pair (Kd.heap_slice 5 (Kd.heap_int .u8)) (Kd.heap_pair (Kd.heap_int .i64) (Kd.heap_slice 105 k105_heap))))
theorem k39_open {w : World} {x : S39} {cs : List Value} (h : k39.K w x cs) : ∃ A1 c1 A3 c3, cs = [.int .i64 x.f0, .slice A1 x.f1.length c1, .int .i64 x.f2, .slice A3 x.f3.length c3] ∧ x.f1.length ≤ c1 ∧ (Kd.int .u8).C w A1 x.f1.length x.f1 ∧ x.f3.length ≤ c3 ∧ k105.C w A3 x.f3.length x.f3 := by
  obtain ⟨_, _, rfl, rfl, ⟨_, _, rfl, ⟨A1, c1, rfl, l1, g1⟩, ⟨_, _, rfl, rfl, ⟨A3, c3, rfl, l3, g3⟩⟩⟩⟩ := h
  exact ⟨A1, c1, A3, c3, rfl, l1, g1, l3, g3⟩
theorem k39_openM {w : World} {base : Nat} {ok : Nat → Prop} {x : S39} {cs : List Value} (h : k39.M w base ok x cs) : ∃ v1 v3, cs = [.int .i64 x.f0, v1, .int .i64 x.f2, v3] ∧ (Kd.int .u8).R 5 w base ok v1 x.f1 ∧ k105.R 105 w base ok v3 x.f3 := by
  obtain ⟨_, _, rfl, rfl, ⟨_, _, rfl, ⟨v1, rfl, g1⟩, ⟨_, _, rfl, rfl, ⟨v3, rfl, g3⟩⟩⟩⟩ := h
  exact ⟨v1, v3, rfl, g1, g3⟩
theorem k39_mk (w : World) (x : S39) {A1 : Option Addr} {c1 : Nat} (l1 : x.f1.length ≤ c1) (g1 : (Kd.int .u8).C w A1 x.f1.length x.f1) {A3 : Option Addr} {c3 : Nat} (l3 : x.f3.length ≤ c3) (g3 : k105.C w A3 x.f3.length x.f3) : k39.K w x [.int .i64 x.f0, .slice A1 x.f1.length c1, .int .i64 x.f2, .slice A3 x.f3.length c3] := ⟨[.int .i64 x.f0], [.slice A1 x.f1.length c1, .int .i64 x.f2, .slice A3 x.f3.length c3], rfl, rfl, ⟨[.slice A1 x.f1.length c1], [.int .i64 x.f2, .slice A3 x.f3.length c3], rfl, ⟨A1, c1, rfl, l1, g1⟩, ⟨[.int .i64 x.f2], [.slice A3 x.f3.length c3], rfl, rfl, ⟨A3, c3, rfl, l3, g3⟩⟩⟩⟩
theorem k39_mkM (w : World) (base : Nat) (ok : Nat → Prop) (x : S39) {v1 : Value} (g1 : (Kd.int .u8).R 5 w base ok v1 x.f1) {v3 : Value} (g3 : k105.R 105 w base ok v3 x.f3) : k39.M w base ok x [.int .i64 x.f0, v1, .int .i64 x.f2, v3] := ⟨[.int .i64 x.f0], [v1, .int .i64 x.f2, v3], rfl, rfl, ⟨[v1], [.int .i64 x.f2, v3], rfl, ⟨v1, rfl, g1⟩, ⟨[.int .i64 x.f2], [v3], rfl, rfl, ⟨v3, rfl, g3⟩⟩⟩⟩
theorem k39_openF {W : World} {ok : Nat → Prop} {x : S39} {cs : List Value} (h : Kd.FK k39 W ok x cs) : ∃ A1 c1 A3 c3, cs = [.int .i64 x.f0, .slice A1 x.f1.length c1, .int .i64 x.f2, .slice A3 x.f3.length c3] ∧ x.f1.length ≤ c1 ∧ Kd.F (Kd.int .u8) W ok A1 x.f1.length x.f1 ∧ x.f3.length ≤ c3 ∧ Kd.F k105 W ok A3 x.f3.length x.f3 := by
  obtain ⟨A1, c1, A3, c3, rfl, l1, _, l3, _⟩ := k39_open (Kd.FK_now h)
  exact ⟨A1, c1, A3, c3, rfl, l1, (fun W' hW => by obtain ⟨A1_, c1_, A3_, c3_, he, l1_, g1_, l3_, g3_⟩ := k39_open (h W' hW); injection (Option.some.inj (show some (Value.slice A1 x.f1.length c1) = some (Value.slice A1_ x.f1.length c1_) from congrArg (fun l => l[1]?) he)) with ha_ _ _; rw [ha_]; exact g1_), l3, (fun W' hW => by obtain ⟨A1_, c1_, A3_, c3_, he, l1_, g1_, l3_, g3_⟩ := k39_open (h W' hW); injection (Option.some.inj (show some (Value.slice A3 x.f3.length c3) = some (Value.slice A3_ x.f3.length c3_) from congrArg (fun l => l[3]?) he)) with ha_ _ _; rw [ha_]; exact g3_)⟩
theorem k39_mkF (W : World) (ok : Nat → Prop) (x : S39) {A1 : Option Addr} {c1 : Nat} (l1 : x.f1.length ≤ c1) (g1 : Kd.F (Kd.int .u8) W ok A1 x.f1.length x.f1) {A3 : Option Addr} {c3 : Nat} (l3 : x.f3.length ≤ c3) (g3 : Kd.F k105 W ok A3 x.f3.length x.f3) : Kd.FK k39 W ok x [.int .i64 x.f0, .slice A1 x.f1.length c1, .int .i64 x.f2, .slice A3 x.f3.length c3] := fun W2 hW => k39_mk W2 x l1 (g1 W2 hW) l3 (g3 W2 hW)
def rd_T39 (xs : List S39) (i : Int) : S39 := xs.getD i.toNat z39
theorem at_T39 {w : World} {A : Option Addr} {n : Nat} {xs : List S39} (h : Kd.C k39 w A n xs) (i : Int) (h0 : 0 ≤ i) (h1 : i < n) : ∃ ad A1 c1 A3 c3, A = some ad ∧ w.cell? (ad.add (i.toNat * 4)) = some (.int .i64 (rd_T39 xs i).f0) ∧ w.cell? ⟨(ad.add (i.toNat * 4)).block, (ad.add (i.toNat * 4)).off + 1, none⟩ = some (.slice A1 (rd_T39 xs i).f1.length c1) ∧ w.cell? ⟨(ad.add (i.toNat * 4)).block, (ad.add (i.toNat * 4)).off + 2, none⟩ = some (.int .i64 (rd_T39 xs i).f2) ∧ w.cell? ⟨(ad.add (i.toNat * 4)).block, (ad.add (i.toNat * 4)).off + 3, none⟩ = some (.slice A3 (rd_T39 xs i).f3.length c3) ∧ (rd_T39 xs i).f1.length ≤ c1 ∧ (Kd.int .u8).C w A1 (rd_T39 xs i).f1.length (rd_T39 xs i).f1 ∧ (rd_T39 xs i).f3.length ≤ c3 ∧ k105.C w A3 (rd_T39 xs i).f3.length (rd_T39 xs i).f3 := by
  obtain ⟨ad, c, e, _, hK, hc0⟩ := Kd.C_get h z39 i h0 h1
  have hc : ∀ j u, c[j]? = some u → w.cell? (ad.add (i.toNat * 4 + j)) = some u := hc0
  obtain ⟨A1, c1, A3, c3, rfl, l1, g1, l3, g3⟩ := k39_open hK
  exact ⟨ad, A1, c1, A3, c3, e, hc 0 _ rfl, by rw [← add_field _ _ 1 (by omega)]; exact hc 1 _ rfl, by rw [← add_field _ _ 2 (by omega)]; exact hc 2 _ rfl, by rw [← add_field _ _ 3 (by omega)]; exact hc 3 _ rfl, l1, g1, l3, g3⟩

end Go.Proofs.YtohdpnoinfnmiaaGreatDoor.PFnPackOther
