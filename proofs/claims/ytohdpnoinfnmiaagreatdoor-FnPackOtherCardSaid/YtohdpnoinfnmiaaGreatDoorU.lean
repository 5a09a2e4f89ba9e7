/- The frame of a call that writes only the blocks of a list: 'Upd L w w'', with its laws; and the cells of a block that is known whole. No program in it. -/
import Derived.Below
import Derived.Deep.Draws
import Derived.OwnWalk
import Derived.WalkKit
namespace Go.Proofs.YtohdpnoinfnmiaaGreatDoor.U
open Go.RowKit

/-- Every block that was there, but for those of the list, is as it was. -/
structure Upd (L : List Nat) (w w' : World) : Prop where
  os : w'.os = w.os
  tape : w'.tape = w.tape
  output : w'.output = w.output
  size : w.heap.size ≤ w'.heap.size
  block : ∀ i, i < w.heap.size → i ∉ L → w'.heap[i]? = w.heap[i]?

theorem lt_of_blk {w : World} {g : Nat} {o : Obj} (h : w.heap[g]? = some o) : g < w.heap.size := (Array.getElem?_eq_some_iff.1 h).1

namespace Upd
theorem refl (L : List Nat) (w : World) : Upd L w w := ⟨rfl, rfl, rfl, Nat.le_refl _, fun _ _ _ => rfl⟩
theorem trans {L : List Nat} {a b c : World} (h : Upd L a b) (k : Upd L b c) : Upd L a c :=
  ⟨k.os.trans h.os, k.tape.trans h.tape, k.output.trans h.output, Nat.le_trans h.size k.size, fun i hi hn => (k.block i (Nat.lt_of_lt_of_le hi h.size) hn).trans (h.block i hi hn)⟩
/-- A second step whose blocks are of the first's list, or new. -/
theorem andThen {L M : List Nat} {a b c : World} (h : Upd L a b) (k : Upd M b c) (hM : ∀ g, g ∈ M → g ∈ L ∨ a.heap.size ≤ g) : Upd L a c :=
  ⟨k.os.trans h.os, k.tape.trans h.tape, k.output.trans h.output, Nat.le_trans h.size k.size, fun i hi hn =>
    (k.block i (Nat.lt_of_lt_of_le hi h.size) (fun hm => by rcases hM i hm with h1 | h1 <;> first | exact hn h1 | omega)).trans (h.block i hi hn)⟩
theorem mono {L M : List Nat} {a b : World} (h : Upd L a b) (hM : ∀ g, g ∈ L → g ∈ M ∨ a.heap.size ≤ g) : Upd M a b :=
  ⟨h.os, h.tape, h.output, h.size, fun i hi hn => h.block i hi (fun hm => by rcases hM i hm with h1 | h1 <;> first | exact hn h1 | omega)⟩
theorem of_below {w w' : World} (h : Below w.heap.size w w') (L : List Nat) : Upd L w w' := ⟨h.os, h.tape, h.output, h.size, fun i hi _ => h.block i hi⟩
theorem below {B : Nat} {L : List Nat} {w0 w w' : World} (hb : Below B w0 w) (h : Upd L w w') (hL : ∀ g, g ∈ L → B ≤ g) (hB : B ≤ w.heap.size) : Below B w0 w' :=
  hb.trans ⟨h.os, h.tape, h.output, h.size, fun i hi => h.block i (by omega) (fun hm => by have := hL i hm; omega)⟩
theorem to_below {w w' : World} (h : Upd [] w w') : Below w.heap.size w w' := ⟨h.os, h.tape, h.output, h.size, fun i hi => h.block i hi (by simp)⟩
theorem keep {L : List Nat} {w w' : World} {g : Nat} {o : Obj} (h : Upd L w w') (hg : w.heap[g]? = some o) (hn : g ∉ L) : w'.heap[g]? = some o := (h.block g (lt_of_blk hg) hn).trans hg
theorem alloc {L : List Nat} {a w : World} (h : Upd L a w) (o : Obj) : Upd L a (w.alloc o) :=
  h.trans ⟨rfl, rfl, rfl, by simp, fun k hk _ => Below.heap_alloc _ _ _ hk⟩
theorem setCell {L : List Nat} {a w : World} (h : Upd L a w) {p : Addr} (hp : p.block ∈ L ∨ a.heap.size ≤ p.block) (u : Value) : Upd L a (w.setCell p u) :=
  ⟨h.os, h.tape, h.output, by simp [World.setCell, h.size], fun i hi hn => (Below.heap_setCell w p u i (fun e => by subst e; rcases hp with h1 | h1 <;> first | exact hn h1 | omega)).trans (h.block i hi hn)⟩
theorem drew {L : List Nat} {a w : World} (h : Upd L a w) : Upd L a w.drew := ⟨h.os, h.tape, h.output, h.size, h.block⟩
theorem drewN {L : List Nat} {a w : World} (h : Upd L a w) (n : Nat) : Upd L a (w.drewN n) := ⟨h.os, h.tape, h.output, h.size, h.block⟩
theorem grown {L : List Nat} {a w w' : World} {row : Option Nat} (h : Upd L a w) (hg : w.grownBy w' row) (hr : ∀ k, row = some k → k ∈ L ∨ a.heap.size ≤ k) : Upd L a w' :=
  ⟨hg.os.trans h.os, hg.tape.trans h.tape, hg.output.trans h.output, Nat.le_trans h.size hg.size, fun i hi hn =>
    (hg.block i (Nat.lt_of_lt_of_le hi h.size) (fun e => by rcases hr i e.symm with h1 | h1 <;> first | exact hn h1 | omega)).trans (h.block i hi hn)⟩
end Upd

/-! ### a block that is known whole -/
theorem blk_cells {w : World} {g : Nat} {t : TypeId} {cs : Array Value} (h : w.heap[g]? = some (.cells cs t (0, 0))) : ∀ i, w.cell? ⟨g, i, none⟩ = cs[i]? := fun i => cell_of_row w g i cs t (0, 0) h
theorem blk_free {w : World} {g : Nat} {t : TypeId} {cs : Array Value} (h : w.heap[g]? = some (.cells cs t (0, 0))) : ∀ i, w.frozen? ⟨g, i, none⟩ = false := fun i => by simp [World.frozen?, h]
theorem blk_set {w : World} {g : Nat} {t : TypeId} {cs : Array Value} (h : w.heap[g]? = some (.cells cs t (0, 0))) (i : Nat) (u : Value) : (w.setCell ⟨g, i, none⟩ u).heap[g]? = some (.cells (cs.setIfInBounds i u) t (0, 0)) := by
  simp [World.setCell, Array.getElem?_modify, h]
theorem blk_far {w : World} {g : Nat} {o : Obj} (h : w.heap[g]? = some o) {p : Addr} (hp : g ≠ p.block) (u : Value) : (w.setCell p u).heap[g]? = some o := (Below.heap_setCell w p u g hp).trans h
theorem blk_old {w : World} {g : Nat} {o : Obj} (h : w.heap[g]? = some o) (o' : Obj) : (w.alloc o').heap[g]? = some o := (Below.heap_alloc w o' g (lt_of_blk h)).trans h
theorem blk_new (w : World) (o : Obj) : (w.alloc o).heap[w.heap.size]? = some o := heap_alloc_new w o
theorem blk_below {w w' : World} {g : Nat} {o : Obj} (hb : Below w.heap.size w w') (h : w.heap[g]? = some o) : w'.heap[g]? = some o := (hb.block g (lt_of_blk h)).trans h
theorem blk_grown {w w1 : World} {g : Nat} {o : Obj} {row : Option Nat} (h : w.heap[g]? = some o) (hg : w.grownBy w1 row) (hne : some g ≠ row) : w1.heap[g]? = some o := (hg.block g (lt_of_blk h) hne).trans h
theorem size_setCell (w : World) (p : Addr) (u : Value) : (w.setCell p u).heap.size = w.heap.size := by simp [World.setCell]
theorem blk_ne {w : World} {g g' : Nat} {t t' : TypeId} {cs cs' : Array Value} {f f' : Nat × Nat} (h : w.heap[g]? = some (.cells cs t f)) (h' : w.heap[g']? = some (.cells cs' t' f')) (hne : t ≠ t') : g ≠ g' := by
  rintro rfl
  rw [h] at h'
  injection h' with h'
  injection h' with _ ht
  exact hne ht
theorem Upd.keep1 {w w' : World} {g x : Nat} {o : Obj} (h : Upd [x] w w') (hg : w.heap[g]? = some o) (hne : g ≠ x) : w'.heap[g]? = some o := h.keep hg (by simpa using hne)
theorem Upd.keepT {w w' : World} {g x : Nat} {t tx : TypeId} {cs cx : Array Value} {f fx : Nat × Nat} (h : Upd [x] w w') (hx : w.heap[x]? = some (.cells cx tx fx)) (hg : w.heap[g]? = some (.cells cs t f)) (hne : t ≠ tx) : w'.heap[g]? = some (.cells cs t f) := h.keep1 hg (blk_ne hg hx hne)
/-- A whole block written anew by stores into it: the world behind is a variable. -/
theorem set_open {w : World} {g : Nat} {t : TypeId} {cs : Array Value} (h : w.heap[g]? = some (.cells cs t (0, 0))) (i : Nat) (u : Value) : (w.setCell ⟨g, i, none⟩ u).heap[g]? = some (.cells (cs.setIfInBounds i u) t (0, 0)) ∧ Upd [g] w (w.setCell ⟨g, i, none⟩ u) :=
  ⟨blk_set h i u, (Upd.refl _ _).setCell (.inl (by simp)) _⟩
end Go.Proofs.YtohdpnoinfnmiaaGreatDoor.U
