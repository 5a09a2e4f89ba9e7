/- A pack's head with one of its first eight bytes turned is none. -/
import Derived.Test.YtohdpnoinfnmiaaGreatDoorA2
namespace Go.Proofs.YtohdpnoinfnmiaaGreatDoor
/-- What a byte becomes under a mask. -/
def xb (x b : Int) : Int := bits .xor .u8 x b
theorem of_range (p : Int → Bool) (h : ∀ i : Fin 256, i.val ≠ 0 → p (i.val : Int) = true) (b : Int) (h0 : 0 ≤ b) (h1 : b ≤ 255) (h2 : b ≠ 0) : p b = true := by
  have := h ⟨b.toNat, by omega⟩ (by show b.toNat ≠ 0; omega)
  simpa [show ((b.toNat : Nat) : Int) = b from by omega] using this
theorem hd_x0 : ∀ i : Fin 256, i.val ≠ 0 → (!((strOfNums [xb 80 i.val, 65, 67, 75]).toList == (strOfNums [80, 65, 67, 75]).toList)) = true := by decide +kernel
theorem hd_x1 : ∀ i : Fin 256, i.val ≠ 0 → (!((strOfNums [80, xb 65 i.val, 67, 75]).toList == (strOfNums [80, 65, 67, 75]).toList)) = true := by decide +kernel
theorem hd_x2 : ∀ i : Fin 256, i.val ≠ 0 → (!((strOfNums [80, 65, xb 67 i.val, 75]).toList == (strOfNums [80, 65, 67, 75]).toList)) = true := by decide +kernel
theorem hd_x3 : ∀ i : Fin 256, i.val ≠ 0 → (!((strOfNums [80, 65, 67, xb 75 i.val]).toList == (strOfNums [80, 65, 67, 75]).toList)) = true := by decide +kernel
theorem hd_y0 : ∀ i : Fin 256, i.val ≠ 0 → (!(be4 (xb 0 i.val) 0 0 2 % 4294967296 == 2)) = true := by decide +kernel
theorem hd_y1 : ∀ i : Fin 256, i.val ≠ 0 → (!(be4 0 (xb 0 i.val) 0 2 % 4294967296 == 2)) = true := by decide +kernel
theorem hd_y2 : ∀ i : Fin 256, i.val ≠ 0 → (!(be4 0 0 (xb 0 i.val) 2 % 4294967296 == 2)) = true := by decide +kernel
theorem hd_y3 : ∀ i : Fin 256, i.val ≠ 0 → (!(be4 0 0 0 (xb 2 i.val) % 4294967296 == 2)) = true := by decide +kernel
theorem bad_of (r : List Int) (i : Nat) (hi : i < 8) (b : Int) (h0 : 0 ≤ b) (h1 : b ≤ 255) (h2 : b ≠ 0) :
   BadHead (((80 :: 65 :: 67 :: 75 :: 0 :: 0 :: 0 :: 2 :: r)).set i (xb (((80 :: 65 :: 67 :: 75 :: 0 :: 0 :: 0 :: 2 :: r) : List Int).getD i 0) b)) := by
  have hc : i = 0 ∨ i = 1 ∨ i = 2 ∨ i = 3 ∨ i = 4 ∨ i = 5 ∨ i = 6 ∨ i = 7 := by omega
  rcases hc with rfl | rfl | rfl | rfl | rfl | rfl | rfl | rfl
  · exact ⟨_, _, _, _, _, _, _, _, r, rfl, .inl (by simpa using of_range (fun b => !((strOfNums [xb 80 b, 65, 67, 75]).toList == (strOfNums [80, 65, 67, 75]).toList)) hd_x0 b h0 h1 h2)⟩
  · exact ⟨_, _, _, _, _, _, _, _, r, rfl, .inl (by simpa using of_range (fun b => !((strOfNums [80, xb 65 b, 67, 75]).toList == (strOfNums [80, 65, 67, 75]).toList)) hd_x1 b h0 h1 h2)⟩
  · exact ⟨_, _, _, _, _, _, _, _, r, rfl, .inl (by simpa using of_range (fun b => !((strOfNums [80, 65, xb 67 b, 75]).toList == (strOfNums [80, 65, 67, 75]).toList)) hd_x2 b h0 h1 h2)⟩
  · exact ⟨_, _, _, _, _, _, _, _, r, rfl, .inl (by simpa using of_range (fun b => !((strOfNums [80, 65, 67, xb 75 b]).toList == (strOfNums [80, 65, 67, 75]).toList)) hd_x3 b h0 h1 h2)⟩
  · exact ⟨_, _, _, _, _, _, _, _, r, rfl, .inr ⟨rfl, by simpa using of_range (fun b => !(be4 (xb 0 b) 0 0 2 % 4294967296 == 2)) hd_y0 b h0 h1 h2⟩⟩
  · exact ⟨_, _, _, _, _, _, _, _, r, rfl, .inr ⟨rfl, by simpa using of_range (fun b => !(be4 0 (xb 0 b) 0 2 % 4294967296 == 2)) hd_y1 b h0 h1 h2⟩⟩
  · exact ⟨_, _, _, _, _, _, _, _, r, rfl, .inr ⟨rfl, by simpa using of_range (fun b => !(be4 0 0 (xb 0 b) 2 % 4294967296 == 2)) hd_y2 b h0 h1 h2⟩⟩
  · exact ⟨_, _, _, _, _, _, _, _, r, rfl, .inr ⟨rfl, by simpa using of_range (fun b => !(be4 0 0 0 (xb 2 b) % 4294967296 == 2)) hd_y3 b h0 h1 h2⟩⟩
end Go.Proofs.YtohdpnoinfnmiaaGreatDoor
