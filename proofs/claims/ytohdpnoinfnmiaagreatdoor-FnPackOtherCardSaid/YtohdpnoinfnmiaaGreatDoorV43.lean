/- A world for the witness of laws.FnPackOther: what the package's initialisers lay. -/
import Derived.Test.YtohdpnoinfnmiaaGreatDoorCards
import Derived.WalkKit
import Derived.ProofKit
import Derived.OpenShut
import Derived.OpenVars
import Derived.MakeChecks
import Derived.LaidSub
import Derived.Below
import Derived.Deep.DeepHandedRow
import Derived.Deep.DeepWitnessRowRef
namespace Go.Proofs.YtohdpnoinfnmiaaGreatDoor.fnPackOther
open Go.ChangeShapes Go.WideShapes Go.ChangeAt Go.RowKit
/-- A world for the witness: what the initialisers lay. -/
def put (g : Nat) (cs : Array Value) (h : Array Obj) : Array Obj := h.modify g fun
  | .cells _ t frozen => .cells cs t frozen
  | o => o
noncomputable def laidWorld (os : Os) : World :=
  let N := (World.settled Tryz.prog os).heap.size
  let w0 := World.holding Tryz.prog os ⟨#[
    .cells #[.string ⟨#[115, 104, 111, 114, 116, 32, 119, 114, 105, 116, 101]⟩] 274,
    .cells #[.string ⟨#[105, 110, 118, 97, 108, 105, 100, 32, 119, 114, 105, 116, 101, 32, 114, 101, 115, 117, 108, 116]⟩] 274,
    .cells #[.string ⟨#[115, 104, 111, 114, 116, 32, 98, 117, 102, 102, 101, 114]⟩] 274,
    .cells #[.string ⟨#[69, 79, 70]⟩] 274,
    .cells #[.string ⟨#[117, 110, 101, 120, 112, 101, 99, 116, 101, 100, 32, 69, 79, 70]⟩] 274,
    .cells #[.string ⟨#[109, 117, 108, 116, 105, 112, 108, 101, 32, 82, 101, 97, 100, 32, 99, 97, 108, 108, 115, 32, 114, 101, 116, 117, 114, 110, 32, 110, 111, 32, 100, 97, 116, 97, 32, 111, 114, 32, 101, 114, 114, 111, 114]⟩] 274,
    .cells #[.string ⟨#[83, 101, 101, 107, 58, 32, 105, 110, 118, 97, 108, 105, 100, 32, 119, 104, 101, 110, 99, 101]⟩] 274,
    .cells #[.string ⟨#[83, 101, 101, 107, 58, 32, 105, 110, 118, 97, 108, 105, 100, 32, 111, 102, 102, 115, 101, 116]⟩] 274,
    .cells #[.string ⟨#[98, 121, 116, 101, 115, 46, 66, 117, 102, 102, 101, 114, 58, 32, 116, 111, 111, 32, 108, 97, 114, 103, 101]⟩] 274,
    .cells #[.string ⟨#[98, 121, 116, 101, 115, 46, 66, 117, 102, 102, 101, 114, 58, 32, 114, 101, 97, 100, 101, 114, 32, 114, 101, 116, 117, 114, 110, 101, 100, 32, 110, 101, 103, 97, 116, 105, 118, 101, 32, 99, 111, 117, 110, 116, 32, 102, 114, 111, 109, 32, 82, 101, 97, 100]⟩] 274,
    .cells #[.string ⟨#[98, 117, 102, 105, 111, 58, 32, 114, 101, 97, 100, 101, 114, 32, 114, 101, 116, 117, 114, 110, 101, 100, 32, 110, 101, 103, 97, 116, 105, 118, 101, 32, 99, 111, 117, 110, 116, 32, 102, 114, 111, 109, 32, 82, 101, 97, 100]⟩] 274,
    .cells #[.string ⟨#[111, 98, 106, 101, 99, 116, 32, 110, 111, 116, 32, 102, 111, 117, 110, 100]⟩] 274,
    .cells #[.string ⟨#[118, 97, 114, 105, 97, 98, 108, 101, 45, 119, 105, 100, 116, 104, 32, 105, 110, 116, 101, 103, 101, 114, 32, 111, 118, 101, 114, 102, 108, 111, 119]⟩] 274,
    .cells #[.string ⟨#[122, 108, 105, 98, 58, 32, 105, 110, 118, 97, 108, 105, 100, 32, 100, 105, 99, 116, 105, 111, 110, 97, 114, 121]⟩] 274,
    .cells #[.string ⟨#[122, 108, 105, 98, 58, 32, 105, 110, 118, 97, 108, 105, 100, 32, 104, 101, 97, 100, 101, 114]⟩] 274,
    .cells #[.string ⟨#[114, 101, 102, 101, 114, 101, 110, 99, 101, 32, 100, 101, 108, 116, 97, 32, 110, 111, 116, 32, 102, 111, 117, 110, 100]⟩] 274,
    .cells #[.string ⟨#[112, 97, 114, 115, 101, 114, 32, 115, 111, 117, 114, 99, 101, 32, 105, 115, 32, 110, 111, 116, 32, 115, 101, 101, 107, 97, 98, 108, 101, 32, 97, 110, 100, 32, 115, 116, 111, 114, 97, 103, 101, 32, 119, 97, 115, 32, 110, 111, 116, 32, 112, 114, 111, 118, 105, 100, 101, 100]⟩] 274,
    .cells #[.string ⟨#[100, 101, 108, 116, 97, 32, 99, 111, 117, 108, 100, 32, 110, 111, 116, 32, 98, 101, 32, 102, 111, 117, 110, 100, 32, 105, 110, 32, 99, 97, 99, 104, 101]⟩] 274,
    .cells #[.string ⟨#[105, 110, 118, 97, 108, 105, 100, 32, 100, 101, 108, 116, 97]⟩] 274,
    .cells #[.string ⟨#[119, 114, 111, 110, 103, 32, 100, 101, 108, 116, 97, 32, 99, 111, 109, 109, 97, 110, 100]⟩] 274,
    .cells #[.int .u8 1, .int .u64 0, .int .u8 2, .int .u64 8, .int .u8 4, .int .u64 16, .int .u8 8, .int .u64 24] 310,
    .cells #[.int .u8 16, .int .u64 0, .int .u8 32, .int .u64 8, .int .u8 64, .int .u64 16] 310,
    .cells #[.string ⟨#[101, 109, 112, 116, 121, 32, 112, 97, 99, 107, 102, 105, 108, 101]⟩] 274,
    .cells #[.string ⟨#[109, 97, 108, 102, 111, 114, 109, 101, 100, 32, 112, 97, 99, 107, 32, 102, 105, 108, 101, 32, 115, 105, 103, 110, 97, 116, 117, 114, 101]⟩] 274,
    .cells #[.string ⟨#[117, 110, 115, 117, 112, 112, 111, 114, 116, 101, 100, 32, 112, 97, 99, 107, 102, 105, 108, 101, 32, 118, 101, 114, 115, 105, 111, 110]⟩] 274,
    .cells #[.string ⟨#[110, 111, 116, 32, 115, 101, 101, 107, 32, 115, 117, 112, 112, 111, 114, 116]⟩] 274,
    .cells #[.string ⟨#[109, 97, 108, 102, 111, 114, 109, 101, 100, 32, 80, 65, 67, 75, 32, 102, 105, 108, 101]⟩] 274,
    .cells #[.string ⟨#[118, 97, 114, 105, 97, 98, 108, 101, 45, 108, 101, 110, 103, 116, 104, 32, 105, 110, 116, 101, 103, 101, 114, 32, 111, 118, 101, 114, 102, 108, 111, 119]⟩] 274], #[], []⟩
  { w0 with heap := (put 14 #[.iface 272 (.pointer (some ⟨N + 27, 0, none⟩))]
    (put 4 #[.iface 272 (.pointer (some ⟨N + 26, 0, none⟩))]
    (put 6 #[.iface 272 (.pointer (some ⟨N + 25, 0, none⟩))]
    (put 3 #[.iface 272 (.pointer (some ⟨N + 24, 0, none⟩))]
    (put 2 #[.iface 272 (.pointer (some ⟨N + 23, 0, none⟩))]
    (put 1 #[.iface 272 (.pointer (some ⟨N + 22, 0, none⟩))]
    (put 16 #[.slice (some ⟨N + 21, 0, none⟩) 3 3]
    (put 15 #[.slice (some ⟨N + 20, 0, none⟩) 4 4]
    (put 10 #[.iface 272 (.pointer (some ⟨N + 19, 0, none⟩))]
    (put 5 #[.iface 272 (.pointer (some ⟨N + 18, 0, none⟩))]
    (put 21 #[.iface 272 (.pointer (some ⟨N + 17, 0, none⟩))]
    (put 7 #[.iface 272 (.pointer (some ⟨N + 16, 0, none⟩))]
    (put 13 #[.iface 272 (.pointer (some ⟨N + 15, 0, none⟩))]
    (put 23 #[.iface 272 (.pointer (some ⟨N + 14, 0, none⟩))]
    (put 24 #[.iface 272 (.pointer (some ⟨N + 13, 0, none⟩))]
    (put 11 #[.iface 272 (.pointer (some ⟨N + 12, 0, none⟩))]
    (put 9 #[.iface 272 (.pointer (some ⟨N + 11, 0, none⟩))]
    (put 32 #[.int .i64 16, .int .i64 17, .int .i64 18, .int .i64 0, .int .i64 8, .int .i64 7, .int .i64 9, .int .i64 6, .int .i64 10, .int .i64 5, .int .i64 11, .int .i64 4, .int .i64 12, .int .i64 3, .int .i64 13, .int .i64 2, .int .i64 14, .int .i64 1, .int .i64 15]
    (put 28 #[.iface 272 (.pointer (some ⟨N + 10, 0, none⟩))]
    (put 20 #[.iface 272 (.pointer (some ⟨N + 9, 0, none⟩))]
    (put 19 #[.iface 272 (.pointer (some ⟨N + 8, 0, none⟩))]
    (put 27 #[.iface 272 (.pointer (some ⟨N + 7, 0, none⟩))]
    (put 26 #[.iface 272 (.pointer (some ⟨N + 6, 0, none⟩))]
    (put 29 #[.iface 272 (.pointer (some ⟨N + 5, 0, none⟩))]
    (put 8 #[.iface 272 (.pointer (some ⟨N + 4, 0, none⟩))]
    (put 0 #[.iface 272 (.pointer (some ⟨N + 3, 0, none⟩))]
    (put 17 #[.iface 272 (.pointer (some ⟨N + 2, 0, none⟩))]
    (put 18 #[.iface 272 (.pointer (some ⟨N + 1, 0, none⟩))]
    (put 12 #[.iface 272 (.pointer (some ⟨N + 0, 0, none⟩))]
    (put 25 #[.int .u64 1, .int .u64 10, .int .u64 100, .int .u64 1000, .int .u64 10000, .int .u64 100000, .int .u64 1000000, .int .u64 10000000, .int .u64 100000000, .int .u64 1000000000, .int .u64 10000000000, .int .u64 100000000000, .int .u64 1000000000000, .int .u64 10000000000000, .int .u64 100000000000000, .int .u64 1000000000000000, .int .u64 10000000000000000, .int .u64 100000000000000000, .int .u64 1000000000000000000, .int .u64 10000000000000000000]
    (put 31 #[.int .u8 0, .int .u8 1, .int .u8 56, .int .u8 2, .int .u8 57, .int .u8 49, .int .u8 28, .int .u8 3, .int .u8 61, .int .u8 58, .int .u8 42, .int .u8 50, .int .u8 38, .int .u8 29, .int .u8 17, .int .u8 4, .int .u8 62, .int .u8 47, .int .u8 59, .int .u8 36, .int .u8 45, .int .u8 43, .int .u8 51, .int .u8 22, .int .u8 53, .int .u8 39, .int .u8 33, .int .u8 30, .int .u8 24, .int .u8 18, .int .u8 12, .int .u8 5, .int .u8 63, .int .u8 55, .int .u8 48, .int .u8 27, .int .u8 60, .int .u8 41, .int .u8 37, .int .u8 16, .int .u8 46, .int .u8 35, .int .u8 44, .int .u8 21, .int .u8 52, .int .u8 32, .int .u8 23, .int .u8 11, .int .u8 54, .int .u8 26, .int .u8 40, .int .u8 15, .int .u8 34, .int .u8 20, .int .u8 31, .int .u8 10, .int .u8 25, .int .u8 14, .int .u8 19, .int .u8 9, .int .u8 13, .int .u8 8, .int .u8 7, .int .u8 6]
    (put 30 #[.int .u8 0, .int .u8 1, .int .u8 28, .int .u8 2, .int .u8 29, .int .u8 14, .int .u8 24, .int .u8 3, .int .u8 30, .int .u8 22, .int .u8 20, .int .u8 15, .int .u8 25, .int .u8 17, .int .u8 4, .int .u8 8, .int .u8 31, .int .u8 27, .int .u8 13, .int .u8 23, .int .u8 21, .int .u8 19, .int .u8 16, .int .u8 7, .int .u8 26, .int .u8 12, .int .u8 18, .int .u8 6, .int .u8 11, .int .u8 5, .int .u8 10, .int .u8 9]
    w0.heap)))))))))))))))))))))))))))))))) }
theorem laid_met (os : Os) (args : Array Value) : laidMet Tryz.prog Rows.fnPackOtherRow.laid ((laidWorld os).forCall (fun _ _ => 0) ⟨#[], args, []⟩).memory :=
  laidMet_of_run' 8 (by kernel_rfl) (by kernel_rfl)
end Go.Proofs.YtohdpnoinfnmiaaGreatDoor.fnPackOther
