/-
  Seat b6602414aD. ONE START THAT FITS: the settled world, its five listed variables as their initialisers lay them.
-/
import Derived.Test.Qxb6602414aDoorRows
import Derived.ProofKit
import Derived.LaidLaws
namespace Go.Proofs.Qxb6602414aDoor
open Go.ChangeShapes Go.WideShapes Go.ChangeAt Go.RowKit

/-- So many blocks has the settled world. -/
def lowOf (P : Program) : Nat := (World.holding P default ⟨#[], #[], []⟩).heap.size

/-- A block's cells replaced. -/
def reset (cs : Array Value) : Obj → Obj
  | .cells _ t frozen => .cells cs t frozen
  | o => o

/-- The settled world with two blocks more, each an errors.errorString; the two sentinels hold pointers to them; the three tables hold their numbers. -/
def laidOver (P : Program) (os : Os) : World :=
  let w0 := World.holding P os ⟨#[.cells #[.string { data := #[105, 110, 118, 97, 108, 105, 100, 32, 115, 121, 110, 116, 97, 120] }] 66, .cells #[.string { data := #[118, 97, 108, 117, 101, 32, 111, 117, 116, 32, 111, 102, 32, 114, 97, 110, 103, 101] }] 66], #[], []⟩
  { w0 with heap := ((((w0.heap.modify 0 (reset #[.iface 64 (.pointer (some ⟨lowOf P, 0, none⟩))])).modify 1 (reset #[.iface 64 (.pointer (some ⟨lowOf P + 1, 0, none⟩))])).modify 2 (reset #[.int .u64 1, .int .u64 10, .int .u64 100, .int .u64 1000, .int .u64 10000, .int .u64 100000, .int .u64 1000000, .int .u64 10000000, .int .u64 100000000, .int .u64 1000000000, .int .u64 10000000000, .int .u64 100000000000, .int .u64 1000000000000, .int .u64 10000000000000, .int .u64 100000000000000, .int .u64 1000000000000000, .int .u64 10000000000000000, .int .u64 100000000000000000, .int .u64 1000000000000000000, .int .u64 10000000000000000000])).modify 3 (reset #[.int .u8 0, .int .u8 1, .int .u8 28, .int .u8 2, .int .u8 29, .int .u8 14, .int .u8 24, .int .u8 3, .int .u8 30, .int .u8 22, .int .u8 20, .int .u8 15, .int .u8 25, .int .u8 17, .int .u8 4, .int .u8 8, .int .u8 31, .int .u8 27, .int .u8 13, .int .u8 23, .int .u8 21, .int .u8 19, .int .u8 16, .int .u8 7, .int .u8 26, .int .u8 12, .int .u8 18, .int .u8 6, .int .u8 11, .int .u8 5, .int .u8 10, .int .u8 9])).modify 4 (reset #[.int .u8 0, .int .u8 1, .int .u8 56, .int .u8 2, .int .u8 57, .int .u8 49, .int .u8 28, .int .u8 3, .int .u8 61, .int .u8 58, .int .u8 42, .int .u8 50, .int .u8 38, .int .u8 29, .int .u8 17, .int .u8 4, .int .u8 62, .int .u8 47, .int .u8 59, .int .u8 36, .int .u8 45, .int .u8 43, .int .u8 51, .int .u8 22, .int .u8 53, .int .u8 39, .int .u8 33, .int .u8 30, .int .u8 24, .int .u8 18, .int .u8 12, .int .u8 5, .int .u8 63, .int .u8 55, .int .u8 48, .int .u8 27, .int .u8 60, .int .u8 41, .int .u8 37, .int .u8 16, .int .u8 46, .int .u8 35, .int .u8 44, .int .u8 21, .int .u8 52, .int .u8 32, .int .u8 23, .int .u8 11, .int .u8 54, .int .u8 26, .int .u8 40, .int .u8 15, .int .u8 34, .int .u8 20, .int .u8 31, .int .u8 10, .int .u8 25, .int .u8 14, .int .u8 19, .int .u8 9, .int .u8 13, .int .u8 8, .int .u8 7, .int .u8 6]) }

set_option maxRecDepth 100000 in
theorem laidWorld_met (os : Os) (args : Array Value) : laidMet Tryd.prog Rows.fnParseLengthMatchesSignedDecimalModelRow.laid ((laidOver Tryd.prog os).forCall (fun _ _ => 0) ⟨#[], args, []⟩).memory :=
  laidMet_of_run (ps := MemPlace.row ⟨3, 0, none⟩ 32 ++ MemPlace.row ⟨4, 0, none⟩ 64 ++ MemPlace.row ⟨2, 0, none⟩ 20 ++ [.cell 1 0, .cell (lowOf Tryd.prog + 1) 0, .cell 0 0, .cell (lowOf Tryd.prog) 0]) 8 (by kernel_rfl) (by kernel_rfl) (by kernel_rfl)
end Go.Proofs.Qxb6602414aDoor
