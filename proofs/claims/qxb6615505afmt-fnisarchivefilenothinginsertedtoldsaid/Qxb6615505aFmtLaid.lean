/-
  A start that fits: a world in which the five listed variables hold what their initialisers lay.
-/
import Derived.Test.Qxb6615505aFmtRows
import Derived.Deep.DeepWitnessRowRef
import Derived.Lib.LaidIn
import Derived.ProofKit
namespace Go.Proofs.Qxb6615505aFmt


def z2 : List Int := [1, 10, 100, 1000, 10000, 100000, 1000000, 10000000, 100000000, 1000000000, 10000000000, 100000000000, 1000000000000, 10000000000000, 100000000000000, 1000000000000000, 10000000000000000, 100000000000000000, 1000000000000000000, 10000000000000000000]
def z3 : List Int := [0, 1, 28, 2, 29, 14, 24, 3, 30, 22, 20, 15, 25, 17, 4, 8, 31, 27, 13, 23, 21, 19, 16, 7, 26, 12, 18, 6, 11, 5, 10, 9]
def z4 : List Int := [0, 1, 56, 2, 57, 49, 28, 3, 61, 58, 42, 50, 38, 29, 17, 4, 62, 47, 59, 36, 45, 43, 51, 22, 53, 39, 33, 30, 24, 18, 12, 5, 63, 55, 48, 27, 60, 41, 37, 16, 46, 35, 44, 21, 52, 32, 23, 11, 54, 26, 40, 15, 34, 20, 31, 10, 25, 14, 19, 9, 13, 8, 7, 6]
def laidWorld (P : Program) (os : Os) : World :=
  let N := (World.settled P os).heap.size
  let w0 := World.holding P os ⟨#[.cells #[.string ⟨#[118, 97, 108, 117, 101, 32, 111, 117, 116, 32, 111, 102, 32, 114, 97, 110, 103, 101]⟩] 55, .cells #[.string ⟨#[105, 110, 118, 97, 108, 105, 100, 32, 115, 121, 110, 116, 97, 120]⟩] 55], #[], []⟩
  let put (h : Array Obj) (g : Nat) (cs : Array Value) : Array Obj := h.modify g fun
    | .cells _ t frozen => .cells cs t frozen
    | o => o
  let h0 := put (put w0.heap 0 #[.iface 53 (.pointer (some ⟨N + 1, 0, none⟩))]) 1 #[.iface 53 (.pointer (some ⟨N, 0, none⟩))]
  let h1 := put (put (put h0 2 (z2.map (Value.int .u64)).toArray) 3 (z3.map (Value.int .u8)).toArray) 4 (z4.map (Value.int .u8)).toArray
  { w0 with heap := h1 }
abbrev N0 (P : Program) : Nat := (World.settled P default).heap.size
set_option maxRecDepth 1000000 in
theorem piece0 (os : Os) (args : Array Value) : LaidIn Tryf.prog ((laidWorld Tryf.prog os).forCall (fun _ _ => 0) ⟨#[], args, []⟩).memory Rows.fnIsArchiveFileOfSegmentFileRow.laid [3, 4, 2, 1, N0 Tryf.prog, 0, N0 Tryf.prog + 1] :=
  LaidIn.of_run [3, 4, 2, 1, N0 Tryf.prog, 0, N0 Tryf.prog + 1] 10 (by kernel_rfl) (by kernel_rfl) (by kernel_rfl) (by kernel_rfl)
theorem laid_met (os : Os) (args : Array Value) : laidMet Tryf.prog Rows.fnIsArchiveFileOfSegmentFileRow.laid ((laidWorld Tryf.prog os).forCall (fun _ _ => 0) ⟨#[], args, []⟩).memory := (piece0 os args).met

end Go.Proofs.Qxb6615505aFmt
