/-
  The start that is shown to be there: a world in which the five listed variables hold what their initialisers lay.
-/
import Derived.Test.Qxb6616338aFmtRows
import Derived.Deep.DeepWitnessRowRef
import Derived.Deep.DeepWitnessRef
import Derived.Lib.LaidIn
import Derived.Lib.LaidTab
import Derived.Lib.ItoaNum
import Derived.ProofKit
namespace Go.Proofs.Qxb6616338aFmt
open Go.Lib

def d32 : List Int := [0, 1, 28, 2, 29, 14, 24, 3, 30, 22, 20, 15, 25, 17, 4, 8, 31, 27, 13, 23, 21, 19, 16, 7, 26, 12, 18, 6, 11, 5, 10, 9]
def d64 : List Int := [0, 1, 56, 2, 57, 49, 28, 3, 61, 58, 42, 50, 38, 29, 17, 4, 62, 47, 59, 36, 45, 43, 51, 22, 53, 39, 33, 30, 24, 18, 12, 5, 63, 55, 48, 27, 60, 41, 37, 16, 46, 35, 44, 21, 52, 32, 23, 11, 54, 26, 40, 15, 34, 20, 31, 10, 25, 14, 19, 9, 13, 8, 7, 6]
def put (h : Array Obj) (g : Nat) (cs : Array Value) : Array Obj := h.modify g fun
  | .cells _ t frozen => .cells cs t frozen
  | o => o
/-- w0 with the five variables laid; the two errors' structs lie in blocks N and N + 1. -/
def laidOf (w0 : World) (N : Nat) : World :=
  { w0 with heap := put (put (put (put (put w0.heap 0 #[.iface 62 (.pointer (some ⟨N + 1, 0, none⟩))]) 1 #[.iface 62 (.pointer (some ⟨N, 0, none⟩))]) 2 (pow10Tab.map (Value.int .u64)).toArray) 3 (d32.map (Value.int .u8)).toArray) 4 (d64.map (Value.int .u8)).toArray }
def blocks : Array Obj := #[.cells #[.string ⟨#[118, 97, 108, 117, 101, 32, 111, 117, 116, 32, 111, 102, 32, 114, 97, 110, 103, 101]⟩] 64, .cells #[.string ⟨#[105, 110, 118, 97, 108, 105, 100, 32, 115, 121, 110, 116, 97, 120]⟩] 64]

set_option maxRecDepth 1000000 in
theorem laid_met (os : Os) (args : Array Value) : laidMet Tryf.prog Rows.fnCountSettingTextSetRoundTripRow.laid ((laidOf (World.holding Tryf.prog os ⟨blocks, #[], []⟩) (World.settled Tryf.prog os).heap.size).forCall (fun _ _ => 0) ⟨#[], args, []⟩).memory :=
  (LaidIn.of_run [3, 4, 2, 1, (World.settled Tryf.prog default).heap.size, 0, (World.settled Tryf.prog default).heap.size + 1] 10 (by kernel_rfl) (by kernel_rfl) (by kernel_rfl) (by kernel_rfl)).met
end Go.Proofs.Qxb6616338aFmt
