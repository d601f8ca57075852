import Derived.Test.YbulkdducFmtRows
import Derived.Deep.DeepWitnessRowRef
import Derived.Deep.DeepWitnessRef
import Derived.Lib.LaidIn
import Derived.ProofKit
namespace Go.Proofs.YbulkdducFmt

def tab32 : List Int := [0, 1, 28, 2, 29, 14, 24, 3, 30, 22, 20, 15, 25, 17, 4, 8, 31, 27, 13, 23, 21, 19, 16, 7, 26, 12, 18, 6, 11, 5, 10, 9]
def tab64 : List Int := [0, 1, 56, 2, 57, 49, 28, 3, 61, 58, 42, 50, 38, 29, 17, 4, 62, 47, 59, 36, 45, 43, 51, 22, 53, 39, 33, 30, 24, 18, 12, 5, 63, 55, 48, 27, 60, 41, 37, 16, 46, 35, 44, 21, 52, 32, 23, 11, 54, 26, 40, 15, 34, 20, 31, 10, 25, 14, 19, 9, 13, 8, 7, 6]
def tab10 : List Int := [1, 10, 100, 1000, 10000, 100000, 1000000, 10000000, 100000000, 1000000000, 10000000000, 100000000000, 1000000000000, 10000000000000, 100000000000000, 1000000000000000, 10000000000000000, 100000000000000000, 1000000000000000000, 10000000000000000000]
def outOfRange : ByteArray := ⟨#[118, 97, 108, 117, 101, 32, 111, 117, 116, 32, 111, 102, 32, 114, 97, 110, 103, 101]⟩
def badSyntax : ByteArray := ⟨#[105, 110, 118, 97, 108, 105, 100, 32, 115, 121, 110, 116, 97, 120]⟩
def badForm : ByteArray := ⟨#[110, 111, 116, 32, 105, 110, 32, 116, 104, 101, 32, 105, 110, 115, 116, 114, 117, 99, 116, 105, 111, 110, 39, 115, 32, 102, 111, 114, 109]⟩
def put (h : Array Obj) (g : Nat) (cs : Array Value) : Array Obj := h.modify g fun
  | .cells _ t frozen => .cells cs t frozen
  | o => o

def laidAt (P : Program) (os : Os) : World :=
  let N := (World.settled P os).heap.size
  let w0 := World.holding P os ⟨#[.cells #[.string outOfRange] 84, .cells #[.string badSyntax] 84, .cells #[.string badForm] 84], #[], []⟩
  { w0 with heap := put (put (put (put (put (put w0.heap 0 #[.iface 82 (.pointer (some ⟨N + 2, 0, none⟩))]) 1 (tab10.map (Value.int .u64)).toArray) 2 #[.iface 82 (.pointer (some ⟨N + 1, 0, none⟩))]) 3 #[.iface 82 (.pointer (some ⟨N, 0, none⟩))]) 4 (tab32.map (Value.int .u8)).toArray) 5 (tab64.map (Value.int .u8)).toArray }

set_option maxRecDepth 1000000 in
theorem laid_in (os : Os) (args : Array Value) : LaidIn Ybaf.prog ((laidAt Ybaf.prog os).forCall (fun _ _ => 0) ⟨#[], args, []⟩).memory Rows.lawS5254CModelRow.laid [4, 5, 1, 3, (World.settled Ybaf.prog default).heap.size, 2, (World.settled Ybaf.prog default).heap.size + 1, 0, (World.settled Ybaf.prog default).heap.size + 2] :=
  LaidIn.of_run [4, 5, 1, 3, (World.settled Ybaf.prog default).heap.size, 2, (World.settled Ybaf.prog default).heap.size + 1, 0, (World.settled Ybaf.prog default).heap.size + 2] 10 (by kernel_rfl) (by kernel_rfl) (by kernel_rfl) (by kernel_rfl)

theorem laid_met (os : Os) (args : Array Value) : laidMet Ybaf.prog Rows.lawS5254CModelRow.laid ((laidAt Ybaf.prog os).forCall (fun _ _ => 0) ⟨#[], args, []⟩).memory := (laid_in os args).met

end Go.Proofs.YbulkdducFmt
