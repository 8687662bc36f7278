/-
  A start that fits the rows of this seat is there: the settled world, the five listed variables holding what the program's text lays in them.
-/
import Derived.Test.Qxb6612460aGreatFmtRows
import Derived.Deep.DeepWitnessRowRef
import Derived.Deep.DeepWitnessRef
import Derived.Lib.LaidIn
import Derived.ProofKit
namespace Go.Proofs.Qxb6612460aGreatFmt

def z3 : List Int := [1, 10, 100, 1000, 10000, 100000, 1000000, 10000000, 100000000, 1000000000, 10000000000, 100000000000, 1000000000000, 10000000000000, 100000000000000, 1000000000000000, 10000000000000000, 100000000000000000, 1000000000000000000, 10000000000000000000]
def z4 : List Int := [0, 1, 28, 2, 29, 14, 24, 3, 30, 22, 20, 15, 25, 17, 4, 8, 31, 27, 13, 23, 21, 19, 16, 7, 26, 12, 18, 6, 11, 5, 10, 9]
def z5 : List Int := [0, 1, 56, 2, 57, 49, 28, 3, 61, 58, 42, 50, 38, 29, 17, 4, 62, 47, 59, 36, 45, 43, 51, 22, 53, 39, 33, 30, 24, 18, 12, 5, 63, 55, 48, 27, 60, 41, 37, 16, 46, 35, 44, 21, 52, 32, 23, 11, 54, 26, 40, 15, 34, 20, 31, 10, 25, 14, 19, 9, 13, 8, 7, 6]

def laidWorldOf (P : Program) (os : Os) : World :=
  let N := (World.settled P os).heap.size
  let w0 := World.holding P os ⟨#[.cells #[.string ⟨#[118, 97, 108, 117, 101, 32, 111, 117, 116, 32, 111, 102, 32, 114, 97, 110, 103, 101]⟩] 216, .cells #[.string ⟨#[105, 110, 118, 97, 108, 105, 100, 32, 115, 121, 110, 116, 97, 120]⟩] 216], #[], []⟩
  let put (h : Array Obj) (g : Nat) (cs : Array Value) : Array Obj := h.modify g fun
    | .cells _ t frozen => .cells cs t frozen
    | o => o
  let h0 := put (put w0.heap 1 #[.iface 214 (.pointer (some ⟨N + 1, 0, none⟩))]) 2 #[.iface 214 (.pointer (some ⟨N, 0, none⟩))]
  let h1 := put (put (put h0 3 (z3.map (Value.int .u64)).toArray) 4 (z4.map (Value.int .u8)).toArray) 5 (z5.map (Value.int .u8)).toArray
  { w0 with heap := h1 }


abbrev args0 : Array Value := #[.int .i64 0, .int .i64 0, .slice none 0 0, .slice none 0 0, .int .i64 0, .int .i64 0, .int .i64 0, .bool false]

set_option maxRecDepth 1000000 in
theorem laid_in (os : Os) (args : Array Value) : LaidIn Tryz.prog ((laidWorldOf Tryz.prog os).forCall (fun _ _ => 0) ⟨#[], args, []⟩).memory Rows.fnShelfChooseIslandsAndHealthRow.laid [4, 5, 3, 2, (World.settled Tryz.prog default).heap.size, 1, (World.settled Tryz.prog default).heap.size + 1] :=
  LaidIn.of_run [4, 5, 3, 2, (World.settled Tryz.prog default).heap.size, 1, (World.settled Tryz.prog default).heap.size + 1] 10 (by kernel_rfl) (by kernel_rfl) (by kernel_rfl) (by kernel_rfl)

theorem laid_met (os : Os) (args : Array Value) : laidMet Tryz.prog Rows.fnShelfChooseIslandsAndHealthRow.laid ((laidWorldOf Tryz.prog os).forCall (fun _ _ => 0) ⟨#[], args, []⟩).memory :=
  (laid_in os args).met

set_option maxRecDepth 1000000 in
theorem laid_vars (os : Os) : ((laidWorldOf Tryz.prog os).forCall (fun _ _ => 0) ⟨#[], args0, []⟩).variablesRefB Tryz.checked.prog = true := by kernel_rfl
set_option maxRecDepth 1000000 in
theorem laid_rest (os : Os) : (((laidWorldOf Tryz.prog os).forCall (fun _ _ => 0) ⟨#[], args0, []⟩).heap.toList.drop Tryz.checked.prog.globals.size).take ((begin Tryz.checked.prog (fun _ _ => 0) default).world.heap.size - Tryz.checked.prog.globals.size) =
      (begin Tryz.checked.prog (fun _ _ => 0) default).world.heap.toList.drop Tryz.checked.prog.globals.size := by kernel_rfl
set_option maxRecDepth 1000000 in
theorem laid_ok4 (os : Os) : Input.okWideB Tryz.checked.prog ((laidWorldOf Tryz.prog os).forCall (fun _ _ => 0) ⟨#[], args0, []⟩) 4 ⟨#[], args0, []⟩ = true := by kernel_rfl

end Go.Proofs.Qxb6612460aGreatFmt
