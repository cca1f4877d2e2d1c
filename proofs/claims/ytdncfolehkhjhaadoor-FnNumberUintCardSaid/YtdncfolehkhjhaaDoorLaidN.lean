/- A world in which the listed table holds what its text lays: the witness of the rows' condition; what the condition tells of the table. -/
import Derived.Test.YtdncfolehkhjhaaDoorRows
import Derived.LaidLaws
import Derived.KernelRfl
import Derived.Stop.LaidErr
import Derived.Lib.LaidTab
import Derived.Shelf.Spec.TrailingZeros
namespace Go.Proofs.YtdncfolehkhjhaaDoor
open Go Go.ChangeShapes Go.WideShapes Go.RowKit
set_option maxRecDepth 100000

def laidCell : DataW Unit → List Value
  | .lit (.int k n) => [.int k n]
  | .agg l => l.flatMap fun
    | .lit (.int k n) => [.int k n]
    | _ => []
  | _ => []
def laidCells : DataW Unit → Array Value
  | .agg l => (l.flatMap laidCell).toArray
  | _ => #[]
noncomputable def laidPut (h : Array Obj) (n : String) (D : DataW Unit) : Array Obj := h.modify ((Tryd.prog.globalNamed n).getD 0) fun
    | .cells _ t frozen => .cells (laidCells D) t frozen
    | o => o

noncomputable def laidWorld (os : Os) : World :=
  let w0 := World.holding Tryd.prog os ⟨#[], #[], []⟩
  { w0 with heap := laidPut w0.heap "math/bits.deBruijn64tab" Rows.laid_math_bits_deBruijn64tab }

abbrev laidOf : List (String × DataW Unit) := [("math/bits.deBruijn64tab", Rows.laid_math_bits_deBruijn64tab)]

theorem laidWorld_met (os : Os) (args : Array Value) : laidMet Tryd.prog laidOf ((laidWorld os).forCall (fun _ _ => 0) ⟨#[], args, []⟩).memory :=
  laidMet_of_run' 8 (by kernel_rfl) (by kernel_rfl)

theorem gT : Tryd.prog.globalNamed "math/bits.deBruijn64tab" = some 3 := by kernel_rfl
theorem gTType : (Tryd.prog.globals[3]?).map (·.type) = some 135 := by kernel_rfl
theorem tabAt_of_laid {W : World} (h : laidMet Tryd.prog laidOf W) : TabAt 3 Go.Lib.deBruijn64tab W := by
  have h1 : Go.Lib.TabIs Tryd.prog W "math/bits.deBruijn64tab" .u8 (Go.Lib.deBruijn64tab.map Int.ofNat) :=
    Go.Lib.tabIs_of_head gT gTType Tryd.underlying135 Tryd.underlying5 (by kernel_rfl) (by kernel_rfl) h
  intro j hj
  have h2 := World.var?_cell gT h1 j
  rw [h2]
  simp [List.getElem?_eq_getElem hj, List.getD]
end Go.Proofs.YtdncfolehkhjhaaDoor
