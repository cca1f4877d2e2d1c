/- A world in which the three listed tables and strconv's two errors hold what their text lays: the witness of the rows' condition. -/
import Derived.Test.YtokjgloefafdpaaDoorRows
import Derived.LaidLaws
import Derived.KernelRfl
import Derived.Stop.LaidErr
import Derived.WalkSmall
namespace Go.Proofs.YtokjgloefafdpaaDoor
open Go Go.ChangeShapes Go.WideShapes Go.RowKit
set_option maxRecDepth 100000

def laidCell : DataW Unit → List Value
  | .lit (.int k n) => [.int k n]
  | _ => []
def laidCells : DataW Unit → Array Value
  | .agg l => (l.flatMap laidCell).toArray
  | _ => #[]
noncomputable def laidPut (h : Array Obj) (n : String) (D : DataW Unit) : Array Obj := h.modify ((Tryd.prog.globalNamed n).getD 0) fun
    | .cells _ t frozen => .cells (laidCells D) t frozen
    | o => o
noncomputable def laidErr (h : Array Obj) (n : String) (g : Nat) : Array Obj := h.modify ((Tryd.prog.globalNamed n).getD 0) fun
    | .cells _ t frozen => .cells #[.iface 132 (.pointer (some ⟨g, 0, none⟩))] t frozen
    | o => o
abbrev textR : ByteArray := { data := #[118, 97, 108, 117, 101, 32, 111, 117, 116, 32, 111, 102, 32, 114, 97, 110, 103, 101] }
abbrev textS : ByteArray := { data := #[105, 110, 118, 97, 108, 105, 100, 32, 115, 121, 110, 116, 97, 120] }
noncomputable def low : Nat := (World.holding Tryd.prog default ⟨#[], #[], []⟩).heap.size
noncomputable def laidWorld (os : Os) : World :=
  let w0 := World.holding Tryd.prog os ⟨#[.cells #[.string textR] 134, .cells #[.string textS] 134], #[], []⟩
  { w0 with heap := laidErr (laidErr (laidPut (laidPut (laidPut w0.heap "math/bits.deBruijn32tab" Rows.laid_math_bits_deBruijn32tab) "math/bits.deBruijn64tab" Rows.laid_math_bits_deBruijn64tab) "internal/strconv.uint64pow10" Rows.laid_internal_strconv_uint64pow10) "strconv.ErrRange" low) "strconv.ErrSyntax" (low + 1) }

abbrev laidOf : List (String × DataW Unit) := [("math/bits.deBruijn32tab", Rows.laid_math_bits_deBruijn32tab), ("math/bits.deBruijn64tab", Rows.laid_math_bits_deBruijn64tab), ("internal/strconv.uint64pow10", Rows.laid_internal_strconv_uint64pow10), ("strconv.ErrRange", Rows.laid_strconv_ErrRange), ("strconv.ErrSyntax", Rows.laid_strconv_ErrSyntax)]

theorem laidWorld_met (os : Os) (args : Array Value) : laidMet Tryd.prog laidOf ((laidWorld os).forCall (fun _ _ => 0) ⟨#[], args, []⟩).memory :=
  laidMet_of_run' 8 (by kernel_rfl) (by kernel_rfl)
end Go.Proofs.YtokjgloefafdpaaDoor
