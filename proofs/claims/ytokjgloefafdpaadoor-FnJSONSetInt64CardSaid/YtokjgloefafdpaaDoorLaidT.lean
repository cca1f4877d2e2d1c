/- A world in which the five listed tables hold what their text lays: the witness of the rows' condition; what the condition tells of the powers of ten. -/
import Derived.Test.YtokjgloefafdpaaDoorRows
import Derived.LaidLaws
import Derived.KernelRfl
import Derived.Stop.LaidErr
import Derived.Lib.LaidTab
import Derived.Lib.AppendIntMem
namespace Go.Proofs.YtokjgloefafdpaaDoor
open Go Go.ChangeShapes Go.WideShapes Go.RowKit
set_option maxRecDepth 100000

def laidCell : DataW Unit → List Value
  | .lit (.int k n) => [.int k n]
  | .agg l => l.flatMap fun
    | .lit (.int k n) => [.int k n]
    | _ => []
  | _ => []
def laidCells : DataW Unit → Array Value
  | .agg l => (l.flatMap laidCell).toArray
  | _ => #[]
noncomputable def laidPut (h : Array Obj) (n : String) (D : DataW Unit) : Array Obj := h.modify ((Tryd.prog.globalNamed n).getD 0) fun
    | .cells _ t frozen => .cells (laidCells D) t frozen
    | o => o

noncomputable def laidWorld (os : Os) : World :=
  let w0 := World.holding Tryd.prog os ⟨#[], #[], []⟩
  { w0 with heap := laidPut (laidPut (laidPut (laidPut (laidPut w0.heap "math/bits.deBruijn32tab" Rows.laid_math_bits_deBruijn32tab) "math/bits.deBruijn64tab" Rows.laid_math_bits_deBruijn64tab) "internal/strconv.uint64pow10" Rows.laid_internal_strconv_uint64pow10) "unicode/utf8.acceptRanges" Rows.laid_unicode_utf8_acceptRanges) "unicode/utf8.first" Rows.laid_unicode_utf8_first }

abbrev laidOf : List (String × DataW Unit) := [("math/bits.deBruijn32tab", Rows.laid_math_bits_deBruijn32tab), ("math/bits.deBruijn64tab", Rows.laid_math_bits_deBruijn64tab), ("internal/strconv.uint64pow10", Rows.laid_internal_strconv_uint64pow10), ("unicode/utf8.acceptRanges", Rows.laid_unicode_utf8_acceptRanges), ("unicode/utf8.first", Rows.laid_unicode_utf8_first)]

theorem laidWorld_met (os : Os) (args : Array Value) : laidMet Tryd.prog laidOf ((laidWorld os).forCall (fun _ _ => 0) ⟨#[], args, []⟩).memory :=
  laidMet_of_run' 8 (by kernel_rfl) (by kernel_rfl)

theorem gT : Tryd.prog.globalNamed "internal/strconv.uint64pow10" = some 2 := by kernel_rfl
theorem gTType : (Tryd.prog.globals[2]?).map (·.type) = some 158 := by kernel_rfl
theorem tab_of_laid {W : World} (h : laidMet Tryd.prog laidOf W) : Lib.TabIs Tryd.prog W "internal/strconv.uint64pow10" .u64 Lib.pow10Tab :=
  Lib.tabIs_of_head gT gTType Tryd.underlying158 Tryd.underlying26 (by kernel_rfl) (by kernel_rfl) h.tail.tail
end Go.Proofs.YtokjgloefafdpaaDoor
