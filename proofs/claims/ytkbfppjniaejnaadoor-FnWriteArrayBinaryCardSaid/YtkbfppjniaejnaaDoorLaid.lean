/- A world in which the two listed tables hold what their text lays: the witness of the rows' condition. -/
import Derived.Test.YtkbfppjniaejnaaDoorRows
import Derived.LaidLaws
import Derived.KernelRfl
namespace Go.Proofs.YtkbfppjniaejnaaDoor
open Go
set_option maxRecDepth 100000

def laidCell : DataW Unit → List Value
  | .lit (.int k n) => [.int k n]
  | .agg l => l.flatMap fun
    | .lit (.int k n) => [.int k n]
    | _ => []
  | _ => []
def laidCells : DataW Unit → Array Value
  | .agg l => (l.flatMap laidCell).toArray
  | _ => #[]


noncomputable def laidWorld (os : Os) : World :=
  let w0 := World.holding Tryd.prog os ⟨#[], #[], []⟩
  let put (h : Array Obj) (g : Nat) (cs : Array Value) : Array Obj := h.modify g fun
    | .cells _ t frozen => .cells cs t frozen
    | o => o
  { w0 with heap := put (put w0.heap ((Tryd.prog.globalNamed "unicode/utf8.acceptRanges").getD 0) (laidCells Rows.laid_unicode_utf8_acceptRanges)) ((Tryd.prog.globalNamed "unicode/utf8.first").getD 0) (laidCells Rows.laid_unicode_utf8_first) }

abbrev laidOf : List (String × DataW Unit) := [("unicode/utf8.acceptRanges", Rows.laid_unicode_utf8_acceptRanges), ("unicode/utf8.first", Rows.laid_unicode_utf8_first)]

theorem laidWorld_met (os : Os) (args : Array Value) : laidMet Tryd.prog laidOf ((laidWorld os).forCall (fun _ _ => 0) ⟨#[], args, []⟩).memory :=
  laidMet_of_run' 8 (by kernel_rfl) (by kernel_rfl)
end Go.Proofs.YtkbfppjniaejnaaDoor
