/- A world in which msgp's variable holds its error, as its text lays it: the witness of the rows' condition; what the condition tells. -/
import Derived.Test.YtdncfolehkhjhaaDoorRows
import Derived.LaidLaws
import Derived.KernelRfl
import Derived.Stop.LaidErr
import Derived.WalkSmall
namespace Go.Proofs.YtdncfolehkhjhaaDoor
open Go Go.ChangeShapes Go.WideShapes Go.RowKit
set_option maxRecDepth 100000

abbrev errVar : String := "given.example/pub-saddlebag/pub/msgp/msgp.ErrShortBytes"
noncomputable def laidWorld (os : Os) : World :=
  let w0 := World.holding Tryd.prog os ⟨#[], #[], []⟩
  { w0 with heap := w0.heap.modify 1 fun
      | .cells _ t frozen => .cells #[.iface 170 (.agg #[])] t frozen
      | o => o }
abbrev laidOf : List (String × DataW Unit) := [(errVar, Rows.laid_given_example_pub_saddlebag_pub_msgp_msgp_ErrShortBytes)]
theorem laidWorld_met (os : Os) (args : Array Value) : laidMet Tryd.prog laidOf ((laidWorld os).forCall (fun _ _ => 0) ⟨#[], args, []⟩).memory :=
  laidMet_of_run' 8 (by kernel_rfl) (by kernel_rfl)

theorem gE : Tryd.prog.globalNamed errVar = some 1 := by kernel_rfl
theorem gEType : (Tryd.prog.globals[1]?).map (·.type) = some 66 := by kernel_rfl

/-- What the condition tells: the variable holds an error. -/
theorem err_of_laid {r : List (String × DataW Unit)} {W : World} (h : laidMet Tryd.prog ((errVar, Rows.laid_given_example_pub_saddlebag_pub_msgp_msgp_ErrShortBytes) :: r) W) :
    ∃ u v, W.var? Tryd.prog errVar = some #[.iface u v] ∧ W.cell? ⟨1, 0, none⟩ = some (.iface u v) := by
  obtain ⟨ps, ⟨g0, t0, cs0, f0, p0, q0, hg0, ht0, hv0, hd0, _, e0⟩, _, hrows⟩ := h
  obtain rfl := Option.some.inj (gE.symm.trans hg0)
  obtain rfl := Option.some.inj (gEType.symm.trans ht0)
  obtain ⟨l0⟩ := cs0
  obtain ⟨f1, u, v, hl, hn, h1⟩ := iface_of_trod Tryd.underlying66 hd0
  simp only at hl
  subst hl
  exact ⟨u, v, hv0, by simpa using World.var?_cell hg0 hv0 0⟩
end Go.Proofs.YtdncfolehkhjhaaDoor
