/- A world in which io's two variables hold their errors, as their text lays them: the witness of the rows' condition; what the condition tells. -/
import Derived.Test.YtfaangichifbgaaDoorRows
import Derived.LaidLaws
import Derived.KernelRfl
import Derived.Stop.LaidErr
import Derived.WalkSmall
namespace Go.Proofs.YtfaangichifbgaaDoor
open Go Go.ChangeShapes Go.WideShapes Go.RowKit
set_option maxRecDepth 100000

abbrev errVar : String := "io.EOF"
abbrev errVar1 : String := "io.ErrUnexpectedEOF"
abbrev textE0 : ByteArray := { data := #[69, 79, 70] }
abbrev textE1 : ByteArray := { data := #[117, 110, 101, 120, 112, 101, 99, 116, 101, 100, 32, 69, 79, 70] }
noncomputable def low : Nat := (World.holding Tryd.prog default ⟨#[], #[], []⟩).heap.size
noncomputable def laidWorld (os : Os) : World :=
  let w0 := World.holding Tryd.prog os ⟨#[.cells #[.string textE0] 184, .cells #[.string textE1] 184], #[], []⟩
  { w0 with heap := (w0.heap.modify 1 fun
      | .cells _ t frozen => .cells #[.iface 163 (.pointer (some ⟨low, 0, none⟩))] t frozen
      | o => o).modify 3 fun
      | .cells _ t frozen => .cells #[.iface 163 (.pointer (some ⟨low + 1, 0, none⟩))] t frozen
      | o => o }
abbrev laidOf : List (String × DataW Unit) := [(errVar, Rows.laid_io_EOF), (errVar1, Rows.laid_io_ErrUnexpectedEOF)]
theorem laidWorld_met (os : Os) (args : Array Value) : laidMet Tryd.prog laidOf ((laidWorld os).forCall (fun _ _ => 0) ⟨#[], args, []⟩).memory :=
  laidMet_of_run (ps := [.cell 1 0, .cell low 0, .cell 3 0, .cell (low + 1) 0]) 8 (by kernel_rfl) (by kernel_rfl) (by kernel_rfl)

theorem gE : Tryd.prog.globalNamed errVar = some 1 := by kernel_rfl
theorem gEType : (Tryd.prog.globals[1]?).map (·.type) = some 59 := by kernel_rfl
theorem gE1 : Tryd.prog.globalNamed errVar1 = some 3 := by kernel_rfl
theorem gE1Type : (Tryd.prog.globals[3]?).map (·.type) = some 59 := by kernel_rfl

/-- What the condition tells: the variable holds an error. -/
theorem err_of_laid' {n nm : String} {D : DataW Unit} {g : Nat} (hg : Tryd.prog.globalNamed n = some g) (ht : (Tryd.prog.globals[g]?).map (·.type) = some 59) {r : List (String × DataW Unit)} {W : World} (h : laidMet Tryd.prog ((n, .iface nm D) :: r) W) :
    ∃ u v, W.var? Tryd.prog n = some #[.iface u v] ∧ W.cell? ⟨g, 0, none⟩ = some (.iface u v) := by
  obtain ⟨ps, ⟨g0, t0, cs0, f0, p0, q0, hg0, ht0, hv0, hd0, _, e0⟩, _, hrows⟩ := h
  obtain rfl := Option.some.inj (hg.symm.trans hg0)
  obtain rfl := Option.some.inj (ht.symm.trans ht0)
  obtain ⟨l0⟩ := cs0
  obtain ⟨f1, u, v, hl, hn, h1⟩ := iface_of_trod Tryd.underlying59 hd0
  simp only at hl
  subst hl
  exact ⟨u, v, hv0, by simpa using World.var?_cell hg0 hv0 0⟩
theorem err_of_laid {W : World} (h : laidMet Tryd.prog laidOf W) : ∃ u v, W.var? Tryd.prog errVar = some #[.iface u v] ∧ W.cell? ⟨1, 0, none⟩ = some (.iface u v) := err_of_laid' gE gEType h
theorem err_of_laid1 {W : World} (h : laidMet Tryd.prog laidOf W) : ∃ u v, W.var? Tryd.prog errVar1 = some #[.iface u v] ∧ W.cell? ⟨3, 0, none⟩ = some (.iface u v) := err_of_laid' gE1 gE1Type h.tail
end Go.Proofs.YtfaangichifbgaaDoor
