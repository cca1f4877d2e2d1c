/- Slices of bytes from a place on; a reader's answers. -/
import Derived.Test.YtdncfolehkhjhaaDoorBE
namespace Go.Proofs.YtdncfolehkhjhaaDoor
open Go.RowKit
set_option linter.unusedVariables false
set_option linter.unusedSimpArgs false

theorem size1 (w : World) : (sizeOf 5).run Tryd.prog w = .ok 1 w := by kernel_rfl
/-- Slicing from i on gives the address a'. -/
def Off (a : Option Addr) (n c : Nat) (i : Int) (a' : Option Addr) (k : Nat) : Prop :=
  ∀ w', (Instr.slice 35 (.slice a n c) (some (.int .i64 i)) none none).run Tryd.prog w' = .ok (.slice a' (n - k) (c - k)) w'
theorem off_of {w : World} {a : Option Addr} {n c : Nat} {l : List Int} (h : Vw w a n c l) (i : Int) (k : Nat) (hi : i = k) (hk : k ≤ n) : ∃ a', Off a n c i a' k ∧ Vw w a' (n - k) (c - k) (l.drop k) :=
  h.from Tryd.prog 35 5 Tryd.underlying35 size1 .i64 i k hi hk

/-- The library's variable holds an error. -/
def Gl (w : World) : Prop := ∃ T v, w.cell? ⟨0, 0, none⟩ = some (.iface T v)

/-- A reader's answer: an error. -/
def BadRes3 (K : IntKind) (w : World) (e : Ending) (w' : World) : Prop := ∃ (z : Int) (a : Option Addr) (n c : Nat) (T : TypeId) (v : Value), e = .returned (.tuple #[.int K z, .slice a n c, .iface T v]) ∧ Below w.heap.size w w'

theorem drop_cells (l : List Int) (k : Nat) : ∀ m, k + m ≤ l.length → ∃ r, l.drop k = (List.range m).map (fun i => l.getD (k + i) 0) ++ r := fun m hm => by
  refine ⟨l.drop (k + m), ?_⟩
  apply List.ext_getElem?
  intro i
  by_cases hi : i < m
  · rw [List.getElem?_append_left (by simpa using hi), List.getElem?_drop]
    have : k + i < l.length := by omega
    simp [hi, List.getD, List.getElem?_eq_getElem this]
  · rw [List.getElem?_append_right (by simpa using hi), List.getElem?_drop, List.getElem?_drop]
    congr 1
    simp
    omega

end Go.Proofs.YtdncfolehkhjhaaDoor
