/- The bytes of a text as numbers. -/
import Derived.Test.YtliaiaefhbgblaaLib
namespace Go.Proofs.Ytliaiaefhbgblaa
open Go.RowKit
set_option linter.unusedVariables false

/-- The bytes of a text as numbers. -/
def ints (s : ByteArray) : List Int := s.data.toList.map fun b => (b.toNat : Int)

theorem ints_length (s : ByteArray) : (ints s).length = s.size := by unfold ints; rw [List.length_map, Array.length_toList]; rfl
theorem ints_bytes (s : ByteArray) : ∀ x ∈ ints s, 0 ≤ x ∧ x ≤ 255 := by
  intro x hx
  simp only [ints, List.mem_map] at hx
  obtain ⟨b, _, rfl⟩ := hx
  have := b.toNat_lt
  omega
theorem strOfNums_ints (s : ByteArray) : strOfNums (ints s) = s := by
  unfold strOfNums ints
  rw [List.map_map]
  have : ((fun n : Int => UInt8.ofNat n.toNat) ∘ fun b : UInt8 => (b.toNat : Int)) = id := by
    funext b; simp
  rw [this]; simp

end Go.Proofs.Ytliaiaefhbgblaa
