/- What the laws FnStreamPut.. share: the buffers asked; a list of encodings. -/
import Derived.Test.YtliaiaefhbgblaaOrder
namespace Go.Proofs.Ytliaiaefhbgblaa
open Go.RowKit
set_option linter.unusedVariables false
set_option linter.unusedSimpArgs false

theorem list_ex {α β : Type} {P : α → β → Prop} : ∀ (l : List α), (∀ x ∈ l, ∃ e, P x e) → ∃ es : List β, es.length = l.length ∧ ∀ i (h : i < l.length) (h2 : i < es.length), P l[i] es[i]
  | [], _ => ⟨[], rfl, fun i h => by simp at h⟩
  | x :: l, H => by
    obtain ⟨e, he⟩ := H x (by simp)
    obtain ⟨es, h1, h2⟩ := list_ex l (fun y hy => H y (by simp [hy]))
    refine ⟨e :: es, by simp [h1], fun i h h3 => ?_⟩
    cases i with
    | zero => exact he
    | succ i => exact h2 i (by simpa using h) (by simpa using h3)

theorem buffers_any (bf ch : Int) (hch : 1 ≤ ch ∧ ch ≤ 65536) (w : World) :
    Calls Try.prog 8 #[.int .i64 bf, .int .i64 ch] w fun e w' => e = .returned (.bool (decide (18 ≤ bf ∧ bf ≤ 65536))) ∧ w = w' := by
  have h3 : decide ((1 : Int) ≤ ch) = true := by simp; omega
  have h4 : decide (ch ≤ (65536 : Int)) = true := by simp; omega
  by_cases h1 : 18 ≤ bf
  · have d1 : decide ((18 : Int) ≤ bf) = true := by simpa using h1
    by_cases h2 : bf ≤ 65536
    · have d2 : decide (bf ≤ (65536 : Int)) = true := by simpa using h2
      have hd : decide (18 ≤ bf ∧ bf ≤ 65536) = true := by simp; omega
      rw [hd]
      go_enter Try.func8, Try.ntmps8
      go_wp2
      go_ret
      exact ⟨rfl, rfl⟩
    · have d2 : decide (bf ≤ (65536 : Int)) = false := by simp; omega
      have hd : decide (18 ≤ bf ∧ bf ≤ 65536) = false := by simp; omega
      rw [hd]
      go_enter Try.func8, Try.ntmps8
      go_wp2
      go_ret
      exact ⟨rfl, rfl⟩
  · have d1 : decide ((18 : Int) ≤ bf) = false := by simp; omega
    have hd : decide (18 ≤ bf ∧ bf ≤ 65536) = false := by simp; omega
    rw [hd]
    go_enter Try.func8, Try.ntmps8
    go_wp2
    go_ret
    exact ⟨rfl, rfl⟩
theorem infoPk : (Try.prog.info? 30).map (fun i => (i.zero.map (·.cells.size), i.size, i.bytes)) = some (some 5, 5, 64) := by kernel_rfl
end Go.Proofs.Ytliaiaefhbgblaa
