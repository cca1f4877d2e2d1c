/- What spec.PackFits asks of a tree. -/
import Derived.Test.YtdncfolehkhjhaaDoorPack
namespace Go.Proofs.YtdncfolehkhjhaaDoor
open Go.RowKit
set_option linter.unusedVariables false
set_option linter.unusedSimpArgs false

/-- What a node must meet. -/
def FitN (k num : Int) (ts : Nat) (ext : Int) (n : Nat) : Prop :=
  0 ≤ k ∧ k ≤ 10 ∧ (k = 1 → num ≤ 1) ∧ (k = 4 → num < 4294967296) ∧ -128 ≤ ext ∧ ext ≤ 127 ∧ n ≤ 2000 ∧ ts ≤ 131072

mutual
def Pk.fits : Pk → Prop
  | .mk k num t ext ks => FitN k num t.size ext ks.length ∧ Pk.fitsL ks
def Pk.fitsL : List Pk → Prop
  | [] => True
  | k :: ks => k.fits ∧ Pk.fitsL ks
end
theorem fitsL_snoc (ks : List Pk) (j : Nat) (h : j < ks.length) (h1 : Pk.fitsL (ks.take j)) (h2 : ks[j].fits) : Pk.fitsL (ks.take (j + 1)) := by
  induction ks generalizing j with
  | nil => simp at h
  | cons k ks ih =>
    cases j with
    | zero => exact ⟨by simpa using h2, trivial⟩
    | succ j =>
      have h1' : k.fits ∧ Pk.fitsL (ks.take j) := by simpa [Pk.fitsL] using h1
      exact ⟨h1'.1, ih j (by simpa using h) h1'.2 (by simpa using h2)⟩
theorem fitsL_at (ks : List Pk) (j : Nat) (h : j < ks.length) (h1 : Pk.fitsL ks) : ks[j].fits := by
  induction ks generalizing j with
  | nil => simp at h
  | cons k ks ih =>
    have h1' : k.fits ∧ Pk.fitsL ks := h1
    cases j with
    | zero => exact h1'.1
    | succ j => simpa using ih j (by simpa using h) h1'.2

end Go.Proofs.YtdncfolehkhjhaaDoor
