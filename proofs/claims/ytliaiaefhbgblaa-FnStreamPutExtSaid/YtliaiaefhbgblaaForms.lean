/- spec.form.headed, spec.sizes, spec.Forms.pick, spec.Forms.putHead. -/
import Derived.Test.YtliaiaefhbgblaaBigB
import Derived.Test.YtliaiaefhbgblaaApp8
namespace Go.Proofs.Ytliaiaefhbgblaa
open Go.RowKit
set_option linter.unusedVariables false
set_option linter.unusedSimpArgs false

abbrev fm (c s : Int) : Value := .agg #[.int .i64 c, .int .i64 s]

/-! ### sizes -/
def fcells (l : List (Int × Nat)) : List Value := l.flatMap fun f => [.int .i64 f.1, .int .i64 (f.2 : Int)]
def holds (u : Int) (f : Int × Nat) : Bool := decide (8 ≤ f.2) || decide (u / 2 ^ (8 * f.2) = 0)
def may (u : Int) (l : List (Int × Nat)) : List (Int × Nat) := l.filter (holds u)

theorem fcells_len (l : List (Int × Nat)) : (fcells l).length = l.length * 2 := by
  induction l with
  | nil => rfl
  | cons f l ih => simp [fcells] at ih ⊢; omega
theorem fcells_get (l : List (Int × Nat)) (j : Nat) (h : j < l.length) : (fcells l)[j * 2]? = some (.int .i64 l[j].1) ∧ (fcells l)[j * 2 + 1]? = some (.int .i64 (l[j].2 : Int)) := by
  induction l generalizing j with
  | nil => simp at h
  | cons f l ih =>
    cases j with
    | zero => simp [fcells]
    | succ j =>
      have := ih j (by simpa using h)
      simp only [fcells, List.flatMap_cons, List.getElem_cons_succ] at this ⊢
      rw [show (j + 1) * 2 = j * 2 + 1 + 1 by omega, show j * 2 + 1 + 1 + 1 = (j * 2 + 1) + 1 + 1 by omega]
      simpa using this
theorem Rd.form_at {w : World} {a : Option Addr} {l : List (Int × Nat)} (h : Rd w a (fcells l)) (j : Nat) (hj : j < l.length) (f : Int × Nat) (hf : f = l[j]) : ∃ b off, a = some ⟨b, off, none⟩ ∧ w.cell? ⟨b, off + j * 2, none⟩ = some (.int .i64 f.1) ∧ w.cell? ⟨b, off + j * 2 + 1, none⟩ = some (.int .i64 (f.2 : Int)) := by
  subst hf
  rcases h with h | ⟨b, off, ha, hx⟩
  · have := fcells_len l; rw [h] at this; simp at this; omega
  · exact ⟨b, off, ha, hx _ _ (fcells_get l j hj).1, by rw [Nat.add_assoc]; exact hx _ _ (fcells_get l j hj).2⟩
theorem may_snoc (u : Int) (l : List (Int × Nat)) (j : Nat) (h : j < l.length) : may u (l.take (j + 1)) = may u (l.take j) ++ (if holds u l[j] then [l[j]] else []) := by
  unfold may
  rw [List.take_succ_eq_append_getElem h, List.filter_append]
  by_cases hh : holds u l[j] <;> simp [hh]
theorem may_le (u : Int) (l : List (Int × Nat)) : (may u l).length ≤ l.length := List.length_filter_le _ _
theorem fcells_app (a b : List (Int × Nat)) : fcells (a ++ b) = fcells a ++ fcells b := by simp [fcells]

end Go.Proofs.Ytliaiaefhbgblaa
