/- Decimal numerals: plain law. -/
import Derived.Test.YtokjgloefafdpaaDoorLib
import Derived.Lib.ItoaMem
namespace Go.Proofs.YtokjgloefafdpaaDoor
open Go.Lib
set_option linter.unusedVariables false
set_option linter.unusedSimpArgs false

/-- What digits spell. -/
def dval (ds : List UInt8) : Nat := ds.foldl (fun a b => 10 * a + (b.toNat - 48)) 0
theorem dval_snoc (ds : List UInt8) (b : UInt8) : dval (ds ++ [b]) = 10 * dval ds + (b.toNat - 48) := by simp [dval]
theorem dval_app (ds es : List UInt8) : dval ds ≤ dval (ds ++ es) := by
  suffices H : ∀ (es : List UInt8) (a : Nat), a ≤ es.foldl (fun a b => 10 * a + (b.toNat - 48)) a by
    unfold dval; rw [List.foldl_append]; exact H _ _
  intro es
  induction es with
  | nil => intro a; exact Nat.le_refl _
  | cons e r ih => intro a; exact Nat.le_trans (by show a ≤ 10 * a + (e.toNat - 48); omega) (ih _)
theorem dig_toNat (d : Nat) (h : d < 10) : (UInt8.ofNat (48 + d)).toNat = 48 + d := by
  simp; omega
theorem dval_dec (u : Nat) : dval (decDigits u) = u := by
  induction u using Nat.strongRecOn with
  | _ u ih =>
    rw [decDigits]
    by_cases h : u < 10
    · rw [dif_pos h]
      simp only [dval, List.foldl_cons, List.foldl_nil, dig_toNat u h]
      omega
    · rw [dif_neg h, dval_snoc, ih (u / 10) (by omega), dig_toNat _ (by omega)]
      omega
theorem dec_digit (u : Nat) : ∀ b ∈ decDigits u, 48 ≤ b.toNat ∧ b.toNat ≤ 57 := by
  induction u using Nat.strongRecOn with
  | _ u ih =>
    intro b hb
    rw [decDigits] at hb
    by_cases h : u < 10
    · rw [dif_pos h] at hb
      have hb := List.mem_singleton.1 hb
      subst hb
      rw [dig_toNat u h]; omega
    · rw [dif_neg h] at hb
      rcases List.mem_append.1 hb with hb | hb
      · exact ih (u / 10) (by omega) b hb
      · have hb := List.mem_singleton.1 hb
        subst hb
        rw [dig_toNat _ (by omega)]; omega
theorem dec_pos (u : Nat) : 1 ≤ (decDigits u).length := by
  rw [decDigits]; split <;> simp
theorem dec_head (u : Nat) (h : 10 ≤ u) : ∃ b r, decDigits u = b :: r ∧ b.toNat ≠ 48 := by
  induction u using Nat.strongRecOn with
  | _ u ih =>
    rw [decDigits, dif_neg (by omega)]
    by_cases h2 : u / 10 < 10
    · rw [decDigits, dif_pos h2]
      exact ⟨_, _, rfl, by rw [dig_toNat _ h2]; omega⟩
    · obtain ⟨b, r, e, hb⟩ := ih (u / 10) (by omega) (by omega)
      exact ⟨b, r ++ [UInt8.ofNat (48 + u % 10)], by rw [e]; rfl, hb⟩
theorem dec_head1 (u : Nat) (h : 1 < (decDigits u).length) : ((decDigits u).getD 0 0).toNat ≠ 48 := by
  by_cases h2 : u < 10
  · rw [decDigits, dif_pos h2] at h; simp at h
  · obtain ⟨b, r, e, hb⟩ := dec_head u (by omega)
    rw [e]; simpa using hb
theorem dec_len (u : Nat) (h : u < 18446744073709551616) : (decDigits u).length ≤ 20 := by
  have H : ∀ k u, u < 10 ^ (k + 1) → (decDigits u).length ≤ k + 1 := by
    intro k
    induction k with
    | zero => intro u hu; rw [decDigits, dif_pos (by simpa using hu)]; simp
    | succ k ih =>
      intro u hu
      rw [decDigits]
      by_cases h2 : u < 10
      · rw [dif_pos h2]; simp
      · rw [dif_neg h2, List.length_append]
        have := ih (u / 10) (by rw [Nat.pow_succ] at hu; omega)
        simp; omega
  exact H 19 u (by omega)
end Go.Proofs.YtokjgloefafdpaaDoor
