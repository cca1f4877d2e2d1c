/- spec.big: a number in so many bytes. -/
import Derived.Test.YtdncfolehkhjhaaDoorRd
import Derived.Test.YtdncfolehkhjhaaDoorApp
import Derived.Test.YtdncfolehkhjhaaDoorNum
namespace Go.Proofs.YtdncfolehkhjhaaDoor
open Go.RowKit
set_option linter.unusedVariables false
set_option linter.unusedSimpArgs false

abbrev byteAt (u : Int) (i : Nat) : Int := u / 2 ^ (8 * i) % 256
def beL (u : Int) (k : Nat) : List Int := (List.range k).map fun j => byteAt u (k - 1 - j)

theorem byteAt_bd (u : Int) (i : Nat) : 0 ≤ byteAt u i ∧ byteAt u i ≤ 255 := by
  unfold byteAt; generalize u / 2 ^ (8 * i) = v; omega
theorem beL_len (u : Int) (k : Nat) : (beL u k).length = k := by simp [beL]
theorem beL_snoc (u : Int) (k j : Nat) (h : j < k) : (beL u k).take (j + 1) = (beL u k).take j ++ [byteAt u (k - 1 - j)] := by
  have hl : j < (beL u k).length := by rw [beL_len]; exact h
  rw [List.take_succ_eq_append_getElem hl]
  simp [beL]

set_option maxRecDepth 100000 in
set_option maxHeartbeats 4000000 in
theorem big_any (u : Int) (h0 : 0 ≤ u) (h1 : u < 18446744073709551616) (k : Nat) (hk : k ≤ 8) (w : World) :
    Calls Tryd.prog 28 #[.int .u64 u, .int .i64 k] w fun e w' => ∃ a c, e = .returned (.slice a k c) ∧ O8 w' w.heap.size a k c (beL u k) ∧ Below w.heap.size w w' := by
  go_enter Tryd.func28, Tryd.ntmps28
  go_wp2_with fail
  go_loopw [5, 6] (fun v i wr => ∃ j a c, j ≤ k ∧ i = .int .i64 ((k : Int) - 1 - j) ∧ v = .slice a j c ∧ O8 wr w.heap.size a j c ((beL u k).take j) ∧ Below w.heap.size w wr) (fun _ i _ => (intOf i + 1).toNat)
  case atStart => exact ⟨0, none, 0, Nat.zero_le _, by go_num, rfl, Own.nil _ _ _, Below.refl _ _⟩
  case round =>
    obtain ⟨j, a, c, hj, rfl, rfl, hown, hbw⟩ := hrel
    have hsz := hbw.size
    by_cases hlt : j < k
    · obtain ⟨q, hq⟩ : ∃ q : Nat, k = j + 1 + q := ⟨k - j - 1, by omega⟩
      have hi : (k : Int) - 1 - (j : Int) = (q : Int) := by omega
      rw [hi]
      have hq7 : q ≤ 7 := by omega
      have hl := Own.lit 5 wr [byteAt u q] (by intro x hx; simp only [List.mem_singleton] at hx; subst hx; exact byteAt_bd u q) (by simp)
      have hsn := beL_snoc u k j hlt
      rw [show k - 1 - j = q by omega] at hsn
      have HQ := Lib.hid hq
      clear hq hi
      have HS := Lib.hid hsn
      clear hsn
      go_wp2_with (at_builtin; refine app8 (by rfl) _ _ (by rfl) w.heap.size a j c _ (by rfl) (hown.alloc _) _ 1 1 [byteAt u q] (by rfl) hl.vw (by omega) (by (first | omega | (simp; done) | (simp; omega))) ?_; intro a' c' w1 ho1 hg; have hb1 := below_of_grown (B := w.heap.size) hg (by (first | omega | (simp; done) | (simp; omega))) hown.ge)
      go_roundw
      case rel => exact ⟨j + 1, a', c', by omega, by have := HQ.out; congr 1; omega, rfl, by rw [HS.out]; exact ho1, Below.trans (b := _) (by (repeat (first | with_reducible exact Below.refl _ _ | with_reducible assumption | with_reducible refine below_drewN ?_ _ | with_reducible refine Below.drew ?_ | with_reducible refine below_row ?_ (by first | omega | (simp; done) | (simp; omega)) _ | with_reducible refine Below.alloc ?_ (by first | omega | (simp; done) | (simp; omega)) _ | with_reducible refine Below.setCell ?_ (by first | omega | (simp; done) | (simp; omega)) _))) hb1⟩
      case measure => first | (simp [intOf]; done) | (simp [intOf]; omega)
    · obtain rfl : j = k := by omega
      have hi : (j : Int) - 1 - (j : Int) = -1 := by omega
      rw [hi]
      clear hi
      rw [List.take_of_length_le (by rw [beL_len]; exact Nat.le_refl _)] at hown
      go_wp2_with fail
      go_ret
      exact ⟨a, c, rfl, hown, hbw⟩
end Go.Proofs.YtdncfolehkhjhaaDoor
