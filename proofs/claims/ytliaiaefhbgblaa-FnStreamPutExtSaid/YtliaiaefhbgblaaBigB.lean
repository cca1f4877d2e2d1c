/- spec.big: a number in so many bytes. -/
import Derived.Test.YtliaiaefhbgblaaRd
import Derived.Test.YtliaiaefhbgblaaApp
import Derived.Test.YtliaiaefhbgblaaNum
namespace Go.Proofs.Ytliaiaefhbgblaa
open Go.RowKit
set_option linter.unusedVariables false
set_option linter.unusedSimpArgs false

abbrev byteAt (u : Int) (i : Nat) : Int := u / 2 ^ (8 * i) % 256
def beL (u : Int) (k : Nat) : List Int := (List.range k).map fun j => byteAt u (k - 1 - j)

theorem byteAt_bd (u : Int) (i : Nat) : 0 ≤ byteAt u i ∧ byteAt u i ≤ 255 := by
  unfold byteAt; generalize u / 2 ^ (8 * i) = v; omega
theorem beL_len (u : Int) (k : Nat) : (beL u k).length = k := by simp [beL]
theorem beL_snoc (u : Int) (k j : Nat) (h : j < k) : (beL u k).take (j + 1) = (beL u k).take j ++ [byteAt u (k - 1 - j)] := by
  have hl : j < (beL u k).length := by rw [beL_len]; exact h
  rw [List.take_succ_eq_append_getElem hl]
  simp [beL]

end Go.Proofs.Ytliaiaefhbgblaa
