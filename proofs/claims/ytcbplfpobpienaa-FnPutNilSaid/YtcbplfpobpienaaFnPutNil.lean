/- The walk of laws.FnPutNil. -/
import Derived.Test.YtcbplfpobpienaaAppended
import Derived.Test.YtcbplfpobpienaaPut
namespace Go.Proofs.Ytcbplfpobpienaa
open Go.RowKit
set_option linter.unusedVariables false

theorem take_putNil (w0 : World) (a1 : Option Addr) (c : Nat) (h : Vw w0 a1 1 c [192]) :
    ∃ a3 c3, ∀ w', Below w0.heap.size w0 w' → Took 20 #[.slice a1 1 c, .int .i64 1] w' (pk 0 0 ⟨#[]⟩ 0) a3 0 c3 := by
  obtain ⟨a', _, hc⟩ := takePack_coded 192 a1 1 c [] 1 w0 h (by omega) (by omega) (by omega) 0 0 0 ⟨#[]⟩ 0 (c - 1) [] (fun a1 h1 => takeCoded_nil a1 0 (c - 1) [] 1 w0 h1)
  exact ⟨a', _, hc⟩

set_option maxRecDepth 100000 in
set_option maxHeartbeats 1000000 in
theorem fnPutNil_walk (a : Option Addr) (n c : Nat) (l : List Int) (w : World) (hv : Vw w a n c l) :
    Calls Try.prog 3 #[.slice a n c] w fun e w' => e = .returned (.bool true) ∧ Below w.heap.size w w' := by
  by_cases hbig : 2147483647 < n
  · have hb : (2147483647 : Int) < n := by omega
    go_enter Try.func3, Try.ntmps3
    go_wp2_with fail
    go_ret
    exact ⟨rfl, Below.refl _ _⟩
  · have hb : ¬ ((2147483647 : Int) < n) := by omega
    go_enter Try.func3, Try.ntmps3
    go_wp2_with fail
    refine (putNil_any none 0 0 [] _ (Vw.nil _) (by omega)).mono ?_
    rintro e w1 ⟨a1, c1, rfl, h1, hb1⟩
    go_wp2_with fail
    by_cases hf : n ≤ 200
    · refine (few_yes _ _ _ _ hf).mono ?_
      rintro e w1 ⟨rfl, rfl⟩
      have hv1 := Vw.below hb1 (Nat.le_refl _) hv
      go_wp2_with (at_builtin; refine app8_copy (by rfl) _ _ (by rfl) (by rfl) a n c l (by rfl) hv1 (by omega) ?_; intro a2 c2 w2 ho hb2)
      go_wp2_with fail
      refine (putNil_any _ _ _ _ _ ho.vw (by omega)).mono ?_
      rintro e w3 ⟨a3, c3, rfl, h3, hb3⟩
      go_wp2_with fail
      have hv3 := Vw.below hb3 (Nat.le_refl _) (Vw.below hb2 (Nat.le_refl _) hv1)
      refine (appended_ok a n c l a3 (n + 1) c3 [192] w3 hv3 h3.vw 1 (.inr (by simp)) 0 0 0 0 0 0 ⟨#[]⟩ ⟨#[]⟩ ?_ (fun w' => samePack_eq 0 0 0 ⟨#[]⟩ w' rfl)).mono ?_
      · intro b1 hb1
        have e : n + 1 - n = 1 := by omega
        rw [e] at hb1 ⊢
        exact take_putNil w3 b1 _ hb1
      · rintro e w4 ⟨rfl, hb4⟩
        go_wp2_with fail
        go_ret
        exact ⟨rfl, hb1.trans ((hb2.mono hb1.size).trans ((hb3.mono (Nat.le_trans hb1.size hb2.size)).trans (hb4.mono (Nat.le_trans hb1.size (Nat.le_trans hb2.size hb3.size)))))⟩
    · refine (few_no _ _ _ _ (by omega)).mono ?_
      rintro e w1 ⟨rfl, rfl⟩
      go_wp2_with fail
      go_ret
      exact ⟨rfl, hb1⟩
end Go.Proofs.Ytcbplfpobpienaa
