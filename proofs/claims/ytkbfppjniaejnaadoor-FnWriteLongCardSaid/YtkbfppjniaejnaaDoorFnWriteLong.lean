/- THE WALK of laws.FnWriteLong. -/
import Derived.Test.YtkbfppjniaejnaaDoorWriteLong
namespace Go.Proofs.YtkbfppjniaejnaaDoor
open Go.RowKit
set_option linter.unusedVariables false

set_option maxHeartbeats 1000000 in
theorem fnWriteLong_walk (u : Int) (h0 : -9223372036854775808 ≤ u) (h1 : u < 9223372036854775808) (w : World) :
    Calls Tryd.prog 4 #[.int .i64 u] w fun e w' => e = .returned (.bool true) ∧ Below w.heap.size w w' := by
  have hcv : IntKind.u64.wrap u = u % 18446744073709551616 := wrap_u64 u
  go_enter Tryd.func4, Tryd.ntmps4
  go_wp2_with (go_at_call 14; refine (implWriteLong 5 (by omega) (by omega) _).mono ?_; rintro e w1 ⟨a1, n1, c1, rfl, hv1, hb1⟩)
  refine (wrote_whole _ 9 5 _ (longB_whole 5 (by omega) (by omega)) a1 n1 c1 _ hv1).mono ?_
  rintro e w2 ⟨rfl, hb2⟩
  go_wp2_with (go_at_call 14; refine (implWriteLong u h0 h1 _).mono ?_; rintro e w3 ⟨a3, n3, c3, rfl, hv3, hb3⟩)
  refine (wrote_whole _ 9 (u % 18446744073709551616) _ (longB_whole u h0 h1) a3 n3 c3 _ hv3).mono ?_
  rintro e w4 ⟨rfl, hb4⟩
  go_wp2_with fail
  go_ret
  exact ⟨rfl, hb1.trans ((hb2.mono hb1.size).trans ((hb3.mono (Nat.le_trans hb1.size hb2.size)).trans (hb4.mono (Nat.le_trans hb1.size (Nat.le_trans hb2.size hb3.size)))))⟩
end Go.Proofs.YtkbfppjniaejnaaDoor
