/- laws.few. -/
import Derived.Test.YtbngkfdfjpbajaaLib
import Derived.Test.YtbngkfdfjpbajaaApp
namespace Go.Proofs.Ytbngkfdfjpbajaa
open Go.RowKit
set_option linter.unusedVariables false

theorem few_yes (a : Option Addr) (n c : Nat) (w : World) (h : n ≤ 200) :
    Calls Try.prog 6 #[.slice a n c] w fun e w' => e = .returned (.bool true) ∧ w' = w := by
  have h1 : ((n:Int) ≤ 200) := by omega
  go_enter Try.func6, Try.ntmps6
  go_wp2
  go_ret
  exact ⟨rfl, rfl⟩

theorem few_no (a : Option Addr) (n c : Nat) (w : World) (h : 200 < n) :
    Calls Try.prog 6 #[.slice a n c] w fun e w' => e = .returned (.bool false) ∧ w' = w := by
  have h1 : ((200 : Int) < n) := by omega
  have h2 : ¬ ((n : Int) ≤ 200) := by omega
  go_enter Try.func6, Try.ntmps6
  go_wp2
  go_ret
  exact ⟨rfl, rfl⟩
end Go.Proofs.Ytbngkfdfjpbajaa
