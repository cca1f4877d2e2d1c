/- spec.kindOf: the kinds of the codes of AMQP. -/
import Derived.Test.YtkbfppjniaejnaaDoorProg
import Derived.Test.YtkbfppjniaejnaaDoorBig
import Derived.Test.YtkbfppjniaejnaaDoorMap
import Derived.Outline
import Derived.RegionTactic
import Derived.Deep.QuietTactic
import Derived.BigQuiet
namespace Go.Proofs.YtkbfppjniaejnaaDoor
open Go.RowKit
set_option linter.unusedVariables false

def kp (a b : Int) : Value := .agg #[.int .i64 a, .int .i64 b]
def knds : List (Int × Value) := [(64, kp 0 0), (65, kp 1 0), (66, kp 1 0), (67, kp 4 0), (68, kp 5 0), (69, kp 21 0), (80, kp 2 1), (81, kp 6 1), (82, kp 4 1), (83, kp 5 1), (84, kp 8 1), (85, kp 9 1), (86, kp 1 1), (96, kp 3 2), (97, kp 7 2), (112, kp 4 4), (113, kp 8 4), (114, kp 10 4), (115, kp 15 4), (116, kp 12 4), (128, kp 5 8), (129, kp 9 8), (130, kp 11 8), (131, kp 16 8), (132, kp 13 8), (148, kp 14 16), (152, kp 17 16), (160, kp 18 1), (176, kp 18 4), (161, kp 19 1), (177, kp 19 4), (163, kp 20 1), (179, kp 20 4), (192, kp 21 1), (208, kp 21 4), (193, kp 22 1), (209, kp 22 4), (224, kp 23 1), (240, kp 23 4)]

theorem zeroPair (w : World) : (zeroValue 101).run Tryd.prog w = .ok (kp 0 0) w := by kernel_rfl
theorem made0 (t : TypeId) (w : World) : (Instr.makeMap t none).run Tryd.prog w = .ok (.map (some w.heap.size)) (w.alloc (imap [])) := rfl

/-- What is known of a code. -/
structure Kind (c k s : Int) : Prop where
  look : ilook knds (kp 0 0) c = kp k s
  has : ihas knds c = true

set_option maxRecDepth 100000 in
set_option maxHeartbeats 8000000 in
theorem kindOf_ok (c k s : Int) (hk : Kind c k s) (w : World) :
    Calls Tryd.prog 53 #[.int .i64 c] w fun e w' => e = .returned (.tuple #[.int .i64 k, .int .i64 s, .bool true]) ∧ Below w.heap.size w w' := by
  obtain ⟨hl, hh⟩ := hk
  have hlk : ∀ (W : World) (m : Nat), m = W.heap.size → (Instr.lookup 102 (.map (some m)) (.int .i64 c) true).run Tryd.prog (W.alloc (imap knds)) = .ok (.tuple #[kp k s, .bool true]) (W.alloc (imap knds)) := by
    intro W m hm
    subst hm
    have := run_lookup_imap_ok (P := Tryd.prog) 102 3 101 Tryd.underlying102 Tryd.underlying3 knds c (kp 0 0) (W.alloc (imap knds)) W.heap.size (heap_alloc_new W _) (zeroPair _)
    rw [hl, hh] at this
    exact this
  simp only [knds, kp] at hlk
  have hmk := made0
  have hins := insert_rule (P := Tryd.prog) 102 3 101 Tryd.underlying102 Tryd.underlying3
  clear hl hh
  go_enter Tryd.func53, Tryd.ntmps53
  go_wp2_with fail
  go_quiet (fail)
  go_wp2_with fail
  refine bodyPost_ret (v := .tuple #[.int .i64 k, .int .i64 s, .bool true]) (by simp [results, Tryd.results53, go_sem]) rfl ⟨rfl, ?_⟩
  (repeat (first | with_reducible exact Below.refl _ _ | with_reducible assumption | with_reducible refine below_drewN ?_ _ | with_reducible refine Below.drew ?_ | with_reducible refine below_row ?_ (by first | omega | (simp; done) | (simp; omega)) _ | with_reducible refine Below.alloc ?_ (by first | omega | (simp; done) | (simp; omega)) _ | with_reducible refine Below.setCell ?_ (by first | omega | (simp; done) | (simp; omega)) _))
end Go.Proofs.YtkbfppjniaejnaaDoor
