/- spec.SamePack at values without values in them. -/
import Derived.Test.YtbngkfdfjpbajaaTake
namespace Go.Proofs.Ytbngkfdfjpbajaa
open Go.RowKit
set_option linter.unusedVariables false

set_option maxRecDepth 100000 in
set_option maxHeartbeats 1000000 in
theorem samePack_eq (k num ext : Int) (text : ByteArray) (w : World) (hk : (k == 2) = false) :
    Calls Try.prog 14 #[pk k num text ext, pk k num text ext] w fun e w' => e = .returned (.bool true) ∧ Below w.heap.size w w' := by
  unfold pk
  go_enter Try.func14, Try.ntmps14
  go_wp2_with fail
  refine wp_loop_once ?_
  go_wp2_with fail
  go_ret
  refine ⟨rfl, ?_⟩
  (repeat (first | with_reducible exact Below.refl _ _ | with_reducible assumption | with_reducible refine below_drewN ?_ _ | with_reducible refine Below.drew ?_ | with_reducible refine below_row ?_ (by first | omega | (simp; done) | (simp; omega)) _ | with_reducible refine Below.alloc ?_ (by first | omega | (simp; done) | (simp; omega)) _ | with_reducible refine Below.setCell ?_ (by first | omega | (simp; done) | (simp; omega)) _))

set_option maxRecDepth 100000 in
set_option maxHeartbeats 1000000 in
theorem samePack_pos (k num ext : Int) (text : ByteArray) (w : World) (h0 : 0 ≤ num) (h1 : num < 9223372036854775808) :
    Calls Try.prog 14 #[pk 2 num text ext, pk 3 num text ext] w fun e w' => e = .returned (.bool true) ∧ Below w.heap.size w w' := by
  unfold pk
  go_enter Try.func14, Try.ntmps14
  go_wp2_with fail
  refine wp_loop_once ?_
  go_wp2_with fail
  go_ret
  refine ⟨rfl, ?_⟩
  (repeat (first | with_reducible exact Below.refl _ _ | with_reducible assumption | with_reducible refine below_drewN ?_ _ | with_reducible refine Below.drew ?_ | with_reducible refine below_row ?_ (by first | omega | (simp; done) | (simp; omega)) _ | with_reducible refine Below.alloc ?_ (by first | omega | (simp; done) | (simp; omega)) _ | with_reducible refine Below.setCell ?_ (by first | omega | (simp; done) | (simp; omega)) _))

set_option maxRecDepth 100000 in
set_option maxHeartbeats 1000000 in
theorem samePack_neg (k num ext : Int) (text : ByteArray) (w : World) (h0 : 9223372036854775808 ≤ num) (h1 : num < 18446744073709551616) :
    Calls Try.prog 14 #[pk 2 num text ext, pk 2 num text ext] w fun e w' => e = .returned (.bool true) ∧ Below w.heap.size w w' := by
  have ht : wrap64 num < 0 := by unfold wrap64; omega
  unfold pk
  go_enter Try.func14, Try.ntmps14
  go_wp2_with fail
  refine wp_loop_once ?_
  go_wp2_with fail
  go_ret
  refine ⟨rfl, ?_⟩
  (repeat (first | with_reducible exact Below.refl _ _ | with_reducible assumption | with_reducible refine below_drewN ?_ _ | with_reducible refine Below.drew ?_ | with_reducible refine below_row ?_ (by first | omega | (simp; done) | (simp; omega)) _ | with_reducible refine Below.alloc ?_ (by first | omega | (simp; done) | (simp; omega)) _ | with_reducible refine Below.setCell ?_ (by first | omega | (simp; done) | (simp; omega)) _))

end Go.Proofs.Ytbngkfdfjpbajaa
