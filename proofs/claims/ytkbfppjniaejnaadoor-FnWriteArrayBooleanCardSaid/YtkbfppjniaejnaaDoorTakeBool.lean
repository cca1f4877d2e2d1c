/- spec.constructor.take at a boolean of one byte. -/
import Derived.Test.YtkbfppjniaejnaaDoorWithin
namespace Go.Proofs.YtkbfppjniaejnaaDoor
open Go.RowKit
set_option linter.unusedVariables false
set_option linter.unusedSimpArgs false

set_option maxRecDepth 100000 in
set_option maxHeartbeats 4000000 in
theorem take_bool (u : Int) (hu0 : 0 ≤ u) (hu1 : u ≤ 1) (a : Option Addr) (n cap : Nat) (tail : List Int) (lv : Int) (w0 : World) (hv : Vw w0 a n cap (u :: tail)) :
    ∃ a', Vw w0 a' (n - 1) (cap - 1) tail ∧ ∀ w, Below w0.heap.size w0 w → Calls Tryd.prog 42 #[ct nilS 86, .slice a n cap, .int .i64 lv] w fun e w' => e = .returned (got (av 1 u ⟨#[]⟩ nilS 0 nilS) a' (n - 1) (cap - 1)) ∧ Below w.heap.size w w' := by
  have hn1 : 1 ≤ n := by have := hv.len; simp at this; omega
  obtain ⟨a', hoff, hv'⟩ := off_of hv 1 1 rfl hn1
  refine ⟨a', by simpa using hv', fun w hx => ?_⟩
  have hvw := Vw.below hx (Nat.le_refl _) hv
  have hle : decide (u ≤ 1) = true := by simpa using hu1
  have HS := Lib.hid hoff
  have hb1 : beN [u] = u := by simp [beN]
  clear hoff
  unfold ct
  go_enter Tryd.func42, Tryd.ntmps42
  go_wp2_with fail
  refine (kindOf_ok 86 1 1 ⟨rfl, rfl⟩ _).mono ?_
  rintro e w1 ⟨rfl, hb1'⟩
  have hs1 : w.heap.size + 3 ≤ w1.heap.size := by have := hb1'.size; simp at this; omega
  have hB3 : Blk w1 w.heap.size 81 #[nilS, .int .i64 86] := Blk.below (by (repeat (first | with_reducible exact Blk.new _ _ _ | with_reducible assumption | with_reducible refine Blk.newAt (by first | rfl | (simp; done) | (simp; omega)) _ _ | with_reducible refine Blk.alloc ?_ _ | with_reducible refine Blk.drewN ?_ _ | with_reducible refine Blk.drew ?_ | with_reducible refine Blk.other ?_ (by first | omega | (simp; done) | (simp; omega)) _))) hb1' (by (first | omega | (simp; done) | (simp; omega)))
  have hB6 : Blk w1 (w.heap.size + 1) 29 #[.int .i64 0, .int .u64 0, .string ⟨#[]⟩, nilS, .int .i64 0, nilS] := Blk.below (by (repeat (first | with_reducible exact Blk.new _ _ _ | with_reducible assumption | with_reducible refine Blk.newAt (by first | rfl | (simp; done) | (simp; omega)) _ _ | with_reducible refine Blk.alloc ?_ _ | with_reducible refine Blk.drewN ?_ _ | with_reducible refine Blk.drew ?_ | with_reducible refine Blk.other ?_ (by first | omega | (simp; done) | (simp; omega)) _))) hb1' (by (first | omega | (simp; done) | (simp; omega)))
  have hbw : Below w.heap.size w w1 := Below.trans (b := _) (by (repeat (first | with_reducible exact Below.refl _ _ | with_reducible assumption | with_reducible refine below_drewN ?_ _ | with_reducible refine Below.drew ?_ | with_reducible refine below_row ?_ (by first | omega | (simp; done) | (simp; omega)) _ | with_reducible refine Below.alloc ?_ (by first | omega | (simp; done) | (simp; omega)) _ | with_reducible refine Below.setCell ?_ (by first | omega | (simp; done) | (simp; omega)) _))) (hb1'.mono (by (first | omega | (simp; done) | (simp; omega))))
  have hc30 := hB3.cell (i := 0) rfl
  have hc31 := hB3.cell (i := 1) rfl
  have hv1 := Vw.below hb1' (Nat.le_refl _) (((hvw.alloc _).alloc _).alloc _)
  go_wp2_with fail
  refine (takeBig_ok _ _ _ _ 1 rfl (u :: tail) _ (hv1.alloc _) _ HS.out hn1 (by omega)).mono ?_
  rw [show (u :: tail).take 1 = [u] from rfl, hb1]
  rintro e w2 ⟨rfl, nq, rfl⟩
  have hd31 := fun o => ((hB3.alloc o).drewN nq).cell (i := 1) rfl
  have hg6 := fun o i => ((hB6.alloc o).drewN nq).frozen i
  have hd60 := fun o => ((hB6.alloc o).drewN nq).cell (i := 0) rfl
  have hd61 := fun o => ((hB6.alloc o).drewN nq).cell (i := 1) rfl
  have hd62 := fun o => ((hB6.alloc o).drewN nq).cell (i := 2) rfl
  have hd63 := fun o => ((hB6.alloc o).drewN nq).cell (i := 3) rfl
  have hd64 := fun o => ((hB6.alloc o).drewN nq).cell (i := 4) rfl
  have hd65 := fun o => ((hB6.alloc o).drewN nq).cell (i := 5) rfl
  go_wp2_with fail
  refine bodyPost_ret (results_ctt rfl _ _ (w.heap.size + 1) 29 _ _ rfl (Blk.set6 (((hB6.alloc _).drewN nq).other (by simp; omega) _) rfl _ _ _ _ _ _) Tryd.underlying29 rfl (by kernel_rfl)) rfl ⟨rfl, ?_⟩
  (repeat (first | with_reducible exact Below.refl _ _ | with_reducible assumption | with_reducible refine below_drewN ?_ _ | with_reducible refine Below.drew ?_ | with_reducible refine below_row ?_ (by first | omega | (simp; done) | (simp; omega)) _ | with_reducible refine Below.alloc ?_ (by first | omega | (simp; done) | (simp; omega)) _ | with_reducible refine Below.setCell ?_ (by first | omega | (simp; done) | (simp; omega)) _))
end Go.Proofs.YtkbfppjniaejnaaDoor
