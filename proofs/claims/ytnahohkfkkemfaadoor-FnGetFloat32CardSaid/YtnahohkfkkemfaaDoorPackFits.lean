/- spec.PackFits. -/
import Derived.Test.YtnahohkfkkemfaaDoorFits
namespace Go.Proofs.YtnahohkfkkemfaaDoor
open Go.RowKit
set_option linter.unusedVariables false
set_option linter.unusedSimpArgs false

set_option maxRecDepth 100000 in
set_option maxHeartbeats 4000000 in
theorem packFits_any {w0 : World} {t : Pk} {k num ext : Int} {tx : ByteArray} {a : Option Addr} {n c : Nat} (h : PkAt w0 t (pkV k num tx ext a n c)) (lv : Int) (hlv : lv ≤ 100) (hlv2 : -100 ≤ lv) (w : World) (hx : Below w0.heap.size w0 w) :
    Calls Tryd.prog 27 #[pkV k num tx ext a n c, .int .i64 lv] w (FitRes (t.nodes ≤ 2000 ∧ t.fits) w) := by
  have HX := Lib.hid hx
  have hxs := hx.size
  have HW := Lib.hid h
  clear h hx
  unfold pkV at *
  go_enter Tryd.func27, Tryd.ntmps27
  go_wp2_with fail
  refine (few_any HW.out (w.heap.size + 1) 2000 _ (by omega) ((HX.out.alloc hxs _).alloc (by simp; omega) _) (by omega) (by omega) (Blk.newAt (by simp) _ _)).mono ?_
  rintro e w1 ⟨b, s', rfl, hB, hb, hk⟩
  have hb1 : Below w.heap.size w w1 := Below.trans (b := _) (by (repeat (first | with_reducible exact Below.refl _ _ | with_reducible assumption | with_reducible refine below_drewN ?_ _ | with_reducible refine Below.drew ?_ | with_reducible refine below_row ?_ (by first | omega | (simp; done) | (simp; omega)) _ | with_reducible refine Below.alloc ?_ (by first | omega | (simp; done) | (simp; omega)) _ | with_reducible refine Below.setCell ?_ (by first | omega | (simp; done) | (simp; omega)) _))) (hk.below (by (first | omega | (simp; done) | (simp; omega))) (by omega))
  have hBv := ((Blk.new w 25 #[.int .i64 k, .int .u64 num, .string tx, .int .i64 ext, .slice a n c]).alloc (.cells #[.int .i64 2000] 3)).kp hk (by simp; omega) (by omega)
  have q0 := hBv.cell (i := 0) rfl
  have q1 := hBv.cell (i := 1) rfl
  have q2 := hBv.cell (i := 2) rfl
  have q3 := hBv.cell (i := 3) rfl
  have q4 := hBv.cell (i := 4) rfl
  cases b with
  | false =>
    clear hb
    go_wp2_with fail
    go_ret
    exact ⟨false, rfl, (fun h => by cases h), hb1⟩
  | true =>
    obtain ⟨hb0, hb2⟩ := hb rfl
    have HB := Lib.hid hb2
    clear hb hb2
    go_wp2_with fail
    refine (fits_any HW.out lv _ hlv hlv2 (HX.out.trans (hb1.mono hxs))).mono ?_
    rintro e w2 ⟨b2, rfl, hc, hb3⟩
    go_wp2_with fail
    go_ret
    exact ⟨b2, rfl, fun h => ⟨by have := HB.out; omega, hc h⟩, hb1.trans (hb3.mono hb1.size)⟩
end Go.Proofs.YtnahohkfkkemfaaDoor
