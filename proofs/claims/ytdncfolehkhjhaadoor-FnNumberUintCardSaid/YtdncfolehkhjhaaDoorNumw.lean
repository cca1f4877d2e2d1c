/- impl.number, impl.NumberUint, spec.Whole62, laws.floatValue: the walks. -/
import Derived.Test.YtdncfolehkhjhaaDoorNumc
import Derived.Test.YtdncfolehkhjhaaDoorNump
namespace Go.Proofs.YtdncfolehkhjhaaDoor
open Go.RowKit
set_option linter.unusedVariables false
set_option linter.unusedSimpArgs false

theorem tabAt_below {t : List Nat} {w W : World} (h : TabAt 3 t w) (hb : Below w.heap.size w W) : TabAt 3 t W := fun j hj => by
  have h1 := h j hj
  have h2 := World.block_lt_of_cell? w _ h1
  rw [hb.cell (p := ⟨3, j, none⟩) h2]; exact h1

def NumRes (x : Nat) (t : Int) (w : World) (e : Ending) (w' : World) : Prop := ∃ g, e = .returned (.pointer (some ⟨g, 0, none⟩)) ∧ NumAt w' g x t ∧ Below w.heap.size w w'
set_option maxRecDepth 100000 in
set_option maxHeartbeats 4000000 in
theorem asInt_0 (g x0 : Nat) (t0 : Int)  (w : World) (hB : NumAt w g x0 t0) :
    Calls Tryd.prog 38 #[.pointer (some ⟨g, 0, none⟩), .int .i64 0] w fun e w' => e = .returned (.tuple #[]) ∧ NumAt w' g 0 0 ∧ Below g w w' := by
  have q0 := hB.cell (i := 0) rfl
  have q1 := hB.cell (i := 1) rfl
  have hl := hB.lt
  have f0 := hB.frozen 0
  have f1 := hB.frozen 1
  have HB := Lib.hid hB
  clear hB
  go_enter Tryd.func38, Tryd.ntmps38
  go_wp2_with fail
  first | go_end0 | refine bodyPost_ret (results_none rfl _ _ _) rfl ?_
  exact ⟨rfl, (HB.out.set 1 _).set 0 _, by (repeat (first | with_reducible exact Below.refl _ _ | with_reducible assumption | with_reducible refine below_drewN ?_ _ | with_reducible refine Below.drew ?_ | with_reducible refine below_row ?_ (by first | omega | (simp; done) | (simp; omega)) _ | with_reducible refine Below.alloc ?_ (by first | omega | (simp; done) | (simp; omega)) _ | with_reducible refine Below.setCell ?_ (by first | omega | (simp; done) | (simp; omega)) _))⟩
set_option maxRecDepth 100000 in
set_option maxHeartbeats 4000000 in
theorem asInt_n (g x0 : Nat) (t0 : Int) (x : Nat) (y : Int) (hy : IntKind.u64.wrap y = x) (h0 : (y == 0) = false) (w : World) (hB : NumAt w g x0 t0) :
    Calls Tryd.prog 38 #[.pointer (some ⟨g, 0, none⟩), .int .i64 y] w fun e w' => e = .returned (.tuple #[]) ∧ NumAt w' g x 8 ∧ Below g w w' := by
  have q0 := hB.cell (i := 0) rfl
  have q1 := hB.cell (i := 1) rfl
  have hl := hB.lt
  have f0 := hB.frozen 0
  have f1 := hB.frozen 1
  have HB := Lib.hid hB
  clear hB
  go_enter Tryd.func38, Tryd.ntmps38
  go_wp2_with fail
  first | go_end0 | refine bodyPost_ret (results_none rfl _ _ _) rfl ?_
  exact ⟨rfl, (HB.out.set 1 _).set 0 _, by (repeat (first | with_reducible exact Below.refl _ _ | with_reducible assumption | with_reducible refine below_drewN ?_ _ | with_reducible refine Below.drew ?_ | with_reducible refine below_row ?_ (by first | omega | (simp; done) | (simp; omega)) _ | with_reducible refine Below.alloc ?_ (by first | omega | (simp; done) | (simp; omega)) _ | with_reducible refine Below.setCell ?_ (by first | omega | (simp; done) | (simp; omega)) _))⟩
set_option maxRecDepth 100000 in
set_option maxHeartbeats 4000000 in
theorem asUint_any (g x0 : Nat) (t0 : Int) (x : Nat) (w : World) (hB : NumAt w g x0 t0) :
    Calls Tryd.prog 39 #[.pointer (some ⟨g, 0, none⟩), .int .u64 x] w fun e w' => e = .returned (.tuple #[]) ∧ NumAt w' g x 9 ∧ Below g w w' := by
  have q0 := hB.cell (i := 0) rfl
  have q1 := hB.cell (i := 1) rfl
  have hl := hB.lt
  have f0 := hB.frozen 0
  have f1 := hB.frozen 1
  have HB := Lib.hid hB
  clear hB
  go_enter Tryd.func39, Tryd.ntmps39
  go_wp2_with fail
  first | go_end0 | refine bodyPost_ret (results_none rfl _ _ _) rfl ?_
  exact ⟨rfl, (HB.out.set 1 _).set 0 _, by (repeat (first | with_reducible exact Below.refl _ _ | with_reducible assumption | with_reducible refine below_drewN ?_ _ | with_reducible refine Below.drew ?_ | with_reducible refine below_row ?_ (by first | omega | (simp; done) | (simp; omega)) _ | with_reducible refine Below.alloc ?_ (by first | omega | (simp; done) | (simp; omega)) _ | with_reducible refine Below.setCell ?_ (by first | omega | (simp; done) | (simp; omega)) _))⟩
set_option maxRecDepth 100000 in
set_option maxHeartbeats 4000000 in
theorem asF32_any (g x0 : Nat) (t0 : Int) (x : Nat) (hx : x < 4294967296) (w : World) (hB : NumAt w g x0 t0) :
    Calls Tryd.prog 40 #[.pointer (some ⟨g, 0, none⟩), .float .f32 x] w fun e w' => e = .returned (.tuple #[]) ∧ NumAt w' g x 6 ∧ Below g w w' := by
  have q0 := hB.cell (i := 0) rfl
  have q1 := hB.cell (i := 1) rfl
  have hl := hB.lt
  have f0 := hB.frozen 0
  have f1 := hB.frozen 1
  have hc := nf32_to x
  have HB := Lib.hid hB
  clear hB
  go_enter Tryd.func40, Tryd.ntmps40
  go_wp2_with fail
  first | go_end0 | refine bodyPost_ret (results_none rfl _ _ _) rfl ?_
  exact ⟨rfl, (HB.out.set 1 _).set 0 _, by (repeat (first | with_reducible exact Below.refl _ _ | with_reducible assumption | with_reducible refine below_drewN ?_ _ | with_reducible refine Below.drew ?_ | with_reducible refine below_row ?_ (by first | omega | (simp; done) | (simp; omega)) _ | with_reducible refine Below.alloc ?_ (by first | omega | (simp; done) | (simp; omega)) _ | with_reducible refine Below.setCell ?_ (by first | omega | (simp; done) | (simp; omega)) _))⟩
set_option maxRecDepth 100000 in
set_option maxHeartbeats 4000000 in
theorem asF64_any (g x0 : Nat) (t0 : Int) (x : Nat) (w : World) (hB : NumAt w g x0 t0) :
    Calls Tryd.prog 41 #[.pointer (some ⟨g, 0, none⟩), .float .f64 x] w fun e w' => e = .returned (.tuple #[]) ∧ NumAt w' g x 5 ∧ Below g w w' := by
  have q0 := hB.cell (i := 0) rfl
  have q1 := hB.cell (i := 1) rfl
  have hl := hB.lt
  have f0 := hB.frozen 0
  have f1 := hB.frozen 1
  have hc := nf64_to x
  have HB := Lib.hid hB
  clear hB
  go_enter Tryd.func41, Tryd.ntmps41
  go_wp2_with fail
  first | go_end0 | refine bodyPost_ret (results_none rfl _ _ _) rfl ?_
  exact ⟨rfl, (HB.out.set 1 _).set 0 _, by (repeat (first | with_reducible exact Below.refl _ _ | with_reducible assumption | with_reducible refine below_drewN ?_ _ | with_reducible refine Below.drew ?_ | with_reducible refine below_row ?_ (by first | omega | (simp; done) | (simp; omega)) _ | with_reducible refine Below.alloc ?_ (by first | omega | (simp; done) | (simp; omega)) _ | with_reducible refine Below.setCell ?_ (by first | omega | (simp; done) | (simp; omega)) _))⟩
set_option maxRecDepth 100000 in
set_option maxHeartbeats 4000000 in
theorem number_0  (w : World) : Calls Tryd.prog 20 #[.int .i64 0, .int .u64 0] w (NumRes 0 0 w) := by
  go_enter Tryd.func20, Tryd.ntmps20
  go_wp2_with fail
  refine (asInt_0 _ _ _ _ (Blk.new _ _ _)).mono ?_
  rintro e w1 ⟨rfl, hB1, hb1⟩
  go_wp2_with fail
  go_ret
  exact ⟨_, rfl, hB1, ((Below.refl _ w).alloc (Nat.le_refl _) _).trans hb1⟩
set_option maxRecDepth 100000 in
set_option maxHeartbeats 4000000 in
theorem number_n (x : Nat) (h0 : x ≠ 0) (hx : x < 18446744073709551616) (w : World) : Calls Tryd.prog 20 #[.int .i64 0, .int .u64 x] w (NumRes x 8 w) := by
  obtain ⟨y, hy, hy2, hy3⟩ : ∃ y : Int, wrap64 (x : Int) = y ∧ IntKind.u64.wrap y = x ∧ (y == 0) = false := ⟨_, rfl, by rw [wrap64_mod, wrap_u64]; omega, by rw [wrap64_mod]; simp; omega⟩
  clear h0 hx
  go_enter Tryd.func20, Tryd.ntmps20
  go_wp2_with fail
  refine (asInt_n _ _ _ x y hy2 hy3 _ (Blk.new _ _ _)).mono ?_
  rintro e w1 ⟨rfl, hB1, hb1⟩
  go_wp2_with fail
  go_ret
  exact ⟨_, rfl, hB1, ((Below.refl _ w).alloc (Nat.le_refl _) _).trans hb1⟩
set_option maxRecDepth 100000 in
set_option maxHeartbeats 4000000 in
theorem number_u (x : Nat) (w : World) : Calls Tryd.prog 20 #[.int .i64 1, .int .u64 x] w (NumRes x 9 w) := by
  go_enter Tryd.func20, Tryd.ntmps20
  go_wp2_with fail
  refine (asUint_any _ _ _ x _ (Blk.new _ _ _)).mono ?_
  rintro e w1 ⟨rfl, hB1, hb1⟩
  go_wp2_with fail
  go_ret
  exact ⟨_, rfl, hB1, ((Below.refl _ w).alloc (Nat.le_refl _) _).trans hb1⟩
set_option maxRecDepth 100000 in
set_option maxHeartbeats 4000000 in
theorem number_32 (x : Nat) (hx : x < 4294967296) (w : World) : Calls Tryd.prog 20 #[.int .i64 2, .int .u64 x] w (NumRes x 6 w) := by
  have hw : IntKind.u32.wrap (x : Int) = x := by rw [IntKind.wrap_u32]; omega
  have hc := nf32_from (x : Int)
  simp only [Int.toNat_natCast] at hc
  go_enter Tryd.func20, Tryd.ntmps20
  go_wp2_with fail
  refine (asF32_any _ _ _ x hx _ (Blk.new _ _ _)).mono ?_
  rintro e w1 ⟨rfl, hB1, hb1⟩
  go_wp2_with fail
  go_ret
  exact ⟨_, rfl, hB1, ((Below.refl _ w).alloc (Nat.le_refl _) _).trans hb1⟩
set_option maxRecDepth 100000 in
set_option maxHeartbeats 4000000 in
theorem number_64 (x : Nat) (w : World) : Calls Tryd.prog 20 #[.int .i64 3, .int .u64 x] w (NumRes x 5 w) := by
  have hc := nf64_from (x : Int)
  simp only [Int.toNat_natCast] at hc
  go_enter Tryd.func20, Tryd.ntmps20
  go_wp2_with fail
  refine (asF64_any _ _ _ x _ (Blk.new _ _ _)).mono ?_
  rintro e w1 ⟨rfl, hB1, hb1⟩
  go_wp2_with fail
  go_ret
  exact ⟨_, rfl, hB1, ((Below.refl _ w).alloc (Nat.le_refl _) _).trans hb1⟩
set_option maxRecDepth 100000 in
set_option maxHeartbeats 4000000 in
theorem nu_of (k : Int) (x : Int) (y : Nat) (t : Int) (R : Int → Bool → Prop) (w : World) (hT : TabAt 3 Go.Lib.deBruijn64tab w) (hn : Calls Tryd.prog 20 #[.int .i64 k, .int .u64 x] w (NumRes y t w))
    (hc : ∀ g W, NumAt W g y t → TabAt 3 Go.Lib.deBruijn64tab W → Calls Tryd.prog 21 #[.pointer (some ⟨g, 0, none⟩)] W fun e w' => ∃ n ok, R n ok ∧ e = .returned (.tuple #[.int .u64 n, .bool ok]) ∧ Below W.heap.size W w') :
    Calls Tryd.prog 6 #[.int .i64 k, .int .u64 x] w fun e w' => ∃ n ok, R n ok ∧ e = .returned (.tuple #[.int .u64 n, .bool ok]) ∧ Below w.heap.size w w' := by
  have HT := Lib.hid hT
  have HN := Lib.hid hn
  have HC := Lib.hid hc
  clear hT hn hc
  go_enter Tryd.func6, Tryd.ntmps6
  go_wp2_with fail
  refine HN.out.mono ?_
  rintro e w1 ⟨g, rfl, hB1, hb1⟩
  go_wp2_with fail
  refine (HC.out g w1 hB1 (tabAt_below HT.out hb1)).mono ?_
  rintro e w2 ⟨n, ok, hR, rfl, hb2⟩
  have HR := Lib.hid hR
  clear hR
  have hb12 := hb1.trans (hb2.mono hb1.size)
  go_wp2_with fail
  go_ret2
  exact ⟨n, ok, HR.out, rfl, hb12⟩
set_option maxRecDepth 100000 in
set_option maxHeartbeats 4000000 in
theorem w62_nan (y : Nat) (h0 : FloatKind.f64.format.order y y = none) (w : World) : Calls Tryd.prog 8 #[.float .f64 y] w fun e w' => e = .returned (.tuple #[.int .i64 0, .bool false, .bool false]) ∧ Below w.heap.size w w' := by
  go_enter Tryd.func8, Tryd.ntmps8
  go_wp2_with fail
  go_ret3
  exact ⟨rfl, by (repeat (first | with_reducible exact Below.refl _ _ | with_reducible assumption | with_reducible refine below_drewN ?_ _ | with_reducible refine Below.drew ?_ | with_reducible refine below_row ?_ (by first | omega | (simp; done) | (simp; omega)) _ | with_reducible refine Below.alloc ?_ (by first | omega | (simp; done) | (simp; omega)) _ | with_reducible refine Below.setCell ?_ (by first | omega | (simp; done) | (simp; omega)) _))⟩
set_option maxRecDepth 100000 in
set_option maxHeartbeats 4000000 in
theorem w62_gt (y : Nat) (h0 : FloatKind.f64.format.order y y = some .eq) (h1 : FloatKind.f64.format.order y 4886405595696988160 = some .gt) (w : World) : Calls Tryd.prog 8 #[.float .f64 y] w fun e w' => e = .returned (.tuple #[.int .i64 0, .bool false, .bool true]) ∧ Below w.heap.size w w' := by
  go_enter Tryd.func8, Tryd.ntmps8
  go_wp2_with fail
  go_ret3
  exact ⟨rfl, by (repeat (first | with_reducible exact Below.refl _ _ | with_reducible assumption | with_reducible refine below_drewN ?_ _ | with_reducible refine Below.drew ?_ | with_reducible refine below_row ?_ (by first | omega | (simp; done) | (simp; omega)) _ | with_reducible refine Below.alloc ?_ (by first | omega | (simp; done) | (simp; omega)) _ | with_reducible refine Below.setCell ?_ (by first | omega | (simp; done) | (simp; omega)) _))⟩
set_option maxRecDepth 100000 in
set_option maxHeartbeats 4000000 in
theorem w62_lt (y : Nat) (h0 : FloatKind.f64.format.order y y = some .eq) (h1 : FloatKind.f64.format.order y 4886405595696988160 = some .lt) (h2 : FloatKind.f64.format.order y 14109777632551763968 = some .lt) (w : World) : Calls Tryd.prog 8 #[.float .f64 y] w fun e w' => e = .returned (.tuple #[.int .i64 0, .bool false, .bool true]) ∧ Below w.heap.size w w' := by
  go_enter Tryd.func8, Tryd.ntmps8
  go_wp2_with fail
  go_ret3
  exact ⟨rfl, by (repeat (first | with_reducible exact Below.refl _ _ | with_reducible assumption | with_reducible refine below_drewN ?_ _ | with_reducible refine Below.drew ?_ | with_reducible refine below_row ?_ (by first | omega | (simp; done) | (simp; omega)) _ | with_reducible refine Below.alloc ?_ (by first | omega | (simp; done) | (simp; omega)) _ | with_reducible refine Below.setCell ?_ (by first | omega | (simp; done) | (simp; omega)) _))⟩
set_option maxRecDepth 100000 in
set_option maxHeartbeats 4000000 in
theorem w62_in (y : Nat) (h0 : FloatKind.f64.format.order y y = some .eq) (h1 : FloatKind.f64.format.order y 4886405595696988160 = some .lt ∨ FloatKind.f64.format.order y 4886405595696988160 = some .eq) (h2 : FloatKind.f64.format.order y 14109777632551763968 = some .gt ∨ FloatKind.f64.format.order y 14109777632551763968 = some .eq) (n : Int) (hcv : ∀ W : World, (convert 32 2 (.float .f64 y)).run Tryd.prog W = .ok (.int .i64 n) W) (z : Nat) (hz : floatOfInt .f64 n = z) (b : Bool) (hb : (FloatKind.f64.format.order z y == some .eq) = b) (w : World) : Calls Tryd.prog 8 #[.float .f64 y] w fun e w' => e = .returned (.tuple #[.int .i64 n, .bool b, .bool false]) ∧ Below w.heap.size w w' := by
  rcases h1 with h1 | h1 <;> rcases h2 with h2 | h2
  all_goals
    go_enter Tryd.func8, Tryd.ntmps8
    go_wp2_with fail
    go_ret3
    exact ⟨rfl, by (repeat (first | with_reducible exact Below.refl _ _ | with_reducible assumption | with_reducible refine below_drewN ?_ _ | with_reducible refine Below.drew ?_ | with_reducible refine below_row ?_ (by first | omega | (simp; done) | (simp; omega)) _ | with_reducible refine Below.alloc ?_ (by first | omega | (simp; done) | (simp; omega)) _ | with_reducible refine Below.setCell ?_ (by first | omega | (simp; done) | (simp; omega)) _))⟩
set_option maxRecDepth 100000 in
set_option maxHeartbeats 4000000 in
theorem fv_64 (x : Nat) (w : World) : Calls Tryd.prog 9 #[.int .i64 3, .int .u64 x] w fun e w' => e = .returned (.float .f64 x) ∧ Below w.heap.size w w' := by
  have hc := nf64_from (x : Int)
  simp only [Int.toNat_natCast] at hc
  go_enter Tryd.func9, Tryd.ntmps9
  go_wp2_with fail
  go_ret
  exact ⟨rfl, by (repeat (first | with_reducible exact Below.refl _ _ | with_reducible assumption | with_reducible refine below_drewN ?_ _ | with_reducible refine Below.drew ?_ | with_reducible refine below_row ?_ (by first | omega | (simp; done) | (simp; omega)) _ | with_reducible refine Below.alloc ?_ (by first | omega | (simp; done) | (simp; omega)) _ | with_reducible refine Below.setCell ?_ (by first | omega | (simp; done) | (simp; omega)) _))⟩
set_option maxRecDepth 100000 in
set_option maxHeartbeats 4000000 in
theorem fv_32 (x y : Nat) (hx : x < 4294967296) (hcv : ∀ W : World, (convert 60 32 (.float .f32 x)).run Tryd.prog W = .ok (.float .f64 y) W) (w : World) : Calls Tryd.prog 9 #[.int .i64 2, .int .u64 x] w fun e w' => e = .returned (.float .f64 y) ∧ Below w.heap.size w w' := by
  have hw : IntKind.u32.wrap (x : Int) = x := by rw [IntKind.wrap_u32]; omega
  have hc := nf32_from (x : Int)
  simp only [Int.toNat_natCast] at hc
  go_enter Tryd.func9, Tryd.ntmps9
  go_wp2_with fail
  go_ret
  exact ⟨rfl, by (repeat (first | with_reducible exact Below.refl _ _ | with_reducible assumption | with_reducible refine below_drewN ?_ _ | with_reducible refine Below.drew ?_ | with_reducible refine below_row ?_ (by first | omega | (simp; done) | (simp; omega)) _ | with_reducible refine Below.alloc ?_ (by first | omega | (simp; done) | (simp; omega)) _ | with_reducible refine Below.setCell ?_ (by first | omega | (simp; done) | (simp; omega)) _))⟩
set_option maxRecDepth 100000 in
set_option maxHeartbeats 4000000 in
theorem fv_32n (x : Nat) (y : World → Nat) (hx : x < 4294967296) (hcv : ∀ W : World, (convert 60 32 (.float .f32 x)).run Tryd.prog W = .ok (.float .f64 (y W)) W.drew) (w : World) : Calls Tryd.prog 9 #[.int .i64 2, .int .u64 x] w fun e w' => e = .returned (.float .f64 (y w)) ∧ Below w.heap.size w w' := by
  have hw : IntKind.u32.wrap (x : Int) = x := by rw [IntKind.wrap_u32]; omega
  have hc := nf32_from (x : Int)
  simp only [Int.toNat_natCast] at hc
  go_enter Tryd.func9, Tryd.ntmps9
  go_wp2_with fail
  go_ret
  exact ⟨rfl, by (repeat (first | with_reducible exact Below.refl _ _ | with_reducible assumption | with_reducible refine below_drewN ?_ _ | with_reducible refine Below.drew ?_ | with_reducible refine below_row ?_ (by first | omega | (simp; done) | (simp; omega)) _ | with_reducible refine Below.alloc ?_ (by first | omega | (simp; done) | (simp; omega)) _ | with_reducible refine Below.setCell ?_ (by first | omega | (simp; done) | (simp; omega)) _))⟩
end Go.Proofs.YtdncfolehkhjhaaDoor
