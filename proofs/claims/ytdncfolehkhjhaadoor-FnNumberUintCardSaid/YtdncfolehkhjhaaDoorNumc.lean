/- msgp.Number: CoerceUInt. -/
import Derived.Test.YtdncfolehkhjhaaDoorNumb
namespace Go.Proofs.YtdncfolehkhjhaaDoor
open Go.RowKit
set_option linter.unusedVariables false
set_option linter.unusedSimpArgs false

theorem nf32_from (n : Int) (w : World) : (callFunc 22 #[.int .u32 n]).run Tryd.prog w = .ok (.value (.float .f32 n.toNat)) w :=
  (run_callFunc_extern (P := Tryd.prog) (e := Extern.MathFloatBits.float32frombits) Tryd.func22 (by kernel_rfl) (by kernel_rfl) (by kernel_rfl) (by kernel_rfl) #[.int .u32 n] w).trans rfl
theorem nf32_to (n : Nat) (w : World) : (callFunc 54 #[.float .f32 n]).run Tryd.prog w = .ok (.value (.int .u32 n)) w :=
  (run_callFunc_extern (P := Tryd.prog) (e := Extern.MathFloatBits.float32bits) Tryd.func54 (by kernel_rfl) (by kernel_rfl) (by kernel_rfl) (by kernel_rfl) #[.float .f32 n] w).trans rfl
theorem nf64_from (n : Int) (w : World) : (callFunc 23 #[.int .u64 n]).run Tryd.prog w = .ok (.value (.float .f64 n.toNat)) w :=
  (run_callFunc_extern (P := Tryd.prog) (e := Extern.MathFloatBits.float64frombits) Tryd.func23 (by kernel_rfl) (by kernel_rfl) (by kernel_rfl) (by kernel_rfl) #[.int .u64 n] w).trans rfl
theorem nf64_to (n : Nat) (w : World) : (callFunc 55 #[.float .f64 n]).run Tryd.prog w = .ok (.value (.int .u64 n)) w :=
  (run_callFunc_extern (P := Tryd.prog) (e := Extern.MathFloatBits.float64bits) Tryd.func55 (by kernel_rfl) (by kernel_rfl) (by kernel_rfl) (by kernel_rfl) #[.float .f64 n] w).trans rfl

theorem cu_pos (g x : Nat) (t : Int) (ht : t = 0 ∨ t = 8) (hx : x < 9223372036854775808) (w : World) (hB : NumAt w g x t) :
    Calls Tryd.prog 21 #[.pointer (some ⟨g, 0, none⟩)] w fun e w' => e = .returned (.tuple #[.int .u64 x, .bool true]) ∧ Below w.heap.size w w' := by
  have q0 := hB.cell (i := 0) rfl
  have q1 := hB.cell (i := 1) rfl
  have hl := hB.lt
  have hx0 : (0 : Int) ≤ x := by omega
  rcases ht with rfl | rfl
  all_goals
    go_enter Tryd.func21, Tryd.ntmps21
    go_wp2_with fail
    go_ret2
    exact ⟨rfl, by (repeat (first | with_reducible exact Below.refl _ _ | with_reducible assumption | with_reducible refine below_drewN ?_ _ | with_reducible refine Below.drew ?_ | with_reducible refine below_row ?_ (by first | omega | (simp; done) | (simp; omega)) _ | with_reducible refine Below.alloc ?_ (by first | omega | (simp; done) | (simp; omega)) _ | with_reducible refine Below.setCell ?_ (by first | omega | (simp; done) | (simp; omega)) _))⟩
theorem cu_neg (g x : Nat) (t : Int) (ht : t = 0 ∨ t = 8) (hx : 9223372036854775808 ≤ x) (hx2 : x < 18446744073709551616) (w : World) (hB : NumAt w g x t) :
    Calls Tryd.prog 21 #[.pointer (some ⟨g, 0, none⟩)] w fun e w' => e = .returned (.tuple #[.int .u64 0, .bool false]) ∧ Below w.heap.size w w' := by
  have q0 := hB.cell (i := 0) rfl
  have q1 := hB.cell (i := 1) rfl
  have hl := hB.lt
  obtain ⟨y, hy, hy0⟩ : ∃ y : Int, wrap64 (x : Int) = y ∧ y < 0 := ⟨_, rfl, by rw [wrap64_mod]; omega⟩
  have hy1 : ¬ (0 ≤ y) := by omega
  clear hx hx2
  rcases ht with rfl | rfl
  all_goals
    go_enter Tryd.func21, Tryd.ntmps21
    go_wp2_with fail
    go_ret2
    exact ⟨rfl, by (repeat (first | with_reducible exact Below.refl _ _ | with_reducible assumption | with_reducible refine below_drewN ?_ _ | with_reducible refine Below.drew ?_ | with_reducible refine below_row ?_ (by first | omega | (simp; done) | (simp; omega)) _ | with_reducible refine Below.alloc ?_ (by first | omega | (simp; done) | (simp; omega)) _ | with_reducible refine Below.setCell ?_ (by first | omega | (simp; done) | (simp; omega)) _))⟩
theorem cu_uint (g x : Nat) (w : World) (hB : NumAt w g x 9) :
    Calls Tryd.prog 21 #[.pointer (some ⟨g, 0, none⟩)] w fun e w' => e = .returned (.tuple #[.int .u64 x, .bool true]) ∧ Below w.heap.size w w' := by
  have q0 := hB.cell (i := 0) rfl
  have q1 := hB.cell (i := 1) rfl
  have hl := hB.lt
  go_enter Tryd.func21, Tryd.ntmps21
  go_wp2_with fail
  go_ret2
  exact ⟨rfl, by (repeat (first | with_reducible exact Below.refl _ _ | with_reducible assumption | with_reducible refine below_drewN ?_ _ | with_reducible refine Below.drew ?_ | with_reducible refine below_row ?_ (by first | omega | (simp; done) | (simp; omega)) _ | with_reducible refine Below.alloc ?_ (by first | omega | (simp; done) | (simp; omega)) _ | with_reducible refine Below.setCell ?_ (by first | omega | (simp; done) | (simp; omega)) _))⟩
set_option maxRecDepth 100000 in
set_option maxHeartbeats 4000000 in
theorem cu64_yes (g x : Nat) (hx : x < 18446744073709551616) (w : World) (hB : NumAt w g x 5) (hT : TabAt 3 Go.Lib.deBruijn64tab w) (h1 : FloatKind.f64.format.order x 0 = some .gt ∨ FloatKind.f64.format.order x 0 = some .eq) (h2 : FloatKind.f64.format.order x 4895412794951729152 = some .lt ∨ FloatKind.f64.format.order x 4895412794951729152 = some .eq) (hex : ex64 x = true) (n : Int) (hcv : ∀ W : World, (convert 32 22 (.float .f64 x)).run Tryd.prog W = .ok (.int .u64 n) W) :
    Calls Tryd.prog 21 #[.pointer (some ⟨g, 0, none⟩)] w fun e w' => e = .returned (.tuple #[.int .u64 n, .bool true]) ∧ Below w.heap.size w w' := by
  have q0 := hB.cell (i := 0) rfl
  have q1 := hB.cell (i := 1) rfl
  have hl := hB.lt
  have HE := Lib.hid (fun W (h : NumAt W g x 5) (h2 : TabAt 3 Go.Lib.deBruijn64tab W) => exact64 g x hx W h h2)
  have HB := Lib.hid hB
  have HT := Lib.hid hT
  have hcall := nf64_from (x : Int)
  simp only [Int.toNat_natCast] at hcall
  clear hB hT
  rcases h1 with h1 | h1 <;> rcases h2 with h2 | h2
  all_goals
  go_enter Tryd.func21, Tryd.ntmps21
  go_wp2_with fail
  refine (HE.out _ HB.out HT.out).mono ?_
  rw [hex]
  rintro e w1 ⟨rfl, hb1⟩
  go_wp2_with fail
  go_ret2
  exact ⟨rfl, by (repeat (first | with_reducible exact Below.refl _ _ | with_reducible assumption | with_reducible refine below_drewN ?_ _ | with_reducible refine Below.drew ?_ | with_reducible refine below_row ?_ (by first | omega | (simp; done) | (simp; omega)) _ | with_reducible refine Below.alloc ?_ (by first | omega | (simp; done) | (simp; omega)) _ | with_reducible refine Below.setCell ?_ (by first | omega | (simp; done) | (simp; omega)) _))⟩
set_option maxRecDepth 100000 in
set_option maxHeartbeats 4000000 in
theorem cu64_any (g x : Nat) (hx : x < 18446744073709551616) (w : World) (hB : NumAt w g x 5) (hT : TabAt 3 Go.Lib.deBruijn64tab w) (h1 : FloatKind.f64.format.order x 0 = some .gt ∨ FloatKind.f64.format.order x 0 = some .eq) (h2 : FloatKind.f64.format.order x 4895412794951729152 = some .lt ∨ FloatKind.f64.format.order x 4895412794951729152 = some .eq) (hex : ex64 x = true) (n : World → Int) (hcv : ∀ W : World, (convert 32 22 (.float .f64 x)).run Tryd.prog W = .ok (.int .u64 (n W)) W.drew) :
    Calls Tryd.prog 21 #[.pointer (some ⟨g, 0, none⟩)] w fun e w' => ∃ n, e = .returned (.tuple #[.int .u64 n, .bool true]) ∧ Below w.heap.size w w' := by
  have q0 := hB.cell (i := 0) rfl
  have q1 := hB.cell (i := 1) rfl
  have hl := hB.lt
  have HE := Lib.hid (fun W (h : NumAt W g x 5) (h2 : TabAt 3 Go.Lib.deBruijn64tab W) => exact64 g x hx W h h2)
  have HB := Lib.hid hB
  have HT := Lib.hid hT
  have hcall := nf64_from (x : Int)
  simp only [Int.toNat_natCast] at hcall
  clear hB hT
  rcases h1 with h1 | h1 <;> rcases h2 with h2 | h2
  all_goals
  go_enter Tryd.func21, Tryd.ntmps21
  go_wp2_with fail
  refine (HE.out _ HB.out HT.out).mono ?_
  rw [hex]
  rintro e w1 ⟨rfl, hb1⟩
  go_wp2_with fail
  go_ret2
  exact ⟨_, rfl, by (repeat (first | with_reducible exact Below.refl _ _ | with_reducible assumption | with_reducible refine below_drewN ?_ _ | with_reducible refine Below.drew ?_ | with_reducible refine below_row ?_ (by first | omega | (simp; done) | (simp; omega)) _ | with_reducible refine Below.alloc ?_ (by first | omega | (simp; done) | (simp; omega)) _ | with_reducible refine Below.setCell ?_ (by first | omega | (simp; done) | (simp; omega)) _))⟩
set_option maxRecDepth 100000 in
set_option maxHeartbeats 4000000 in
theorem cu64_n1 (g x : Nat) (hx : x < 18446744073709551616) (w : World) (hB : NumAt w g x 5) (hT : TabAt 3 Go.Lib.deBruijn64tab w) (hz : x ≠ 0 ∧ x ≠ 9223372036854775808) (h1 : FloatKind.f64.format.order x 0 = some .lt ∨ FloatKind.f64.format.order x 0 = none) :
    Calls Tryd.prog 21 #[.pointer (some ⟨g, 0, none⟩)] w fun e w' => e = .returned (.tuple #[.int .u64 0, .bool false]) ∧ Below w.heap.size w w' := by
  obtain ⟨hz0, hz1⟩ := hz
  have z1 : ((x : Int) == 0) = false := by simp; omega
  have z2 : ((x : Int) == 9223372036854775808) = false := by simp; omega
  have q0 := hB.cell (i := 0) rfl
  have q1 := hB.cell (i := 1) rfl
  have hl := hB.lt
  have HE := Lib.hid (fun W (h : NumAt W g x 5) (h2 : TabAt 3 Go.Lib.deBruijn64tab W) => exact64 g x hx W h h2)
  have HB := Lib.hid hB
  have HT := Lib.hid hT
  have hcall := nf64_from (x : Int)
  simp only [Int.toNat_natCast] at hcall
  clear hB hT
  rcases h1 with h1 | h1
  all_goals
  go_enter Tryd.func21, Tryd.ntmps21
  go_wp2_with fail
  go_quiet (fail)
  go_wp2_with fail
  go_ret2
  exact ⟨rfl, by (repeat (first | with_reducible exact Below.refl _ _ | with_reducible assumption | with_reducible refine below_drewN ?_ _ | with_reducible refine Below.drew ?_ | with_reducible refine below_row ?_ (by first | omega | (simp; done) | (simp; omega)) _ | with_reducible refine Below.alloc ?_ (by first | omega | (simp; done) | (simp; omega)) _ | with_reducible refine Below.setCell ?_ (by first | omega | (simp; done) | (simp; omega)) _))⟩
set_option maxRecDepth 100000 in
set_option maxHeartbeats 4000000 in
theorem cu64_n2 (g x : Nat) (hx : x < 18446744073709551616) (w : World) (hB : NumAt w g x 5) (hT : TabAt 3 Go.Lib.deBruijn64tab w) (hz : x ≠ 0 ∧ x ≠ 9223372036854775808) (h1 : FloatKind.f64.format.order x 0 = some .gt ∨ FloatKind.f64.format.order x 0 = some .eq) (h2 : FloatKind.f64.format.order x 4895412794951729152 = some .gt) :
    Calls Tryd.prog 21 #[.pointer (some ⟨g, 0, none⟩)] w fun e w' => e = .returned (.tuple #[.int .u64 0, .bool false]) ∧ Below w.heap.size w w' := by
  obtain ⟨hz0, hz1⟩ := hz
  have z1 : ((x : Int) == 0) = false := by simp; omega
  have z2 : ((x : Int) == 9223372036854775808) = false := by simp; omega
  have q0 := hB.cell (i := 0) rfl
  have q1 := hB.cell (i := 1) rfl
  have hl := hB.lt
  have HE := Lib.hid (fun W (h : NumAt W g x 5) (h2 : TabAt 3 Go.Lib.deBruijn64tab W) => exact64 g x hx W h h2)
  have HB := Lib.hid hB
  have HT := Lib.hid hT
  have hcall := nf64_from (x : Int)
  simp only [Int.toNat_natCast] at hcall
  clear hB hT
  rcases h1 with h1 | h1
  all_goals
  go_enter Tryd.func21, Tryd.ntmps21
  go_wp2_with fail
  go_quiet (fail)
  go_wp2_with fail
  go_ret2
  exact ⟨rfl, by (repeat (first | with_reducible exact Below.refl _ _ | with_reducible assumption | with_reducible refine below_drewN ?_ _ | with_reducible refine Below.drew ?_ | with_reducible refine below_row ?_ (by first | omega | (simp; done) | (simp; omega)) _ | with_reducible refine Below.alloc ?_ (by first | omega | (simp; done) | (simp; omega)) _ | with_reducible refine Below.setCell ?_ (by first | omega | (simp; done) | (simp; omega)) _))⟩
set_option maxRecDepth 100000 in
set_option maxHeartbeats 4000000 in
theorem cu64_n3 (g x : Nat) (hx : x < 18446744073709551616) (w : World) (hB : NumAt w g x 5) (hT : TabAt 3 Go.Lib.deBruijn64tab w) (hz : x ≠ 0 ∧ x ≠ 9223372036854775808) (h1 : FloatKind.f64.format.order x 0 = some .gt ∨ FloatKind.f64.format.order x 0 = some .eq) (h2 : FloatKind.f64.format.order x 4895412794951729152 = some .lt ∨ FloatKind.f64.format.order x 4895412794951729152 = some .eq) (hex : ex64 x = false) :
    Calls Tryd.prog 21 #[.pointer (some ⟨g, 0, none⟩)] w fun e w' => e = .returned (.tuple #[.int .u64 0, .bool false]) ∧ Below w.heap.size w w' := by
  obtain ⟨hz0, hz1⟩ := hz
  have z1 : ((x : Int) == 0) = false := by simp; omega
  have z2 : ((x : Int) == 9223372036854775808) = false := by simp; omega
  have q0 := hB.cell (i := 0) rfl
  have q1 := hB.cell (i := 1) rfl
  have hl := hB.lt
  have HE := Lib.hid (fun W (h : NumAt W g x 5) (h2 : TabAt 3 Go.Lib.deBruijn64tab W) => exact64 g x hx W h h2)
  have HB := Lib.hid hB
  have HT := Lib.hid hT
  have hcall := nf64_from (x : Int)
  simp only [Int.toNat_natCast] at hcall
  clear hB hT
  rcases h1 with h1 | h1 <;> rcases h2 with h2 | h2
  all_goals
  go_enter Tryd.func21, Tryd.ntmps21
  go_wp2_with fail
  refine (HE.out _ HB.out HT.out).mono ?_
  rw [hex]
  rintro e w1 ⟨rfl, hb1⟩
  have q0' := q0
  rw [← hb1.cell (p := ⟨g, 0, none⟩) hl] at q0'
  go_wp2_with fail
  go_quiet (fail)
  go_wp2_with fail
  go_ret2
  exact ⟨rfl, by (repeat (first | with_reducible exact Below.refl _ _ | with_reducible assumption | with_reducible refine below_drewN ?_ _ | with_reducible refine Below.drew ?_ | with_reducible refine below_row ?_ (by first | omega | (simp; done) | (simp; omega)) _ | with_reducible refine Below.alloc ?_ (by first | omega | (simp; done) | (simp; omega)) _ | with_reducible refine Below.setCell ?_ (by first | omega | (simp; done) | (simp; omega)) _))⟩
set_option maxRecDepth 100000 in
set_option maxHeartbeats 4000000 in
theorem cu32_yes (g x : Nat) (hx : x < 4294967296) (w : World) (hB : NumAt w g x 6) (hT : TabAt 3 Go.Lib.deBruijn64tab w) (h1 : FloatKind.f32.format.order x 0 = some .gt ∨ FloatKind.f32.format.order x 0 = some .eq) (h2 : FloatKind.f32.format.order x 1602224128 = some .lt ∨ FloatKind.f32.format.order x 1602224128 = some .eq) (hex : ex32 x = true) (n : Int) (hcv : ∀ W : World, (convert 60 22 (.float .f32 x)).run Tryd.prog W = .ok (.int .u64 n) W) :
    Calls Tryd.prog 21 #[.pointer (some ⟨g, 0, none⟩)] w fun e w' => e = .returned (.tuple #[.int .u64 n, .bool true]) ∧ Below w.heap.size w w' := by
  have q0 := hB.cell (i := 0) rfl
  have q1 := hB.cell (i := 1) rfl
  have hl := hB.lt
  have HE := Lib.hid (fun W (h : NumAt W g x 6) (h2 : TabAt 3 Go.Lib.deBruijn64tab W) => exact32 g x hx W h h2)
  have HB := Lib.hid hB
  have HT := Lib.hid hT
  have hwr : IntKind.u32.wrap (x : Int) = x := by rw [IntKind.wrap_u32]; omega
  have hcall := nf32_from (x : Int)
  simp only [Int.toNat_natCast] at hcall
  clear hB hT
  rcases h1 with h1 | h1 <;> rcases h2 with h2 | h2
  all_goals
  go_enter Tryd.func21, Tryd.ntmps21
  go_wp2_with fail
  refine (HE.out _ HB.out HT.out).mono ?_
  rw [hex]
  rintro e w1 ⟨rfl, hb1⟩
  go_wp2_with fail
  go_ret2
  exact ⟨rfl, by (repeat (first | with_reducible exact Below.refl _ _ | with_reducible assumption | with_reducible refine below_drewN ?_ _ | with_reducible refine Below.drew ?_ | with_reducible refine below_row ?_ (by first | omega | (simp; done) | (simp; omega)) _ | with_reducible refine Below.alloc ?_ (by first | omega | (simp; done) | (simp; omega)) _ | with_reducible refine Below.setCell ?_ (by first | omega | (simp; done) | (simp; omega)) _))⟩
set_option maxRecDepth 100000 in
set_option maxHeartbeats 4000000 in
theorem cu32_any (g x : Nat) (hx : x < 4294967296) (w : World) (hB : NumAt w g x 6) (hT : TabAt 3 Go.Lib.deBruijn64tab w) (h1 : FloatKind.f32.format.order x 0 = some .gt ∨ FloatKind.f32.format.order x 0 = some .eq) (h2 : FloatKind.f32.format.order x 1602224128 = some .lt ∨ FloatKind.f32.format.order x 1602224128 = some .eq) (hex : ex32 x = true) (n : World → Int) (hcv : ∀ W : World, (convert 60 22 (.float .f32 x)).run Tryd.prog W = .ok (.int .u64 (n W)) W.drew) :
    Calls Tryd.prog 21 #[.pointer (some ⟨g, 0, none⟩)] w fun e w' => ∃ n, e = .returned (.tuple #[.int .u64 n, .bool true]) ∧ Below w.heap.size w w' := by
  have q0 := hB.cell (i := 0) rfl
  have q1 := hB.cell (i := 1) rfl
  have hl := hB.lt
  have HE := Lib.hid (fun W (h : NumAt W g x 6) (h2 : TabAt 3 Go.Lib.deBruijn64tab W) => exact32 g x hx W h h2)
  have HB := Lib.hid hB
  have HT := Lib.hid hT
  have hwr : IntKind.u32.wrap (x : Int) = x := by rw [IntKind.wrap_u32]; omega
  have hcall := nf32_from (x : Int)
  simp only [Int.toNat_natCast] at hcall
  clear hB hT
  rcases h1 with h1 | h1 <;> rcases h2 with h2 | h2
  all_goals
  go_enter Tryd.func21, Tryd.ntmps21
  go_wp2_with fail
  refine (HE.out _ HB.out HT.out).mono ?_
  rw [hex]
  rintro e w1 ⟨rfl, hb1⟩
  go_wp2_with fail
  go_ret2
  exact ⟨_, rfl, by (repeat (first | with_reducible exact Below.refl _ _ | with_reducible assumption | with_reducible refine below_drewN ?_ _ | with_reducible refine Below.drew ?_ | with_reducible refine below_row ?_ (by first | omega | (simp; done) | (simp; omega)) _ | with_reducible refine Below.alloc ?_ (by first | omega | (simp; done) | (simp; omega)) _ | with_reducible refine Below.setCell ?_ (by first | omega | (simp; done) | (simp; omega)) _))⟩
set_option maxRecDepth 100000 in
set_option maxHeartbeats 4000000 in
theorem cu32_n1 (g x : Nat) (hx : x < 4294967296) (w : World) (hB : NumAt w g x 6) (hT : TabAt 3 Go.Lib.deBruijn64tab w) (hz : x ≠ 0 ∧ x ≠ 2147483648) (h1 : FloatKind.f32.format.order x 0 = some .lt ∨ FloatKind.f32.format.order x 0 = none) :
    Calls Tryd.prog 21 #[.pointer (some ⟨g, 0, none⟩)] w fun e w' => e = .returned (.tuple #[.int .u64 0, .bool false]) ∧ Below w.heap.size w w' := by
  obtain ⟨hz0, hz1⟩ := hz
  have z1 : ((x : Int) == 0) = false := by simp; omega
  have z2 : ((x : Int) == 2147483648) = false := by simp; omega
  have q0 := hB.cell (i := 0) rfl
  have q1 := hB.cell (i := 1) rfl
  have hl := hB.lt
  have HE := Lib.hid (fun W (h : NumAt W g x 6) (h2 : TabAt 3 Go.Lib.deBruijn64tab W) => exact32 g x hx W h h2)
  have HB := Lib.hid hB
  have HT := Lib.hid hT
  have hwr : IntKind.u32.wrap (x : Int) = x := by rw [IntKind.wrap_u32]; omega
  have hcall := nf32_from (x : Int)
  simp only [Int.toNat_natCast] at hcall
  clear hB hT
  rcases h1 with h1 | h1
  all_goals
  go_enter Tryd.func21, Tryd.ntmps21
  go_wp2_with fail
  go_ret2
  exact ⟨rfl, by (repeat (first | with_reducible exact Below.refl _ _ | with_reducible assumption | with_reducible refine below_drewN ?_ _ | with_reducible refine Below.drew ?_ | with_reducible refine below_row ?_ (by first | omega | (simp; done) | (simp; omega)) _ | with_reducible refine Below.alloc ?_ (by first | omega | (simp; done) | (simp; omega)) _ | with_reducible refine Below.setCell ?_ (by first | omega | (simp; done) | (simp; omega)) _))⟩
set_option maxRecDepth 100000 in
set_option maxHeartbeats 4000000 in
theorem cu32_n2 (g x : Nat) (hx : x < 4294967296) (w : World) (hB : NumAt w g x 6) (hT : TabAt 3 Go.Lib.deBruijn64tab w) (hz : x ≠ 0 ∧ x ≠ 2147483648) (h1 : FloatKind.f32.format.order x 0 = some .gt ∨ FloatKind.f32.format.order x 0 = some .eq) (h2 : FloatKind.f32.format.order x 1602224128 = some .gt) :
    Calls Tryd.prog 21 #[.pointer (some ⟨g, 0, none⟩)] w fun e w' => e = .returned (.tuple #[.int .u64 0, .bool false]) ∧ Below w.heap.size w w' := by
  obtain ⟨hz0, hz1⟩ := hz
  have z1 : ((x : Int) == 0) = false := by simp; omega
  have z2 : ((x : Int) == 2147483648) = false := by simp; omega
  have q0 := hB.cell (i := 0) rfl
  have q1 := hB.cell (i := 1) rfl
  have hl := hB.lt
  have HE := Lib.hid (fun W (h : NumAt W g x 6) (h2 : TabAt 3 Go.Lib.deBruijn64tab W) => exact32 g x hx W h h2)
  have HB := Lib.hid hB
  have HT := Lib.hid hT
  have hwr : IntKind.u32.wrap (x : Int) = x := by rw [IntKind.wrap_u32]; omega
  have hcall := nf32_from (x : Int)
  simp only [Int.toNat_natCast] at hcall
  clear hB hT
  rcases h1 with h1 | h1
  all_goals
  go_enter Tryd.func21, Tryd.ntmps21
  go_wp2_with fail
  go_ret2
  exact ⟨rfl, by (repeat (first | with_reducible exact Below.refl _ _ | with_reducible assumption | with_reducible refine below_drewN ?_ _ | with_reducible refine Below.drew ?_ | with_reducible refine below_row ?_ (by first | omega | (simp; done) | (simp; omega)) _ | with_reducible refine Below.alloc ?_ (by first | omega | (simp; done) | (simp; omega)) _ | with_reducible refine Below.setCell ?_ (by first | omega | (simp; done) | (simp; omega)) _))⟩
set_option maxRecDepth 100000 in
set_option maxHeartbeats 4000000 in
theorem cu32_n3 (g x : Nat) (hx : x < 4294967296) (w : World) (hB : NumAt w g x 6) (hT : TabAt 3 Go.Lib.deBruijn64tab w) (hz : x ≠ 0 ∧ x ≠ 2147483648) (h1 : FloatKind.f32.format.order x 0 = some .gt ∨ FloatKind.f32.format.order x 0 = some .eq) (h2 : FloatKind.f32.format.order x 1602224128 = some .lt ∨ FloatKind.f32.format.order x 1602224128 = some .eq) (hex : ex32 x = false) :
    Calls Tryd.prog 21 #[.pointer (some ⟨g, 0, none⟩)] w fun e w' => e = .returned (.tuple #[.int .u64 0, .bool false]) ∧ Below w.heap.size w w' := by
  obtain ⟨hz0, hz1⟩ := hz
  have z1 : ((x : Int) == 0) = false := by simp; omega
  have z2 : ((x : Int) == 2147483648) = false := by simp; omega
  have q0 := hB.cell (i := 0) rfl
  have q1 := hB.cell (i := 1) rfl
  have hl := hB.lt
  have HE := Lib.hid (fun W (h : NumAt W g x 6) (h2 : TabAt 3 Go.Lib.deBruijn64tab W) => exact32 g x hx W h h2)
  have HB := Lib.hid hB
  have HT := Lib.hid hT
  have hwr : IntKind.u32.wrap (x : Int) = x := by rw [IntKind.wrap_u32]; omega
  have hcall := nf32_from (x : Int)
  simp only [Int.toNat_natCast] at hcall
  clear hB hT
  rcases h1 with h1 | h1 <;> rcases h2 with h2 | h2
  all_goals
  go_enter Tryd.func21, Tryd.ntmps21
  go_wp2_with fail
  refine (HE.out _ HB.out HT.out).mono ?_
  rw [hex]
  rintro e w1 ⟨rfl, hb1⟩
  have q0' := q0
  rw [← hb1.cell (p := ⟨g, 0, none⟩) hl] at q0'
  go_wp2_with fail
  go_ret2
  exact ⟨rfl, by (repeat (first | with_reducible exact Below.refl _ _ | with_reducible assumption | with_reducible refine below_drewN ?_ _ | with_reducible refine Below.drew ?_ | with_reducible refine below_row ?_ (by first | omega | (simp; done) | (simp; omega)) _ | with_reducible refine Below.alloc ?_ (by first | omega | (simp; done) | (simp; omega)) _ | with_reducible refine Below.setCell ?_ (by first | omega | (simp; done) | (simp; omega)) _))⟩
end Go.Proofs.YtdncfolehkhjhaaDoor
