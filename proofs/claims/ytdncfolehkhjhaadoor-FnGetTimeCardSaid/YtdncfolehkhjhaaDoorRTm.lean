/- msgp.At, Time's methods, msgp.ReadTimeBytes of a timestamp, impl.GetTime. -/
import Derived.Test.YtdncfolehkhjhaaDoorREx
import Derived.Test.YtdncfolehkhjhaaDoorErr
import Derived.Test.YtdncfolehkhjhaaDoorApp
namespace Go.Proofs.YtdncfolehkhjhaaDoor
open Go.RowKit
set_option linter.unusedVariables false
set_option linter.unusedSimpArgs false

abbrev tmV (s n : Int) : Value := .agg #[.int .i64 s, .int .i64 n]
set_option maxRecDepth 100000 in
set_option maxHeartbeats 4000000 in
theorem at_any (s n : Int) (h0 : 0 ≤ n) (h1 : n < 1000000000) (w : World) : Calls Tryd.prog 59 #[.int .i64 s, .int .i64 n] w fun e w' => e = .returned (tmV s n) ∧ Below w.heap.size w w' := by
  have d0 : ¬ (n < 0) := by omega
  have d1 : ¬ (1000000000 ≤ n) := by omega
  go_enter Tryd.func59, Tryd.ntmps59
  go_wp2_with fail
  refine bodyPost_ret (results_c rfl _ _ w.heap.size 64 _ _ rfl (by (repeat (first | with_reducible exact Blk.new _ _ _ | with_reducible assumption | with_reducible refine Blk.newAt (by first | rfl | (simp; done) | (simp; omega)) _ _ | with_reducible refine Blk.alloc ?_ _ | with_reducible refine Blk.drewN ?_ _ | with_reducible refine Blk.drew ?_ | with_reducible refine Blk.other ?_ (by first | omega | (simp; done) | (simp; omega)) _))) Tryd.underlying64 rfl (by kernel_rfl)) rfl ⟨rfl, by (repeat (first | with_reducible exact Below.refl _ _ | with_reducible assumption | with_reducible refine below_drewN ?_ _ | with_reducible refine Below.drew ?_ | with_reducible refine below_row ?_ (by first | omega | (simp; done) | (simp; omega)) _ | with_reducible refine Below.alloc ?_ (by first | omega | (simp; done) | (simp; omega)) _ | with_reducible refine Below.setCell ?_ (by first | omega | (simp; done) | (simp; omega)) _))⟩
set_option maxRecDepth 100000 in
theorem local_any (s n : Int) (w : World) : Calls Tryd.prog 60 #[tmV s n] w fun e w' => e = .returned (tmV s n) ∧ Below w.heap.size w w' := by
  go_enter Tryd.func60, Tryd.ntmps60
  go_wp2_with fail
  refine bodyPost_ret (results_c rfl _ _ (w.heap.size + 1) 64 _ _ rfl (by (repeat (first | with_reducible exact Blk.new _ _ _ | with_reducible assumption | with_reducible refine Blk.newAt (by first | rfl | (simp; done) | (simp; omega)) _ _ | with_reducible refine Blk.alloc ?_ _ | with_reducible refine Blk.drewN ?_ _ | with_reducible refine Blk.drew ?_ | with_reducible refine Blk.other ?_ (by first | omega | (simp; done) | (simp; omega)) _))) Tryd.underlying64 rfl (by kernel_rfl)) rfl ⟨rfl, by (repeat (first | with_reducible exact Below.refl _ _ | with_reducible assumption | with_reducible refine below_drewN ?_ _ | with_reducible refine Below.drew ?_ | with_reducible refine below_row ?_ (by first | omega | (simp; done) | (simp; omega)) _ | with_reducible refine Below.alloc ?_ (by first | omega | (simp; done) | (simp; omega)) _ | with_reducible refine Below.setCell ?_ (by first | omega | (simp; done) | (simp; omega)) _))⟩
set_option maxRecDepth 100000 in
theorem utc_any (s n : Int) (w : World) : Calls Tryd.prog 44 #[tmV s n] w fun e w' => e = .returned (tmV s n) ∧ Below w.heap.size w w' := by
  go_enter Tryd.func44, Tryd.ntmps44
  go_wp2_with fail
  refine bodyPost_ret (results_c rfl _ _ (w.heap.size + 1) 64 _ _ rfl (by (repeat (first | with_reducible exact Blk.new _ _ _ | with_reducible assumption | with_reducible refine Blk.newAt (by first | rfl | (simp; done) | (simp; omega)) _ _ | with_reducible refine Blk.alloc ?_ _ | with_reducible refine Blk.drewN ?_ _ | with_reducible refine Blk.drew ?_ | with_reducible refine Blk.other ?_ (by first | omega | (simp; done) | (simp; omega)) _))) Tryd.underlying64 rfl (by kernel_rfl)) rfl ⟨rfl, by (repeat (first | with_reducible exact Below.refl _ _ | with_reducible assumption | with_reducible refine below_drewN ?_ _ | with_reducible refine Below.drew ?_ | with_reducible refine below_row ?_ (by first | omega | (simp; done) | (simp; omega)) _ | with_reducible refine Below.alloc ?_ (by first | omega | (simp; done) | (simp; omega)) _ | with_reducible refine Below.setCell ?_ (by first | omega | (simp; done) | (simp; omega)) _))⟩
set_option maxRecDepth 100000 in
theorem unix_any (s n : Int) (w : World) : Calls Tryd.prog 25 #[tmV s n] w fun e w' => e = .returned (.int .i64 s) ∧ Below w.heap.size w w' := by
  go_enter Tryd.func25, Tryd.ntmps25
  go_wp2_with fail
  go_ret
  exact ⟨rfl, by (repeat (first | with_reducible exact Below.refl _ _ | with_reducible assumption | with_reducible refine below_drewN ?_ _ | with_reducible refine Below.drew ?_ | with_reducible refine below_row ?_ (by first | omega | (simp; done) | (simp; omega)) _ | with_reducible refine Below.alloc ?_ (by first | omega | (simp; done) | (simp; omega)) _ | with_reducible refine Below.setCell ?_ (by first | omega | (simp; done) | (simp; omega)) _))⟩
set_option maxRecDepth 100000 in
theorem nanos_any (s n : Int) (w : World) : Calls Tryd.prog 26 #[tmV s n] w fun e w' => e = .returned (.int .i64 n) ∧ Below w.heap.size w w' := by
  go_enter Tryd.func26, Tryd.ntmps26
  go_wp2_with fail
  go_ret
  exact ⟨rfl, by (repeat (first | with_reducible exact Below.refl _ _ | with_reducible assumption | with_reducible refine below_drewN ?_ _ | with_reducible refine Below.drew ?_ | with_reducible refine below_row ?_ (by first | omega | (simp; done) | (simp; omega)) _ | with_reducible refine Below.alloc ?_ (by first | omega | (simp; done) | (simp; omega)) _ | with_reducible refine Below.setCell ?_ (by first | omega | (simp; done) | (simp; omega)) _))⟩

theorem u64_lowI (k : Nat) (x : Int) (h0 : 0 ≤ x) (h1 : x < 18446744073709551616) (hk : k ≤ 63) : bits .and .u64 x ((2 ^ k - 1 : Nat) : Int) = x % ((2 ^ k : Nat) : Int) := by
  have h2 : 2 ^ k ≤ 2 ^ 63 := Nat.pow_le_pow_right (by omega) hk
  have h3 : (2:Nat) ^ 63 = 9223372036854775808 := by decide
  have h4 := Nat.two_pow_pos k
  obtain ⟨n, rfl⟩ : ∃ n : Nat, x = n := ⟨x.toNat, by omega⟩
  rw [u64_and_nat n _ (by omega) (by omega), Nat.and_two_pow_sub_one_eq_mod]
  rfl

/-- What readExt answers, now and later. -/
def RExt (a : Option Addr) (n c : Nat) (w : World) (a1 : Option Addr) (n1 c1 : Nat) (a2 : Option Addr) (m : Nat) : Prop :=
  ∀ W, Below w.heap.size w W → Calls Tryd.prog 57 #[.slice a n c] W fun e w' => e = .returned (.tuple #[.int .i8 (-1), .slice a1 n1 c1, .slice a2 m m, .nilIface]) ∧ Below W.heap.size W w'
/-- What ReadTimeBytes answers. -/
def RTm (s ns : Int) (a1 : Option Addr) (n1 c1 : Nat) (w : World) (e : Ending) (w' : World) : Prop := e = .returned (.tuple #[tmV s ns, .slice a1 n1 c1, .nilIface]) ∧ Below w.heap.size w w'

set_option maxRecDepth 100000 in
set_option maxHeartbeats 4000000 in
theorem rtb_4 (a : Option Addr) (n c : Nat) (w : World) (hn : 6 ≤ n) (a1 : Option Addr) (n1 c1 : Nat) (a2 : Option Addr) (x0 x1 x2 x3 : Int) (hr : RExt a n c w a1 n1 c1 a2 4) (hv : Vw w a2 4 4 [x0, x1, x2, x3]) (v : Int) (hb : beN [x0, x1, x2, x3] = v) (h0 : 0 ≤ v) (h1 : v < 4294967296) :
    Calls Tryd.prog 43 #[.slice a n c] w (RTm v 0 a1 n1 c1 w) := by
  unfold RExt at hr
  have HR := Lib.hid hr
  have HV := Lib.hid hv
  clear hr
  have d0 : decide ((n : Int) < 6) = false := by simp; omega
  have hbe := fun W (h : Vw W a2 4 4 [x0, x1, x2, x3]) => be32_any a2 4 4 x0 x1 x2 x3 [] W h
  rw [hb] at hbe
  have HB := Lib.hid hbe
  clear hv hb hbe
  go_enter Tryd.func43, Tryd.ntmps43
  go_wp2_with fail
  refine (HR.out _ (by (repeat (first | with_reducible exact Below.refl _ _ | with_reducible assumption | with_reducible refine below_drewN ?_ _ | with_reducible refine Below.drew ?_ | with_reducible refine below_row ?_ (by first | omega | (simp; done) | (simp; omega)) _ | with_reducible refine Below.alloc ?_ (by first | omega | (simp; done) | (simp; omega)) _ | with_reducible refine Below.setCell ?_ (by first | omega | (simp; done) | (simp; omega)) _)))).mono ?_
  rintro e w1 ⟨rfl, hb1⟩
  have hb1w : Below w.heap.size w w1 := Below.trans (b := _) ((Below.refl _ w).alloc (Nat.le_refl _) _) (hb1.mono (by simp))
  have hB1 : Blk w1 w.heap.size 64 #[.int .i64 0, .int .i64 0] := (Blk.new _ _ _).below hb1 (by simp)
  have hl1 := hB1.lt
  have hs1 := hb1w.size
  go_wp2_with fail
  refine (HB.out _ (HV.out.below hb1w (Nat.le_refl _))).mono ?_
  rintro e w2 ⟨rfl, hb2⟩
  have hb2w := hb1w.trans (hb2.mono hs1)
  have hB2 := hB1.below hb2 hl1
  have hs2 := hb2w.size
  go_wp2_with fail
  refine (at_any v 0 (by omega) (by omega) _).mono ?_
  rintro e w3 ⟨rfl, hb3⟩
  have hb3w := hb2w.trans (hb3.mono hs2)
  have hB3 := hB2.below hb3 hB2.lt
  have hs3 := hb3w.size
  go_wp2_with fail
  refine (local_any v 0 _).mono ?_
  rintro e w4 ⟨rfl, hb4⟩
  have hb4w := hb3w.trans (hb4.mono hs3)
  have hB4 := hB3.below hb4 hB3.lt
  have hs4 := hb4w.size
  have f0 := hB4.frozen 0
  have f1 := hB4.frozen 1
  have q0 := hB4.cell (i := 0) rfl
  have q1 := hB4.cell (i := 1) rfl
  have HB4 := Lib.hid hB4
  clear hB4
  go_wp2_with fail
  refine bodyPost_ret (results_ctt rfl _ _ w.heap.size 64 _ _ rfl ((HB4.out.set 0 _).set 1 _) Tryd.underlying64 rfl (by kernel_rfl)) rfl ⟨rfl, by (repeat (first | with_reducible exact Below.refl _ _ | with_reducible assumption | with_reducible refine below_drewN ?_ _ | with_reducible refine Below.drew ?_ | with_reducible refine below_row ?_ (by first | omega | (simp; done) | (simp; omega)) _ | with_reducible refine Below.alloc ?_ (by first | omega | (simp; done) | (simp; omega)) _ | with_reducible refine Below.setCell ?_ (by first | omega | (simp; done) | (simp; omega)) _))⟩
set_option maxRecDepth 100000 in
set_option maxHeartbeats 4000000 in
theorem rtb_8 (a : Option Addr) (n c : Nat) (w : World) (hn : 6 ≤ n) (a1 : Option Addr) (n1 c1 : Nat) (a2 : Option Addr) (x0 x1 x2 x3 x4 x5 x6 x7 : Int) (hr : RExt a n c w a1 n1 c1 a2 8) (hv : Vw w a2 8 8 [x0, x1, x2, x3, x4, x5, x6, x7]) (sec ns : Int) (hb : beN [x0, x1, x2, x3, x4, x5, x6, x7] = ns * 17179869184 + sec) (h0 : 0 ≤ sec) (h1 : sec < 17179869184) (h2 : 0 ≤ ns) (h3 : ns < 1000000000) :
    Calls Tryd.prog 43 #[.slice a n c] w (RTm sec ns a1 n1 c1 w) := by
  unfold RExt at hr
  have HR := Lib.hid hr
  have HV := Lib.hid hv
  clear hr
  have d0 : decide ((n : Int) < 6) = false := by simp; omega
  obtain ⟨v, hv1, hv2⟩ : ∃ v, v = ns * 17179869184 + sec ∧ v / 17179869184 = ns := ⟨_, rfl, by omega⟩
  have hv3 : bits .and .u64 v 17179869183 = sec := by
    have h := u64_lowI 34 v (by omega) (by omega) (by omega)
    have e1 : ((2 ^ 34 - 1 : Nat) : Int) = 17179869183 := rfl
    have e2 : ((2 ^ 34 : Nat) : Int) = 17179869184 := rfl
    rw [e1, e2] at h
    rw [h]
    omega
  rw [← hv1] at hb
  have hbe := fun W (h : Vw W a2 8 8 [x0, x1, x2, x3, x4, x5, x6, x7]) => be64_any a2 8 8 x0 x1 x2 x3 x4 x5 x6 x7 [] W h
  rw [hb] at hbe
  have HB := Lib.hid hbe
  clear hv hb hbe hv1
  have d1 : ¬ (999999999 < ns) := by omega
  go_enter Tryd.func43, Tryd.ntmps43
  go_wp2_with fail
  refine (HR.out _ (by (repeat (first | with_reducible exact Below.refl _ _ | with_reducible assumption | with_reducible refine below_drewN ?_ _ | with_reducible refine Below.drew ?_ | with_reducible refine below_row ?_ (by first | omega | (simp; done) | (simp; omega)) _ | with_reducible refine Below.alloc ?_ (by first | omega | (simp; done) | (simp; omega)) _ | with_reducible refine Below.setCell ?_ (by first | omega | (simp; done) | (simp; omega)) _)))).mono ?_
  rintro e w1 ⟨rfl, hb1⟩
  have hb1w : Below w.heap.size w w1 := Below.trans (b := _) ((Below.refl _ w).alloc (Nat.le_refl _) _) (hb1.mono (by simp))
  have hB1 : Blk w1 w.heap.size 64 #[.int .i64 0, .int .i64 0] := (Blk.new _ _ _).below hb1 (by simp)
  have hl1 := hB1.lt
  have hs1 := hb1w.size
  go_wp2_with fail
  refine (HB.out _ (HV.out.below hb1w (Nat.le_refl _))).mono ?_
  rintro e w2 ⟨rfl, hb2⟩
  have hb2w := hb1w.trans (hb2.mono hs1)
  have hB2 := hB1.below hb2 hl1
  have hs2 := hb2w.size
  go_wp2_with fail
  refine (at_any sec ns (by omega) (by omega) _).mono ?_
  rintro e w3 ⟨rfl, hb3⟩
  have hb3w := hb2w.trans (hb3.mono hs2)
  have hB3 := hB2.below hb3 hB2.lt
  have hs3 := hb3w.size
  go_wp2_with fail
  refine (local_any sec ns _).mono ?_
  rintro e w4 ⟨rfl, hb4⟩
  have hb4w := hb3w.trans (hb4.mono hs3)
  have hB4 := hB3.below hb4 hB3.lt
  have hs4 := hb4w.size
  have f0 := hB4.frozen 0
  have f1 := hB4.frozen 1
  have q0 := hB4.cell (i := 0) rfl
  have q1 := hB4.cell (i := 1) rfl
  have HB4 := Lib.hid hB4
  clear hB4
  go_wp2_with fail
  refine bodyPost_ret (results_ctt rfl _ _ w.heap.size 64 _ _ rfl ((HB4.out.set 0 _).set 1 _) Tryd.underlying64 rfl (by kernel_rfl)) rfl ⟨rfl, by (repeat (first | with_reducible exact Below.refl _ _ | with_reducible assumption | with_reducible refine below_drewN ?_ _ | with_reducible refine Below.drew ?_ | with_reducible refine below_row ?_ (by first | omega | (simp; done) | (simp; omega)) _ | with_reducible refine Below.alloc ?_ (by first | omega | (simp; done) | (simp; omega)) _ | with_reducible refine Below.setCell ?_ (by first | omega | (simp; done) | (simp; omega)) _))⟩
set_option maxRecDepth 100000 in
set_option maxHeartbeats 4000000 in
theorem rtb_12 (a : Option Addr) (n c : Nat) (w : World) (hn : 6 ≤ n) (a1 : Option Addr) (n1 c1 : Nat) (a2 : Option Addr) (x0 x1 x2 x3 x4 x5 x6 x7 x8 x9 x10 x11 : Int) (hr : RExt a n c w a1 n1 c1 a2 12) (hv : Vw w a2 12 12 [x0, x1, x2, x3, x4, x5, x6, x7, x8, x9, x10, x11]) (sec ns : Int) (hb : beN [x0, x1, x2, x3] = ns) (hb2 : beN [x4, x5, x6, x7, x8, x9, x10, x11] = sec % 18446744073709551616) (h0 : -9223372036854775808 ≤ sec) (h1 : sec < 9223372036854775808) (h2 : 0 ≤ ns) (h3 : ns < 1000000000) :
    Calls Tryd.prog 43 #[.slice a n c] w (RTm sec ns a1 n1 c1 w) := by
  unfold RExt at hr
  have HR := Lib.hid hr
  have HV := Lib.hid hv
  clear hr
  have d0 : decide ((n : Int) < 6) = false := by simp; omega
  obtain ⟨v, hv1, hv2⟩ : ∃ v : Int, v = sec % 18446744073709551616 ∧ wrap64 v = sec := ⟨_, rfl, by rw [wrap64_mod]; omega⟩
  have hv6 : IntKind.i64.wrap v = sec := by rw [IntKind.wrap_i64]; omega
  rw [← hv1] at hb2
  obtain ⟨a5, ho5, hv5⟩ := off_of hv 4 4 rfl (by omega)
  unfold Off at ho5
  simp only [List.drop_succ_cons, List.drop_zero, Nat.reduceSub] at hv5 ho5
  have hbe := fun W (h : Vw W a2 12 12 [x0, x1, x2, x3, x4, x5, x6, x7, x8, x9, x10, x11]) => be32_any a2 12 12 x0 x1 x2 x3 _ W h
  rw [hb] at hbe
  have HB := Lib.hid hbe
  have hbe2 := fun W (h : Vw W a5 8 8 [x4, x5, x6, x7, x8, x9, x10, x11]) => be64_any a5 8 8 x4 x5 x6 x7 x8 x9 x10 x11 [] W h
  rw [hb2] at hbe2
  have HB5 := Lib.hid hbe2
  have HV5 := Lib.hid hv5
  clear hv hb hbe hbe2 hb2 hv1 hv5
  have d1 : ¬ (999999999 < ns) := by omega
  go_enter Tryd.func43, Tryd.ntmps43
  go_wp2_with fail
  refine (HR.out _ (by (repeat (first | with_reducible exact Below.refl _ _ | with_reducible assumption | with_reducible refine below_drewN ?_ _ | with_reducible refine Below.drew ?_ | with_reducible refine below_row ?_ (by first | omega | (simp; done) | (simp; omega)) _ | with_reducible refine Below.alloc ?_ (by first | omega | (simp; done) | (simp; omega)) _ | with_reducible refine Below.setCell ?_ (by first | omega | (simp; done) | (simp; omega)) _)))).mono ?_
  rintro e w1 ⟨rfl, hb1⟩
  have hb1w : Below w.heap.size w w1 := Below.trans (b := _) ((Below.refl _ w).alloc (Nat.le_refl _) _) (hb1.mono (by simp))
  have hB1 : Blk w1 w.heap.size 64 #[.int .i64 0, .int .i64 0] := (Blk.new _ _ _).below hb1 (by simp)
  have hl1 := hB1.lt
  have hs1 := hb1w.size
  go_wp2_with fail
  refine (HB.out _ (HV.out.below hb1w (Nat.le_refl _))).mono ?_
  rintro e w5 ⟨rfl, hb5⟩
  have hb5w := hb1w.trans (hb5.mono hs1)
  have hB5 := hB1.below hb5 hl1
  have hs5 := hb5w.size
  go_wp2_with fail
  go_region_held3 (fun U => Below w5.heap.size w5 U) (first | exact Below.refl _ _ | exact (Below.refl _ _).drew | exact hb7 | assumption) (first | (go_at_call 62; refine (HB5.out _ ((HV5.out.below hb5w (Nat.le_refl _)).drew)).mono ?_; rintro e w2 ⟨rfl, hb6⟩; have hb7 : Below w5.heap.size w5 w2 := Below.trans (b := w5.drew) (Below.refl _ _).drew hb6))
  have hb2w := hb5w.trans (hb7.mono hs5)
  have hB2 := hB5.below hb7 hB5.lt
  have hs2 := hb2w.size
  go_wp2_with fail
  refine (at_any sec ns (by omega) (by omega) _).mono ?_
  rintro e w3 ⟨rfl, hb3⟩
  have hb3w := hb2w.trans (hb3.mono hs2)
  have hB3 := hB2.below hb3 hB2.lt
  have hs3 := hb3w.size
  go_wp2_with fail
  refine (local_any sec ns _).mono ?_
  rintro e w4 ⟨rfl, hb4⟩
  have hb4w := hb3w.trans (hb4.mono hs3)
  have hB4 := hB3.below hb4 hB3.lt
  have hs4 := hb4w.size
  have f0 := hB4.frozen 0
  have f1 := hB4.frozen 1
  have q0 := hB4.cell (i := 0) rfl
  have q1 := hB4.cell (i := 1) rfl
  have HB4 := Lib.hid hB4
  clear hB4
  go_wp2_with fail
  refine bodyPost_ret (results_ctt rfl _ _ w.heap.size 64 _ _ rfl ((HB4.out.set 0 _).set 1 _) Tryd.underlying64 rfl (by kernel_rfl)) rfl ⟨rfl, by (repeat (first | with_reducible exact Below.refl _ _ | with_reducible assumption | with_reducible refine below_drewN ?_ _ | with_reducible refine Below.drew ?_ | with_reducible refine below_row ?_ (by first | omega | (simp; done) | (simp; omega)) _ | with_reducible refine Below.alloc ?_ (by first | omega | (simp; done) | (simp; omega)) _ | with_reducible refine Below.setCell ?_ (by first | omega | (simp; done) | (simp; omega)) _))⟩
end Go.Proofs.YtdncfolehkhjhaaDoor
