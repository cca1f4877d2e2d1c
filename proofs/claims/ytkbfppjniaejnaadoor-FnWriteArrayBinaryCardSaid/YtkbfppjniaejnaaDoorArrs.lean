/- constructor.take and TakeValue at arrays; SameValue at arrays; wrote. -/
import Derived.Test.YtkbfppjniaejnaaDoorWithin
namespace Go.Proofs.YtkbfppjniaejnaaDoor
open Go.RowKit
set_option linter.unusedVariables false
set_option linter.unusedSimpArgs false

theorem Rd.set6 {w : World} {a : Option Addr} {xs : List Value} (h : Rd w a xs) {g : Nat} (hp : ∀ x, a = some x → x.block ≠ g) (v0 v1 v2 v3 v4 v5 : Value) :
    Rd ((((((w.setCell ⟨g, 0, none⟩ v0).setCell ⟨g, 1, none⟩ v1).setCell ⟨g, 2, none⟩ v2).setCell ⟨g, 3, none⟩ v3).setCell ⟨g, 4, none⟩ v4).setCell ⟨g, 5, none⟩ v5) a xs :=
  (((((h.setCell _ hp).setCell _ hp).setCell _ hp).setCell _ hp).setCell _ hp).setCell _ hp

set_option maxRecDepth 100000 in
set_option maxHeartbeats 4000000 in
theorem within_arr0 (k z s : Int) (hz : z ≠ 0) (hk : Kind z k s) (sz : Nat) (hs1 : 1 ≤ sz) (hs8 : sz ≤ 8)
    (hd : List Int) (hhl : hd.length = sz) (hhd : beN hd = 0) (lv : Int) (hlv : 1 < lv) (hlv8 : lv ≤ 100) (w0 : World) (a : Option Addr) (n c : Nat) (tail : List Int) (hv : Vw w0 a n c (hd ++ z :: tail)) (u : Nat) (hu : u = sz + 1) :
    ∃ a2, Vw w0 a2 (n - u) (c - u) tail ∧ ∀ (da : Option Addr) (dn dc : Nat) (w : World), Below w0.heap.size w0 w →
      Calls Tryd.prog 55 #[av 23 0 ⟨#[]⟩ nilS 0 (.slice da dn dc), .int .u64 u, .int .i64 sz, .slice a n c, .int .i64 lv] w (ArrRes k [] k (.slice da dn dc) a2 (n - u) (c - u) w) := by
  have hln := hv.len
  simp only [List.length_append, List.length_cons] at hln
  have hun : u ≤ n := by omega
  have hcn := hv.cap
  have hcb := hv.big
  obtain ⟨a2, hoff2, hv2⟩ := off_u64 hv (u : Int) u rfl hun
  have hvb := hv.take hun
  have et : (hd ++ z :: tail).take u = hd ++ [z] := by rw [show hd ++ z :: tail = (hd ++ [z]) ++ tail by simp]; exact List.take_left' (by simp; omega)
  have ed : (hd ++ z :: tail).drop u = tail := by rw [show hd ++ z :: tail = (hd ++ [z]) ++ tail by simp]; exact List.drop_left' (by simp; omega)
  rw [ed] at hv2
  rw [et] at hvb
  obtain ⟨a3, hoff3, hv3⟩ := off_of hvb (sz : Int) sz rfl (by omega)
  have e3 : (hd ++ [z]).drop sz = [z] := List.drop_left' hhl
  have e4 : (hd ++ [z]).take sz = hd := List.take_left' hhl
  rw [e3] at hv3
  obtain ⟨a4, hv4, hcon⟩ := takeCon_plain z hz a3 (u - sz) (c - sz) [] (lv - 1) (by omega) w0 hv3
  have hlast : u - sz - 1 = 0 := by omega
  refine ⟨a2, hv2, fun da dn dc w hx => ?_⟩
  have hvw := Vw.below hx (Nat.le_refl _) hvb
  have t1 : decide (n < u) = false := by simp; omega
  have t2 : decide (u < sz) = false := by simp; omega
  have huc : u ≤ c := by omega
  have hszu : sz ≤ u := by omega
  have wc1 : IntKind.u64.wrap (n : Int) = n := by rw [wrap_u64]; omega
  have wc2 : IntKind.u64.wrap (sz : Int) = sz := by rw [wrap_u64]; omega
  unfold Off64 at hoff2
  have HB := Lib.hid hvw
  have HC := Lib.hid hcon
  have HO := Lib.hid hoff3
  have HN := Lib.hid hhd
  have HU := Lib.hid hu
  have HK := Lib.hid hk
  have HLN := Lib.hid hln
  have HL := Lib.hid hlast
  clear hvw hcon hoff3 hhd hu hk hln hlast
  unfold av
  go_enter Tryd.func55, Tryd.ntmps55
  go_wp2_with fail
  go_quiet (fail)
  go_wp2_with fail
  refine (takeBig_ok _ _ _ _ sz rfl (hd ++ [z]) _ ((((HB.out.alloc _).alloc _).alloc _).drewN _) _ HO.out (by omega) (by omega)).mono ?_
  rw [e4, HN.out]
  rintro e w1 ⟨rfl, nq, rfl⟩
  have hxW : ∀ W, Below w.heap.size w W → Below w0.heap.size w0 W := fun W h => hx.trans (h.mono hx.size)
  go_wp2_with fail
  refine (HC.out _ (hxW _ (by (repeat (first | with_reducible exact Below.refl _ _ | with_reducible assumption | with_reducible refine below_drewN ?_ _ | with_reducible refine Below.drew ?_ | with_reducible refine below_row ?_ (by first | omega | (simp; done) | (simp; omega)) _ | with_reducible refine Below.alloc ?_ (by first | omega | (simp; done) | (simp; omega)) _ | with_reducible refine Below.setCell ?_ (by first | omega | (simp; done) | (simp; omega)) _))))).mono ?_
  rintro e w1 ⟨rfl, hb1⟩
  rw [HL.out]
  unfold ct
  have hs1 : w.heap.size + 4 ≤ w1.heap.size := by have := hb1.size; simp at this; omega
  have hBv : Blk w1 w.heap.size 29 #[.int .i64 23, .int .u64 0, .string ⟨#[]⟩, nilS, .int .i64 0, .slice da dn dc] := Blk.below (by (repeat (first | with_reducible exact Blk.new _ _ _ | with_reducible assumption | with_reducible refine Blk.newAt (by first | rfl | (simp; done) | (simp; omega)) _ _ | with_reducible refine Blk.alloc ?_ _ | with_reducible refine Blk.drewN ?_ _ | with_reducible refine Blk.drew ?_ | with_reducible refine Blk.other ?_ (by first | omega | (simp; done) | (simp; omega)) _))) hb1 (by (first | omega | (simp; done) | (simp; omega)))
  have hBr : Blk w1 (w.heap.size + 1) 29 #[.int .i64 0, .int .u64 0, .string ⟨#[]⟩, nilS, .int .i64 0, nilS] := Blk.below (by (repeat (first | with_reducible exact Blk.new _ _ _ | with_reducible assumption | with_reducible refine Blk.newAt (by first | rfl | (simp; done) | (simp; omega)) _ _ | with_reducible refine Blk.alloc ?_ _ | with_reducible refine Blk.drewN ?_ _ | with_reducible refine Blk.drew ?_ | with_reducible refine Blk.other ?_ (by first | omega | (simp; done) | (simp; omega)) _))) hb1 (by (first | omega | (simp; done) | (simp; omega)))
  have hBc : Blk w1 (w.heap.size + 3) 81 #[nilS, .int .i64 0] := Blk.below (by (repeat (first | with_reducible exact Blk.new _ _ _ | with_reducible assumption | with_reducible refine Blk.newAt (by first | rfl | (simp; done) | (simp; omega)) _ _ | with_reducible refine Blk.alloc ?_ _ | with_reducible refine Blk.drewN ?_ _ | with_reducible refine Blk.drew ?_ | with_reducible refine Blk.other ?_ (by first | omega | (simp; done) | (simp; omega)) _))) hb1 (by (first | omega | (simp; done) | (simp; omega)))
  have hcv := hBv.cell (i := 0) rfl
  have hcc0 := hBc.cell (i := 0) rfl
  have hcc1 := hBc.cell (i := 1) rfl
  have hfc := fun i => hBc.frozen i
  have hbw : Below w.heap.size w w1 := Below.trans (b := _) (by (repeat (first | with_reducible exact Below.refl _ _ | with_reducible assumption | with_reducible refine below_drewN ?_ _ | with_reducible refine Below.drew ?_ | with_reducible refine below_row ?_ (by first | omega | (simp; done) | (simp; omega)) _ | with_reducible refine Below.alloc ?_ (by first | omega | (simp; done) | (simp; omega)) _ | with_reducible refine Below.setCell ?_ (by first | omega | (simp; done) | (simp; omega)) _))) (hb1.mono (by (first | omega | (simp; done) | (simp; omega))))
  go_wp2_with fail
  refine (kindOf_ok z k s HK.out _).mono ?_
  rintro e w2 ⟨rfl, hb2⟩
  have hlt3 : w.heap.size + 3 < w1.heap.size := by omega
  have hBv2 : Blk w2 w.heap.size 29 #[.int .i64 23, .int .u64 0, .string ⟨#[]⟩, nilS, .int .i64 0, .slice da dn dc] := Blk.below (by (repeat (first | with_reducible exact Blk.new _ _ _ | with_reducible assumption | with_reducible refine Blk.newAt (by first | rfl | (simp; done) | (simp; omega)) _ _ | with_reducible refine Blk.alloc ?_ _ | with_reducible refine Blk.drewN ?_ _ | with_reducible refine Blk.drew ?_ | with_reducible refine Blk.other ?_ (by first | omega | (simp; done) | (simp; omega)) _))) hb2 (by (first | omega | (simp; done) | (simp; omega)))
  have hBr2 : Blk w2 (w.heap.size + 1) 29 #[.int .i64 0, .int .u64 0, .string ⟨#[]⟩, nilS, .int .i64 0, nilS] := Blk.below (by (repeat (first | with_reducible exact Blk.new _ _ _ | with_reducible assumption | with_reducible refine Blk.newAt (by first | rfl | (simp; done) | (simp; omega)) _ _ | with_reducible refine Blk.alloc ?_ _ | with_reducible refine Blk.drewN ?_ _ | with_reducible refine Blk.drew ?_ | with_reducible refine Blk.other ?_ (by first | omega | (simp; done) | (simp; omega)) _))) hb2 (by (first | omega | (simp; done) | (simp; omega)))
  have hbw2 : Below w.heap.size w w2 := Below.trans (b := _) (by (repeat (first | with_reducible exact Below.refl _ _ | with_reducible assumption | with_reducible refine below_drewN ?_ _ | with_reducible refine Below.drew ?_ | with_reducible refine below_row ?_ (by first | omega | (simp; done) | (simp; omega)) _ | with_reducible refine Below.alloc ?_ (by first | omega | (simp; done) | (simp; omega)) _ | with_reducible refine Below.setCell ?_ (by first | omega | (simp; done) | (simp; omega)) _))) (hb2.mono (by (first | omega | (simp; done) | (simp; omega))))
  have hcv0 := hBv2.cell (i := 0) rfl
  have hcv1 := hBv2.cell (i := 1) rfl
  have hcv2 := hBv2.cell (i := 2) rfl
  have hcv3 := hBv2.cell (i := 3) rfl
  have hcv4 := hBv2.cell (i := 4) rfl
  have hcv5 := hBv2.cell (i := 5) rfl
  have hfv := hBv2.frozen 4
  have hr0 := hBr2.cell (i := 0) rfl
  have hr1 := hBr2.cell (i := 1) rfl
  have hr2 := hBr2.cell (i := 2) rfl
  have hr3 := hBr2.cell (i := 3) rfl
  have hr4 := hBr2.cell (i := 4) rfl
  have hr5 := hBr2.cell (i := 5) rfl
  have hfr := fun i => hBr2.frozen i
  go_wp2_with fail
  have hfin := Blk.set6 (hBr2.other (p := ⟨w.heap.size, 4, none⟩) (by simp) (.int .i64 k)) rfl (.int .i64 23) (.int .u64 0) (.string ⟨#[]⟩) nilS (.int .i64 k) (.slice da dn dc)
  refine bodyPost_ret (results_ctt rfl _ _ (w.heap.size + 1) 29 _ _ rfl hfin Tryd.underlying29 rfl (by kernel_rfl)) rfl ⟨none, 0, rfl, .inl rfl, fun x hx => (by cases hx), by (repeat (first | with_reducible exact Below.refl _ _ | with_reducible assumption | with_reducible refine below_drewN ?_ _ | with_reducible refine Below.drew ?_ | with_reducible refine below_row ?_ (by first | omega | (simp; done) | (simp; omega)) _ | with_reducible refine Below.alloc ?_ (by first | omega | (simp; done) | (simp; omega)) _ | with_reducible refine Below.setCell ?_ (by first | omega | (simp; done) | (simp; omega)) _))⟩

set_option maxRecDepth 100000 in
set_option maxHeartbeats 4000000 in
theorem take_arr (c : Int) (sz : Nat) (hk : Kind c 23 sz) (hs8 : sz ≤ 8) (h45 : c ≠ 69) (a : Option Addr) (n cap : Nat) (l : List Int) (lv : Int) (w0 : World) (hv : Vw w0 a n cap l) (hkn : sz ≤ n) (u : Nat) (hu : beN (l.take sz) = u) :
    ∃ a', Vw w0 a' (n - sz) (cap - sz) (l.drop sz) ∧ ∀ (k : Int) (es : Els) (kof : Int) (da : Option Addr) (dn dc : Nat) (a2 : Option Addr) (n2 c2 : Nat),
    (∀ w, Below w0.heap.size w0 w → Calls Tryd.prog 55 #[av 23 0 ⟨#[]⟩ nilS 0 (.slice da dn dc), .int .u64 u, .int .i64 sz, .slice a' (n - sz) (cap - sz), .int .i64 lv] w (ArrRes k es kof (.slice da dn dc) a2 n2 c2 w)) →
    ∀ w, Below w0.heap.size w0 w → Calls Tryd.prog 42 #[ct (.slice da dn dc) c, .slice a n cap, .int .i64 lv] w (ArrRes k es kof (.slice da dn dc) a2 n2 c2 w) := by
  obtain ⟨a', hoff, hv'⟩ := off_of hv (sz : Int) sz rfl hkn
  refine ⟨a', hv', fun k es kof da dn dc a2 n2 c2 hw w hx => ?_⟩
  have hvw := Vw.below hx (Nat.le_refl _) hv
  have e1 : ((sz : Int) == 16) = false := by simp; omega
  have e6 : (c == 69) = false := by simpa using h45
  have HS := Lib.hid hoff
  have HK := Lib.hid hk
  have HW := Lib.hid hw
  have HU := Lib.hid hu
  have HX := Lib.hid hx
  clear hoff hk hw hu hx
  unfold ct
  go_enter Tryd.func42, Tryd.ntmps42
  go_wp2_with fail
  refine (kindOf_ok c 23 sz HK.out _).mono ?_
  rintro e w1 ⟨rfl, hb1⟩
  have hs1 : w.heap.size + 3 ≤ w1.heap.size := by have := hb1.size; simp at this; omega
  have hB3 : Blk w1 w.heap.size 81 #[.slice da dn dc, .int .i64 c] := Blk.below (by (repeat (first | with_reducible exact Blk.new _ _ _ | with_reducible assumption | with_reducible refine Blk.newAt (by first | rfl | (simp; done) | (simp; omega)) _ _ | with_reducible refine Blk.alloc ?_ _ | with_reducible refine Blk.drewN ?_ _ | with_reducible refine Blk.drew ?_ | with_reducible refine Blk.other ?_ (by first | omega | (simp; done) | (simp; omega)) _))) hb1 (by (first | omega | (simp; done) | (simp; omega)))
  have hB6 : Blk w1 (w.heap.size + 1) 29 #[.int .i64 0, .int .u64 0, .string ⟨#[]⟩, nilS, .int .i64 0, nilS] := Blk.below (by (repeat (first | with_reducible exact Blk.new _ _ _ | with_reducible assumption | with_reducible refine Blk.newAt (by first | rfl | (simp; done) | (simp; omega)) _ _ | with_reducible refine Blk.alloc ?_ _ | with_reducible refine Blk.drewN ?_ _ | with_reducible refine Blk.drew ?_ | with_reducible refine Blk.other ?_ (by first | omega | (simp; done) | (simp; omega)) _))) hb1 (by (first | omega | (simp; done) | (simp; omega)))
  have hbw : Below w.heap.size w w1 := Below.trans (b := _) (by (repeat (first | with_reducible exact Below.refl _ _ | with_reducible assumption | with_reducible refine below_drewN ?_ _ | with_reducible refine Below.drew ?_ | with_reducible refine below_row ?_ (by first | omega | (simp; done) | (simp; omega)) _ | with_reducible refine Below.alloc ?_ (by first | omega | (simp; done) | (simp; omega)) _ | with_reducible refine Below.setCell ?_ (by first | omega | (simp; done) | (simp; omega)) _))) (hb1.mono (by (first | omega | (simp; done) | (simp; omega))))
  have hc30 := hB3.cell (i := 0) rfl
  have hc31 := hB3.cell (i := 1) rfl
  have hv1 := Vw.below hb1 (Nat.le_refl _) (((hvw.alloc _).alloc _).alloc _)
  go_wp2_with fail
  refine (takeBig_ok _ _ _ _ sz rfl l _ (hv1.alloc _) _ HS.out hkn hs8).mono ?_
  rw [HU.out]
  rintro e w2 ⟨rfl, nq, rfl⟩
  have hd31 := fun o => ((hB3.alloc o).drewN nq).cell (i := 1) rfl
  go_wp2_with fail
  have hxW : ∀ W, Below w.heap.size w W → Below w0.heap.size w0 W := fun W h => HX.out.trans (h.mono HX.out.size)
  refine (HW.out _ (hxW _ (by (repeat (first | with_reducible exact Below.refl _ _ | with_reducible assumption | with_reducible refine below_drewN ?_ _ | with_reducible refine Below.drew ?_ | with_reducible refine below_row ?_ (by first | omega | (simp; done) | (simp; omega)) _ | with_reducible refine Below.alloc ?_ (by first | omega | (simp; done) | (simp; omega)) _ | with_reducible refine Below.setCell ?_ (by first | omega | (simp; done) | (simp; omega)) _))))).mono ?_
  rintro e w3 ⟨ka, kc, rfl, hrd, hge, hb3⟩
  unfold got av
  have hbw3 : Below w.heap.size w w3 := Below.trans (b := _) (by (repeat (first | with_reducible exact Below.refl _ _ | with_reducible assumption | with_reducible refine below_drewN ?_ _ | with_reducible refine Below.drew ?_ | with_reducible refine below_row ?_ (by first | omega | (simp; done) | (simp; omega)) _ | with_reducible refine Below.alloc ?_ (by first | omega | (simp; done) | (simp; omega)) _ | with_reducible refine Below.setCell ?_ (by first | omega | (simp; done) | (simp; omega)) _))) (hb3.mono (by (first | omega | (simp; done) | (simp; omega))))
  have hB63 : Blk w3 (w.heap.size + 1) 29 #[.int .i64 0, .int .u64 0, .string ⟨#[]⟩, nilS, .int .i64 0, nilS] := Blk.below (by (repeat (first | with_reducible exact Blk.new _ _ _ | with_reducible assumption | with_reducible refine Blk.newAt (by first | rfl | (simp; done) | (simp; omega)) _ _ | with_reducible refine Blk.alloc ?_ _ | with_reducible refine Blk.drewN ?_ _ | with_reducible refine Blk.drew ?_ | with_reducible refine Blk.other ?_ (by first | omega | (simp; done) | (simp; omega)) _))) hb3 (by (first | omega | (simp; done) | (simp; omega)))
  have hr0 := hB63.cell (i := 0) rfl
  have hr1 := hB63.cell (i := 1) rfl
  have hr2 := hB63.cell (i := 2) rfl
  have hr3 := hB63.cell (i := 3) rfl
  have hr4 := hB63.cell (i := 4) rfl
  have hr5 := hB63.cell (i := 5) rfl
  have hfr := fun i => hB63.frozen i
  have hge' : ∀ x, ka = some x → w1.heap.size + 1 ≤ x.block := fun x hx => by have := hge x hx; simp at this; exact this
  have HG := Lib.hid hge'
  clear hge hge'
  go_wp2_with fail
  have hfin := Blk.set6 hB63 rfl (.int .i64 23) (.int .u64 0) (.string ⟨#[]⟩) (.slice ka es.length kc) (.int .i64 kof) (.slice da dn dc)
  refine bodyPost_ret (results_ctt rfl _ _ (w.heap.size + 1) 29 _ _ rfl hfin Tryd.underlying29 rfl (by kernel_rfl)) rfl ⟨ka, kc, rfl, ?_, fun x hx => by have := HG.out x hx; omega, by (repeat (first | with_reducible exact Below.refl _ _ | with_reducible assumption | with_reducible refine below_drewN ?_ _ | with_reducible refine Below.drew ?_ | with_reducible refine below_row ?_ (by first | omega | (simp; done) | (simp; omega)) _ | with_reducible refine Below.alloc ?_ (by first | omega | (simp; done) | (simp; omega)) _ | with_reducible refine Below.setCell ?_ (by first | omega | (simp; done) | (simp; omega)) _))⟩
  exact hrd.set6 (fun x hx => by have := HG.out x hx; omega) _ _ _ _ _ _

set_option maxRecDepth 100000 in
set_option maxHeartbeats 4000000 in
theorem takeValue_arr (z : Int) (hz : z ≠ 0) (a : Option Addr) (n c : Nat) (l : List Int) (lv : Int) (hlv : 0 < lv) (w0 : World) (hv : Vw w0 a n c (z :: l)) :
    ∃ a1, Vw w0 a1 (n - 1) (c - 1) l ∧ ∀ (k : Int) (es : Els) (kof : Int) (a2 : Option Addr) (n2 c2 : Nat),
    (∀ w, Below w0.heap.size w0 w → Calls Tryd.prog 42 #[ct nilS z, .slice a1 (n - 1) (c - 1), .int .i64 lv] w (ArrRes k es kof nilS a2 n2 c2 w)) →
    ∀ w, Below w0.heap.size w0 w → Calls Tryd.prog 29 #[.slice a n c, .int .i64 lv] w (ArrRes k es kof nilS a2 n2 c2 w) := by
  obtain ⟨a1, hv1, hcon⟩ := takeCon_plain z hz a n c l lv hlv w0 hv
  refine ⟨a1, hv1, fun k es kof a2 n2 c2 ht1 w hx => ?_⟩
  have HT := Lib.hid ht1
  have HX := Lib.hid hx
  clear ht1 hx
  have hxW : ∀ W, Below w.heap.size w W → Below w0.heap.size w0 W := fun W h => HX.out.trans (h.mono HX.out.size)
  go_enter Tryd.func29, Tryd.ntmps29
  go_wp2_with fail
  refine (hcon _ (hxW _ (by (repeat (first | with_reducible exact Below.refl _ _ | with_reducible assumption | with_reducible refine below_drewN ?_ _ | with_reducible refine Below.drew ?_ | with_reducible refine below_row ?_ (by first | omega | (simp; done) | (simp; omega)) _ | with_reducible refine Below.alloc ?_ (by first | omega | (simp; done) | (simp; omega)) _ | with_reducible refine Below.setCell ?_ (by first | omega | (simp; done) | (simp; omega)) _))))).mono ?_
  rintro e w1 ⟨rfl, hb1⟩
  unfold ct
  have hs1 : w.heap.size + 1 ≤ w1.heap.size := by have := hb1.size; simp at this; omega
  have hB4 : Blk w1 w.heap.size 29 #[.int .i64 0, .int .u64 0, .string ⟨#[]⟩, nilS, .int .i64 0, nilS] := Blk.below (by (repeat (first | with_reducible exact Blk.new _ _ _ | with_reducible assumption | with_reducible refine Blk.newAt (by first | rfl | (simp; done) | (simp; omega)) _ _ | with_reducible refine Blk.alloc ?_ _ | with_reducible refine Blk.drewN ?_ _ | with_reducible refine Blk.drew ?_ | with_reducible refine Blk.other ?_ (by first | omega | (simp; done) | (simp; omega)) _))) hb1 (by (first | omega | (simp; done) | (simp; omega)))
  have hbw : Below w.heap.size w w1 := Below.trans (b := _) (by (repeat (first | with_reducible exact Below.refl _ _ | with_reducible assumption | with_reducible refine below_drewN ?_ _ | with_reducible refine Below.drew ?_ | with_reducible refine below_row ?_ (by first | omega | (simp; done) | (simp; omega)) _ | with_reducible refine Below.alloc ?_ (by first | omega | (simp; done) | (simp; omega)) _ | with_reducible refine Below.setCell ?_ (by first | omega | (simp; done) | (simp; omega)) _))) (hb1.mono (by (first | omega | (simp; done) | (simp; omega))))
  go_wp2_with fail
  refine (HT.out _ (hxW _ (by (repeat (first | with_reducible exact Below.refl _ _ | with_reducible assumption | with_reducible refine below_drewN ?_ _ | with_reducible refine Below.drew ?_ | with_reducible refine below_row ?_ (by first | omega | (simp; done) | (simp; omega)) _ | with_reducible refine Below.alloc ?_ (by first | omega | (simp; done) | (simp; omega)) _ | with_reducible refine Below.setCell ?_ (by first | omega | (simp; done) | (simp; omega)) _))))).mono ?_
  rintro e w2 ⟨ka, kc, rfl, hrd, hge, hb2⟩
  unfold got av
  have hbw2 : Below w.heap.size w w2 := Below.trans (b := _) (by (repeat (first | with_reducible exact Below.refl _ _ | with_reducible assumption | with_reducible refine below_drewN ?_ _ | with_reducible refine Below.drew ?_ | with_reducible refine below_row ?_ (by first | omega | (simp; done) | (simp; omega)) _ | with_reducible refine Below.alloc ?_ (by first | omega | (simp; done) | (simp; omega)) _ | with_reducible refine Below.setCell ?_ (by first | omega | (simp; done) | (simp; omega)) _))) (hb2.mono (by (first | omega | (simp; done) | (simp; omega))))
  have hB63 : Blk w2 w.heap.size 29 #[.int .i64 0, .int .u64 0, .string ⟨#[]⟩, nilS, .int .i64 0, nilS] := Blk.below (by (repeat (first | with_reducible exact Blk.new _ _ _ | with_reducible assumption | with_reducible refine Blk.newAt (by first | rfl | (simp; done) | (simp; omega)) _ _ | with_reducible refine Blk.alloc ?_ _ | with_reducible refine Blk.drewN ?_ _ | with_reducible refine Blk.drew ?_ | with_reducible refine Blk.other ?_ (by first | omega | (simp; done) | (simp; omega)) _))) hb2 (by (first | omega | (simp; done) | (simp; omega)))
  have hr0 := hB63.cell (i := 0) rfl
  have hr1 := hB63.cell (i := 1) rfl
  have hr2 := hB63.cell (i := 2) rfl
  have hr3 := hB63.cell (i := 3) rfl
  have hr4 := hB63.cell (i := 4) rfl
  have hr5 := hB63.cell (i := 5) rfl
  have hfr := fun i => hB63.frozen i
  have hge' : ∀ x, ka = some x → w1.heap.size + 1 ≤ x.block := fun x hx => by have := hge x hx; simp at this; exact this
  have HG := Lib.hid hge'
  clear hge hge'
  go_wp2_with fail
  have hfin := Blk.set6 hB63 rfl (.int .i64 23) (.int .u64 0) (.string ⟨#[]⟩) (.slice ka es.length kc) (.int .i64 kof) nilS
  refine bodyPost_ret (results_ctt rfl _ _ w.heap.size 29 _ _ rfl hfin Tryd.underlying29 rfl (by kernel_rfl)) rfl ⟨ka, kc, rfl, ?_, fun x hx => by have := HG.out x hx; omega, by (repeat (first | with_reducible exact Below.refl _ _ | with_reducible assumption | with_reducible refine below_drewN ?_ _ | with_reducible refine Below.drew ?_ | with_reducible refine below_row ?_ (by first | omega | (simp; done) | (simp; omega)) _ | with_reducible refine Below.alloc ?_ (by first | omega | (simp; done) | (simp; omega)) _ | with_reducible refine Below.setCell ?_ (by first | omega | (simp; done) | (simp; omega)) _))⟩
  exact hrd.set6 (fun x hx => by have := HG.out x hx; omega) _ _ _ _ _ _
end Go.Proofs.YtkbfppjniaejnaaDoor
