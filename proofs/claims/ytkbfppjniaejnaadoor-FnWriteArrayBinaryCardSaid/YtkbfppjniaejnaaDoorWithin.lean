/- spec.within at an array with elements that hold no values. -/
import Derived.Test.YtkbfppjniaejnaaDoorVrow
import Derived.Test.YtkbfppjniaejnaaDoorStr
import Derived.Test.YtkbfppjniaejnaaDoorWriteLong
namespace Go.Proofs.YtkbfppjniaejnaaDoor
open Go.RowKit
set_option linter.unusedVariables false
set_option linter.unusedSimpArgs false

/-- What the reader of an array answers: its values lie in memory of its own. -/
def ArrRes (k : Int) (es : Els) (kof : Int) (D : Value) (a2 : Option Addr) (n2 c2 : Nat) (w : World) (r : Ending) (w' : World) : Prop :=
  ∃ ka kc, r = .returned (got (av 23 0 ⟨#[]⟩ (.slice ka es.length kc) kof D) a2 n2 c2) ∧ Rd w' ka (kidsV k es) ∧ (∀ x, ka = some x → w.heap.size ≤ x.block) ∧ Below w.heap.size w w'

/-- What the loop of within keeps. -/
def WInv (w0 w : World) (k z : Int) (es : Els) (da : Option Addr) (dn dc : Nat) (gc B : Nat) (j : Nat) (a : Option Addr) (n c : Nat) (ka : Option Addr) (kc : Nat) (wr : World) : Prop :=
  Vw w0 a n c (flat (es.drop j)) ∧ Blk wr w.heap.size 29 #[.int .i64 23, .int .u64 0, .string ⟨#[]⟩, .slice ka j kc, .int .i64 0, .slice da dn dc] ∧
  (∃ cs, Blk wr (w.heap.size + 1) 29 cs ∧ cs.size = 6) ∧ Blk wr gc 81 #[nilS, .int .i64 z] ∧ wr.ownsRow B 29 6 (.slice ka j kc) j (kidsV k (es.take j)) ∧ Below w.heap.size w wr

set_option maxRecDepth 100000 in
set_option maxHeartbeats 8000000 in
theorem within_arr (k z : Int) (hz : z ≠ 0) (sz : Nat) (hs1 : 1 ≤ sz) (hs8 : sz ≤ 8) (es : Els) (hes : ∀ e ∈ es, Elem z k e) (hne : 0 < es.length) (hcnt : es.length ≤ 1048576)
    (hd : List Int) (hhl : hd.length = sz) (hhd : beN hd = es.length) (lv : Int) (hlv : 1 < lv) (hlv8 : lv ≤ 100) (w0 : World) (a : Option Addr) (n c : Nat) (tail : List Int) (hv : Vw w0 a n c (hd ++ z :: flat es ++ tail)) (u : Nat) (hu : u = sz + 1 + (flat es).length) :
    ∃ a2, Vw w0 a2 (n - u) (c - u) tail ∧ ∀ (da : Option Addr) (dn dc : Nat) (w : World), Below w0.heap.size w0 w →
      Calls Tryd.prog 55 #[av 23 0 ⟨#[]⟩ nilS 0 (.slice da dn dc), .int .u64 u, .int .i64 sz, .slice a n c, .int .i64 lv] w (ArrRes k es 0 (.slice da dn dc) a2 (n - u) (c - u) w) := by
  have hln := hv.len
  simp only [List.length_append, List.length_cons] at hln
  have hun : u ≤ n := by omega
  have hcn := hv.cap
  have hcb := hv.big
  obtain ⟨a2, hoff2, hv2⟩ := off_u64 hv (u : Int) u rfl hun
  have hvb := hv.take hun
  have et : (hd ++ z :: flat es ++ tail).take u = hd ++ z :: flat es := List.take_left' (by simp; omega)
  have ed : (hd ++ z :: flat es ++ tail).drop u = tail := List.drop_left' (by simp; omega)
  rw [ed] at hv2
  rw [et] at hvb
  obtain ⟨a3, hoff3, hv3⟩ := off_of hvb (sz : Int) sz rfl (by omega)
  have e3 : (hd ++ z :: flat es).drop sz = z :: flat es := List.drop_left' hhl
  have e4 : (hd ++ z :: flat es).take sz = hd := List.take_left' hhl
  rw [e3] at hv3
  obtain ⟨a4, hv4, hcon⟩ := takeCon_plain z hz a3 (u - sz) (c - sz) (flat es) (lv - 1) (by omega) w0 hv3
  refine ⟨a2, hv2, fun da dn dc w hx => ?_⟩
  have hvw := Vw.below hx (Nat.le_refl _) hvb
  obtain ⟨m, hm⟩ : ∃ m, m = es.length := ⟨_, rfl⟩
  rw [← hm] at hhd hne hcnt
  have t1 : decide (n < u) = false := by simp; omega
  have t2 : decide (u < sz) = false := by simp; omega
  have huc : u ≤ c := by omega
  have hszu : sz ≤ u := by omega
  have t5 : decide ((m : Int) > 1048576) = false := by simp; omega
  have t6 : ((m : Int) == 0) = false := by simp; omega
  have wc1 : IntKind.u64.wrap (n : Int) = n := by rw [wrap_u64]; omega
  have wc2 : IntKind.u64.wrap (sz : Int) = sz := by rw [wrap_u64]; omega
  unfold Off64 at hoff2
  have HB := Lib.hid hvw
  have HC := Lib.hid hcon
  have HO := Lib.hid hoff3
  have HN := Lib.hid hhd
  have HM := Lib.hid hm
  have HU := Lib.hid hu
  have HES := Lib.hid hes
  have HLN := Lib.hid hln
  clear hvw hcon hoff3 hhd hu hes hln hm
  unfold av
  go_enter Tryd.func55, Tryd.ntmps55
  go_wp2_with fail
  go_quiet (fail)
  go_wp2_with fail
  refine (takeBig_ok _ _ _ _ sz rfl (hd ++ z :: flat es) _ ((((HB.out.alloc _).alloc _).alloc _).drewN _) _ HO.out (by omega) (by omega)).mono ?_
  rw [e4, HN.out]
  rintro e w1 ⟨rfl, nq, rfl⟩
  have hxW : ∀ W, Below w.heap.size w W → Below w0.heap.size w0 W := fun W h => hx.trans (h.mono hx.size)
  go_wp2_with fail
  refine (HC.out _ (hxW _ (by (repeat (first | with_reducible exact Below.refl _ _ | with_reducible assumption | with_reducible refine below_drewN ?_ _ | with_reducible refine Below.drew ?_ | with_reducible refine below_row ?_ (by first | omega | (simp; done) | (simp; omega)) _ | with_reducible refine Below.alloc ?_ (by first | omega | (simp; done) | (simp; omega)) _ | with_reducible refine Below.setCell ?_ (by first | omega | (simp; done) | (simp; omega)) _))))).mono ?_
  rintro e w1 ⟨rfl, hb1⟩
  unfold ct
  have hs1 : w.heap.size + 4 ≤ w1.heap.size := by have := hb1.size; simp at this; omega
  have hBv : Blk w1 w.heap.size 29 #[.int .i64 23, .int .u64 0, .string ⟨#[]⟩, nilS, .int .i64 0, .slice da dn dc] := Blk.below (by (repeat (first | with_reducible exact Blk.new _ _ _ | with_reducible assumption | with_reducible refine Blk.newAt (by first | rfl | (simp; done) | (simp; omega)) _ _ | with_reducible refine Blk.alloc ?_ _ | with_reducible refine Blk.drewN ?_ _ | with_reducible refine Blk.drew ?_ | with_reducible refine Blk.other ?_ (by first | omega | (simp; done) | (simp; omega)) _))) hb1 (by (first | omega | (simp; done) | (simp; omega)))
  have hBr : Blk w1 (w.heap.size + 1) 29 #[.int .i64 0, .int .u64 0, .string ⟨#[]⟩, nilS, .int .i64 0, nilS] := Blk.below (by (repeat (first | with_reducible exact Blk.new _ _ _ | with_reducible assumption | with_reducible refine Blk.newAt (by first | rfl | (simp; done) | (simp; omega)) _ _ | with_reducible refine Blk.alloc ?_ _ | with_reducible refine Blk.drewN ?_ _ | with_reducible refine Blk.drew ?_ | with_reducible refine Blk.other ?_ (by first | omega | (simp; done) | (simp; omega)) _))) hb1 (by (first | omega | (simp; done) | (simp; omega)))
  have hBc : Blk w1 (w.heap.size + 3) 81 #[nilS, .int .i64 0] := Blk.below (by (repeat (first | with_reducible exact Blk.new _ _ _ | with_reducible assumption | with_reducible refine Blk.newAt (by first | rfl | (simp; done) | (simp; omega)) _ _ | with_reducible refine Blk.alloc ?_ _ | with_reducible refine Blk.drewN ?_ _ | with_reducible refine Blk.drew ?_ | with_reducible refine Blk.other ?_ (by first | omega | (simp; done) | (simp; omega)) _))) hb1 (by (first | omega | (simp; done) | (simp; omega)))
  have hcv := hBv.cell (i := 0) rfl
  have hcc0 := hBc.cell (i := 0) rfl
  have hcc1 := hBc.cell (i := 1) rfl
  have hfc := fun i => hBc.frozen i
  have hbw : Below w.heap.size w w1 := Below.trans (b := _) (by (repeat (first | with_reducible exact Below.refl _ _ | with_reducible assumption | with_reducible refine below_drewN ?_ _ | with_reducible refine Below.drew ?_ | with_reducible refine below_row ?_ (by first | omega | (simp; done) | (simp; omega)) _ | with_reducible refine Below.alloc ?_ (by first | omega | (simp; done) | (simp; omega)) _ | with_reducible refine Below.setCell ?_ (by first | omega | (simp; done) | (simp; omega)) _))) (hb1.mono (by (first | omega | (simp; done) | (simp; omega))))
  go_wp2_with fail
  clear hcv hcc0 hcc1 hfc
  have hlt3 : w.heap.size + 3 < w1.heap.size := by omega
  have hBc' : Blk ((w1.setCell ⟨w.heap.size + 3, 0, none⟩ nilS).setCell ⟨w.heap.size + 3, 1, none⟩ (.int .i64 z)) (w.heap.size + 3) 81 #[nilS, .int .i64 z] := Blk.set2 hBc rfl _ _
  go_loopw [14, 22] (fun body i wr => ∃ j a n c ka kc, j ≤ m ∧ i = .int .u64 j ∧ body = .slice a n c ∧ WInv w0 w k z es da dn dc (w.heap.size + 3) (w.heap.size + 4) j a n c ka kc wr) (fun _ i _ => m - (intOf i).toNat)
  case atStart => exact ⟨0, a4, _, _, none, 0, Nat.zero_le _, rfl, rfl, by simpa using hv4, by (repeat (first | with_reducible exact Blk.new _ _ _ | with_reducible assumption | with_reducible refine Blk.newAt (by first | rfl | (simp; done) | (simp; omega)) _ _ | with_reducible refine Blk.alloc ?_ _ | with_reducible refine Blk.drewN ?_ _ | with_reducible refine Blk.drew ?_ | with_reducible refine Blk.other ?_ (by first | omega | (simp; done) | (simp; omega)) _)), ⟨#[.int .i64 0, .int .u64 0, .string ⟨#[]⟩, nilS, .int .i64 0, nilS], by (repeat (first | with_reducible exact Blk.new _ _ _ | with_reducible assumption | with_reducible refine Blk.newAt (by first | rfl | (simp; done) | (simp; omega)) _ _ | with_reducible refine Blk.alloc ?_ _ | with_reducible refine Blk.drewN ?_ _ | with_reducible refine Blk.drew ?_ | with_reducible refine Blk.other ?_ (by first | omega | (simp; done) | (simp; omega)) _)), rfl⟩, hBc', World.ownsRow_nil _ _ _ _, by (repeat (first | with_reducible exact Below.refl _ _ | with_reducible assumption | with_reducible refine below_drewN ?_ _ | with_reducible refine Below.drew ?_ | with_reducible refine below_row ?_ (by first | omega | (simp; done) | (simp; omega)) _ | with_reducible refine Below.alloc ?_ (by first | omega | (simp; done) | (simp; omega)) _ | with_reducible refine Below.setCell ?_ (by first | omega | (simp; done) | (simp; omega)) _))⟩
  case round =>
    obtain ⟨j, a, n, c, ka, kc, hj, rfl, rfl, hvj, hBv, ⟨cs, hBr, hcs⟩, hBc, hown, hb⟩ := hrel
    by_cases hlt : j < m
    · have hje : j < es.length := by rw [← HM.out]; exact hlt
      obtain ⟨⟨enc, num, txt⟩, he⟩ : ∃ e, e = es[j] := ⟨_, rfl⟩
      have hvj' := hvj
      rw [flat_drop es j hje, ← he] at hvj'
      obtain ⟨a', hv', hcall⟩ := HES.out _ (by rw [he]; exact List.getElem_mem hje) w0 a n c _ (lv - 1) hvj'
      have HJ := Lib.hid he
      clear he hvj hvj'
      have hcv := fun o => (hBv.alloc o).cell (i := 0) rfl
      have hcc0 := fun o => (hBc.alloc o).cell (i := 0) rfl
      have hcc1 := fun o => (hBc.alloc o).cell (i := 1) rfl
      go_wp2_with fail
      have hsz := hb.size
      refine (hcall _ (hxW _ (by (repeat (first | with_reducible exact Below.refl _ _ | with_reducible assumption | with_reducible refine below_drewN ?_ _ | with_reducible refine Below.drew ?_ | with_reducible refine below_row ?_ (by first | omega | (simp; done) | (simp; omega)) _ | with_reducible refine Below.alloc ?_ (by first | omega | (simp; done) | (simp; omega)) _ | with_reducible refine Below.setCell ?_ (by first | omega | (simp; done) | (simp; omega)) _))))).mono ?_
      rintro r w2 ⟨rfl, hb2⟩
      unfold got av
      have hs2 : wr.heap.size + 1 ≤ w2.heap.size := by have := hb2.size; simp at this; omega
      have hBk2 : Blk w2 wr.heap.size 29 #[.int .i64 0, .int .u64 0, .string ⟨#[]⟩, nilS, .int .i64 0, nilS] := Blk.below (by (repeat (first | with_reducible exact Blk.new _ _ _ | with_reducible assumption | with_reducible refine Blk.newAt (by first | rfl | (simp; done) | (simp; omega)) _ _ | with_reducible refine Blk.alloc ?_ _ | with_reducible refine Blk.drewN ?_ _ | with_reducible refine Blk.drew ?_ | with_reducible refine Blk.other ?_ (by first | omega | (simp; done) | (simp; omega)) _))) hb2 (by (first | omega | (simp; done) | (simp; omega)))
      have hBv2 := Blk.below (hBv.alloc _) hb2 (by have := hBv.lt; (first | omega | (simp; done) | (simp; omega)))
      have hBr2 := Blk.below (hBr.alloc _) hb2 (by have := hBr.lt; (first | omega | (simp; done) | (simp; omega)))
      have hBc2 := Blk.below (hBc.alloc _) hb2 (by have := hBc.lt; (first | omega | (simp; done) | (simp; omega)))
      have hown2 := owns_below (hown.alloc _) hb2
      have hbw2 : Below w.heap.size w w2 := Below.trans (b := _) (by (repeat (first | with_reducible exact Below.refl _ _ | with_reducible assumption | with_reducible refine below_drewN ?_ _ | with_reducible refine Below.drew ?_ | with_reducible refine below_row ?_ (by first | omega | (simp; done) | (simp; omega)) _ | with_reducible refine Below.alloc ?_ (by first | omega | (simp; done) | (simp; omega)) _ | with_reducible refine Below.setCell ?_ (by first | omega | (simp; done) | (simp; omega)) _))) (hb2.mono (by (first | omega | (simp; done) | (simp; omega))))
      have hc0 := hBk2.cell (i := 0) rfl
      have hc1 := hBk2.cell (i := 1) rfl
      have hc2 := hBk2.cell (i := 2) rfl
      have hc3 := hBk2.cell (i := 3) rfl
      have hc4 := hBk2.cell (i := 4) rfl
      have hc5 := hBk2.cell (i := 5) rfl
      have hf := fun i => hBk2.frozen i
      have hlv := hBv.lt
      have hne1 : ¬ wr.heap.size = w.heap.size := by omega
      have hne2 : ¬ w.heap.size = wr.heap.size := by omega
      clear hcv hcc0 hcc1
      have hcv3 := hBv2.cell (i := 3) rfl
      have hfv3 := hBv2.frozen 3
      have hbr2 : Below wr.heap.size wr w2 := Below.trans (b := _) (by (repeat (first | with_reducible exact Below.refl _ _ | with_reducible assumption | with_reducible refine below_drewN ?_ _ | with_reducible refine Below.drew ?_ | with_reducible refine below_row ?_ (by first | omega | (simp; done) | (simp; omega)) _ | with_reducible refine Below.alloc ?_ (by first | omega | (simp; done) | (simp; omega)) _ | with_reducible refine Below.setCell ?_ (by first | omega | (simp; done) | (simp; omega)) _))) (hb2.mono (by (first | omega | (simp; done) | (simp; omega))))
      have hjm : j ≤ 1099511627776 := by omega
      have hlc := hBc.lt
      have hs3 : w.heap.size + 4 ≤ w2.heap.size := by omega
      clear hown2 hBr hBv hBc
      go_wp2_with (at_builtin; refine appV (by rfl) _ _ (by rfl) (w.heap.size + 4) ka j kc (kidsV k (es.take j)) (by rfl) (owns_below hown (by (repeat (first | with_reducible exact Below.refl _ _ | with_reducible assumption | with_reducible refine below_drewN ?_ _ | with_reducible refine Below.drew ?_ | with_reducible refine below_row ?_ (by first | omega | (simp; done) | (simp; omega)) _ | with_reducible refine Below.alloc ?_ (by first | omega | (simp; done) | (simp; omega)) _ | with_reducible refine Below.setCell ?_ (by first | omega | (simp; done) | (simp; omega)) _)))) w2.heap.size (by rfl) [.int .i64 k, .int .u64 num, .string txt, nilS, .int .i64 0, nilS] rfl (kid_one k num txt) (by (repeat (first | with_reducible exact Blk.new _ _ _ | with_reducible assumption | with_reducible refine Blk.newAt (by first | rfl | (simp; done) | (simp; omega)) _ _ | with_reducible refine Blk.alloc ?_ _ | with_reducible refine Blk.drewN ?_ _ | with_reducible refine Blk.drew ?_ | with_reducible refine Blk.other ?_ (by first | omega | (simp; done) | (simp; omega)) _))) hjm (by (first | omega | (simp; done) | (simp; omega))) ?_; intro a5 c5 w3 hown3 hg3; have hb3 := below_of_grown (B := w.heap.size + 4) hg3 (by (first | omega | (simp; done) | (simp; omega))) (ge_of_owns hown); have hBv3 : Blk w3 w.heap.size 29 #[.int .i64 23, .int .u64 0, .string ⟨#[]⟩, .slice ka j kc, .int .i64 0, .slice da dn dc] := Blk.below (by (repeat (first | with_reducible exact Blk.new _ _ _ | with_reducible assumption | with_reducible refine Blk.newAt (by first | rfl | (simp; done) | (simp; omega)) _ _ | with_reducible refine Blk.alloc ?_ _ | with_reducible refine Blk.drewN ?_ _ | with_reducible refine Blk.drew ?_ | with_reducible refine Blk.other ?_ (by first | omega | (simp; done) | (simp; omega)) _))) hb3 (by omega); have hf3 := hBv3.frozen 3; have hq3 := hBv3.cell (i := 3) rfl)
      have hBr3 : Blk w3 (w.heap.size + 1) 29 cs := Blk.below (by (repeat (first | with_reducible exact Blk.new _ _ _ | with_reducible assumption | with_reducible refine Blk.newAt (by first | rfl | (simp; done) | (simp; omega)) _ _ | with_reducible refine Blk.alloc ?_ _ | with_reducible refine Blk.drewN ?_ _ | with_reducible refine Blk.drew ?_ | with_reducible refine Blk.other ?_ (by first | omega | (simp; done) | (simp; omega)) _))) hb3 (by omega)
      have hBc3 : Blk w3 (w.heap.size + 3) 81 #[nilS, .int .i64 z] := Blk.below (by (repeat (first | with_reducible exact Blk.new _ _ _ | with_reducible assumption | with_reducible refine Blk.newAt (by first | rfl | (simp; done) | (simp; omega)) _ _ | with_reducible refine Blk.alloc ?_ _ | with_reducible refine Blk.drewN ?_ _ | with_reducible refine Blk.drew ?_ | with_reducible refine Blk.other ?_ (by first | omega | (simp; done) | (simp; omega)) _))) hb3 (by omega)
      have hbE : Below w.heap.size w w3 := Below.trans (b := _) (by (repeat (first | with_reducible exact Below.refl _ _ | with_reducible assumption | with_reducible refine below_drewN ?_ _ | with_reducible refine Below.drew ?_ | with_reducible refine below_row ?_ (by first | omega | (simp; done) | (simp; omega)) _ | with_reducible refine Below.alloc ?_ (by first | omega | (simp; done) | (simp; omega)) _ | with_reducible refine Below.setCell ?_ (by first | omega | (simp; done) | (simp; omega)) _))) (hb3.mono (by omega))
      have hk5 := kidsV_snoc k es j hje
      rw [← HJ.out] at hk5
      go_roundw
      case rel => exact ⟨j + 1, a', _, _, a5, c5, by omega, by go_num, rfl, hv', hBv3.set 3 _, ⟨cs, hBr3.other (by simp) _, hcs⟩, hBc3.other (by simp) _, owns_set (by rw [hk5]; exact hown3) (by simp) _, hbE.setCell (Nat.le_refl _) _⟩
      case measure => simp [intOf]; omega
    · obtain rfl : j = m := by omega
      have hvz := hvj
      rw [show es.drop j = [] by rw [List.drop_of_length_le (by rw [← HM.out]; exact Nat.le_refl _)]] at hvz
      obtain rfl : n = 0 := by have := hvz.len; simp [flat] at this; omega
      have hown' : wr.ownsRow (w.heap.size + 4) 29 6 (.slice ka j kc) j (kidsV k es) := by
        rw [List.take_of_length_le (by rw [← HM.out]; exact Nat.le_refl _)] at hown; exact hown
      have hcv0 := hBv.cell (i := 0) rfl
      have hcv1 := hBv.cell (i := 1) rfl
      have hcv2 := hBv.cell (i := 2) rfl
      have hcv3 := hBv.cell (i := 3) rfl
      have hcv4 := hBv.cell (i := 4) rfl
      have hcv5 := hBv.cell (i := 5) rfl
      obtain ⟨⟨r0, r1, r2, r3, r4, r5⟩, hfr⟩ := Has6.cells ⟨cs, hBr, hcs⟩
      go_wp2_with fail
      have hfin := Blk.set6 hBr hcs (.int .i64 23) (.int .u64 0) (.string ⟨#[]⟩) (.slice ka j kc) (.int .i64 0) (.slice da dn dc)
      refine bodyPost_ret (results_ctt rfl _ _ (w.heap.size + 1) 29 _ _ rfl hfin Tryd.underlying29 rfl (by kernel_rfl)) rfl ⟨ka, kc, by rw [← HM.out]; rfl, ?_, fun x hx => Nat.le_trans (Nat.le_add_right _ _) (ge_of_owns hown x hx), by (repeat (first | with_reducible exact Below.refl _ _ | with_reducible assumption | with_reducible refine below_drewN ?_ _ | with_reducible refine Below.drew ?_ | with_reducible refine below_row ?_ (by first | omega | (simp; done) | (simp; omega)) _ | with_reducible refine Below.alloc ?_ (by first | omega | (simp; done) | (simp; omega)) _ | with_reducible refine Below.setCell ?_ (by first | omega | (simp; done) | (simp; omega)) _))⟩
      exact Rd.of_owns (owns_set (owns_set (owns_set (owns_set (owns_set (owns_set hown' (by simp) _) (by simp) _) (by simp) _) (by simp) _) (by simp) _) (by simp) _)
end Go.Proofs.YtkbfppjniaejnaaDoor
