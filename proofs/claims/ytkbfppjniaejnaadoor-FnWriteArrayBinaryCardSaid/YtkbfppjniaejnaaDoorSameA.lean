/- spec.SameValue at arrays; laws.wrote at arrays. -/
import Derived.Test.YtkbfppjniaejnaaDoorArrs
import Derived.StillTailTactics
namespace Go.Proofs.YtkbfppjniaejnaaDoor
open Go.RowKit
set_option linter.unusedVariables false
set_option linter.unusedSimpArgs false

set_option maxRecDepth 100000 in
set_option maxHeartbeats 4000000 in
theorem same_arr (k : Int) (es : Els) (hcnt : es.length ≤ 1048576) (ka kb : Option Addr) (kc kc' : Nat) (kof kof' : Int) (w : World) (ha : Rd w ka (kidsV k es)) (hb : Rd w kb (kidsV k es)) :
    Calls Tryd.prog 30 #[av 23 0 ⟨#[]⟩ (.slice ka es.length kc) kof nilS, av 23 0 ⟨#[]⟩ (.slice kb es.length kc') kof' nilS] w fun e w' => e = .returned (.bool true) ∧ Below w.heap.size w w' := by
  have e1 : ((0 : Int) != 0) = false := by simp
  obtain ⟨m, hm⟩ : ∃ m, m = es.length := ⟨_, rfl⟩
  rw [← hm] at hcnt ⊢
  have HM := Lib.hid hm
  clear hm
  unfold av
  go_enter Tryd.func30, Tryd.ntmps30
  go_wp2_with fail
  go_loopw [46] (fun i wr => ∃ j, j ≤ m ∧ i = .int .i64 j ∧ Below w.heap.size w wr ∧ Rd wr ka (kidsV k es) ∧ Rd wr kb (kidsV k es) ∧ Blk wr w.heap.size 29 #[.int .i64 23, .int .u64 0, .string ⟨#[]⟩, .slice ka m kc, .int .i64 kof, nilS] ∧ Blk wr (w.heap.size + 1) 29 #[.int .i64 23, .int .u64 0, .string ⟨#[]⟩, .slice kb m kc', .int .i64 kof', nilS]) (fun i _ => m - (intOf i).toNat)
  case atStart => exact ⟨0, Nat.zero_le _, rfl, by (repeat (first | with_reducible exact Below.refl _ _ | with_reducible assumption | with_reducible refine below_drewN ?_ _ | with_reducible refine Below.drew ?_ | with_reducible refine below_row ?_ (by first | omega | (simp; done) | (simp; omega)) _ | with_reducible refine Below.alloc ?_ (by first | omega | (simp; done) | (simp; omega)) _ | with_reducible refine Below.setCell ?_ (by first | omega | (simp; done) | (simp; omega)) _)), (ha.alloc _).alloc _, (hb.alloc _).alloc _, by (repeat (first | with_reducible exact Blk.new _ _ _ | with_reducible assumption | with_reducible refine Blk.newAt (by first | rfl | (simp; done) | (simp; omega)) _ _ | with_reducible refine Blk.alloc ?_ _ | with_reducible refine Blk.drewN ?_ _ | with_reducible refine Blk.drew ?_ | with_reducible refine Blk.other ?_ (by first | omega | (simp; done) | (simp; omega)) _)), by (repeat (first | with_reducible exact Blk.new _ _ _ | with_reducible assumption | with_reducible refine Blk.newAt (by first | rfl | (simp; done) | (simp; omega)) _ _ | with_reducible refine Blk.alloc ?_ _ | with_reducible refine Blk.drewN ?_ _ | with_reducible refine Blk.drew ?_ | with_reducible refine Blk.other ?_ (by first | omega | (simp; done) | (simp; omega)) _))⟩
  case round =>
    obtain ⟨j, hj, rfl, hbw, hra, hrb, hBa, hBb⟩ := hrel
    have qa := hBa.cell (i := 3) rfl
    have qb := hBb.cell (i := 3) rfl
    by_cases hlt : j < m
    · have hje : j < es.length := by rw [← HM.out]; exact hlt
      obtain ⟨⟨enc, num, txt⟩, he⟩ : ∃ e, e = es[j] := ⟨_, rfl⟩
      obtain ⟨ba, oa, hka, a0, a1, a2, a3, a4, a5⟩ := hra.kid_at j hje _ he
      obtain ⟨bb, ob, hkb, b0, b1, b2, b3, b4, b5⟩ := hrb.kid_at j hje _ he
      subst hka
      subst hkb
      simp only at a1 a2 b1 b2
      clear he
      go_wp2_with fail
      go_still_tail 10, (by kernel_rfl)
      change wpList _ _ _ _ _ wr.drew
      clear a0 a1 a2 a3 a4 a5 b0 b1 b2 b3 b4 b5
      go_wp2_with fail
      refine (same_leaf k num txt none none none none 0 0 0 0 0 0 _).mono ?_
      rintro e w2 ⟨rfl, hb2⟩
      have hsz := hbw.size
      have hlb := hBb.lt
      go_wp2_with fail
      go_roundw
      case rel => exact ⟨j + 1, by omega, by go_num, Below.trans (b := _) (by (repeat (first | with_reducible exact Below.refl _ _ | with_reducible assumption | with_reducible refine below_drewN ?_ _ | with_reducible refine Below.drew ?_ | with_reducible refine below_row ?_ (by first | omega | (simp; done) | (simp; omega)) _ | with_reducible refine Below.alloc ?_ (by first | omega | (simp; done) | (simp; omega)) _ | with_reducible refine Below.setCell ?_ (by first | omega | (simp; done) | (simp; omega)) _))) (hb2.mono (by (first | omega | (simp; done) | (simp; omega)))), Rd.below hb2 (Nat.le_refl _) hra.drew, Rd.below hb2 (Nat.le_refl _) hrb.drew, Blk.below (by (repeat (first | with_reducible exact Blk.new _ _ _ | with_reducible assumption | with_reducible refine Blk.newAt (by first | rfl | (simp; done) | (simp; omega)) _ _ | with_reducible refine Blk.alloc ?_ _ | with_reducible refine Blk.drewN ?_ _ | with_reducible refine Blk.drew ?_ | with_reducible refine Blk.other ?_ (by first | omega | (simp; done) | (simp; omega)) _))) hb2 (by (first | omega | (simp; done) | (simp; omega))), Blk.below (by (repeat (first | with_reducible exact Blk.new _ _ _ | with_reducible assumption | with_reducible refine Blk.newAt (by first | rfl | (simp; done) | (simp; omega)) _ _ | with_reducible refine Blk.alloc ?_ _ | with_reducible refine Blk.drewN ?_ _ | with_reducible refine Blk.drew ?_ | with_reducible refine Blk.other ?_ (by first | omega | (simp; done) | (simp; omega)) _))) hb2 (by (first | omega | (simp; done) | (simp; omega)))⟩
      case measure => simp [intOf]; omega
    · obtain rfl : j = m := by omega
      have qa5 := hBa.cell (i := 5) rfl
      go_wp2_with fail
      go_quiet (fail)
      go_wp2_with fail
      go_ret
      refine ⟨rfl, ?_⟩
      (repeat (first | with_reducible exact Below.refl _ _ | with_reducible assumption | with_reducible refine below_drewN ?_ _ | with_reducible refine Below.drew ?_ | with_reducible refine below_row ?_ (by first | omega | (simp; done) | (simp; omega)) _ | with_reducible refine Below.alloc ?_ (by first | omega | (simp; done) | (simp; omega)) _ | with_reducible refine Below.setCell ?_ (by first | omega | (simp; done) | (simp; omega)) _))

set_option maxRecDepth 100000 in
set_option maxHeartbeats 4000000 in
/-- laws.wrote at an array: what the reader reads is what is wanted. -/
theorem wrote_arr (k : Int) (es : Els) (hcnt : es.length ≤ 1048576) (a : Option Addr) (n c : Nat) (kof : Int) (kb : Option Addr) (kc' : Nat) (a2 : Option Addr) (c2 : Nat) (w0 : World)
    (ht : ∀ w, Below w0.heap.size w0 w → Calls Tryd.prog 29 #[.slice a n c, .int .i64 8] w (ArrRes k es kof nilS a2 0 c2 w)) (w : World) (hx : Below w0.heap.size w0 w) (hk : Rd w kb (kidsV k es)) :
    Calls Tryd.prog 12 #[.slice a n c, .bool true, av 23 0 ⟨#[]⟩ (.slice kb es.length kc') 0 nilS] w fun e w' => e = .returned (.bool true) ∧ Below w.heap.size w w' := by
  have HT := Lib.hid ht
  have HX := Lib.hid hx
  clear ht hx
  have hxW : ∀ W, Below w.heap.size w W → Below w0.heap.size w0 W := fun W h => HX.out.trans (h.mono HX.out.size)
  unfold av
  go_enter Tryd.func12, Tryd.ntmps12
  go_wp2_with fail
  refine (HT.out _ (hxW _ (by (repeat (first | with_reducible exact Below.refl _ _ | with_reducible assumption | with_reducible refine below_drewN ?_ _ | with_reducible refine Below.drew ?_ | with_reducible refine below_row ?_ (by first | omega | (simp; done) | (simp; omega)) _ | with_reducible refine Below.alloc ?_ (by first | omega | (simp; done) | (simp; omega)) _ | with_reducible refine Below.setCell ?_ (by first | omega | (simp; done) | (simp; omega)) _))))).mono ?_
  rintro e w1 ⟨ka, kc, rfl, hrd, hge, hb1⟩
  unfold got av
  have hs1 : w.heap.size + 1 ≤ w1.heap.size := by have := hb1.size; simp at this; omega
  have hB5 : Blk w1 w.heap.size 29 #[.int .i64 23, .int .u64 0, .string ⟨#[]⟩, .slice kb es.length kc', .int .i64 0, nilS] := Blk.below (by (repeat (first | with_reducible exact Blk.new _ _ _ | with_reducible assumption | with_reducible refine Blk.newAt (by first | rfl | (simp; done) | (simp; omega)) _ _ | with_reducible refine Blk.alloc ?_ _ | with_reducible refine Blk.drewN ?_ _ | with_reducible refine Blk.drew ?_ | with_reducible refine Blk.other ?_ (by first | omega | (simp; done) | (simp; omega)) _))) hb1 (by (first | omega | (simp; done) | (simp; omega)))
  have hk1 : Rd w1 kb (kidsV k es) := Rd.below hb1 (Nat.le_refl _) (hk.alloc _)
  have hc0 := fun o => (hB5.alloc o).cell (i := 0) rfl
  have hc1 := fun o => (hB5.alloc o).cell (i := 1) rfl
  have hc2 := fun o => (hB5.alloc o).cell (i := 2) rfl
  have hc3 := fun o => (hB5.alloc o).cell (i := 3) rfl
  have hc4 := fun o => (hB5.alloc o).cell (i := 4) rfl
  have hc5 := fun o => (hB5.alloc o).cell (i := 5) rfl
  have hbw : Below w.heap.size w w1 := Below.trans (b := _) (by (repeat (first | with_reducible exact Below.refl _ _ | with_reducible assumption | with_reducible refine below_drewN ?_ _ | with_reducible refine Below.drew ?_ | with_reducible refine below_row ?_ (by first | omega | (simp; done) | (simp; omega)) _ | with_reducible refine Below.alloc ?_ (by first | omega | (simp; done) | (simp; omega)) _ | with_reducible refine Below.setCell ?_ (by first | omega | (simp; done) | (simp; omega)) _))) (hb1.mono (by (first | omega | (simp; done) | (simp; omega))))
  have HG := Lib.hid hge
  clear hge
  go_wp2_with fail
  refine (same_arr k es hcnt _ _ _ _ _ _ _ (hk1.alloc _) (hrd.alloc _)).mono ?_
  rintro e w2 ⟨rfl, hb2⟩
  go_wp2_with fail
  go_ret
  refine ⟨rfl, ?_⟩
  exact (hbw.alloc hbw.size _).trans (hb2.mono (by (first | omega | (simp; done) | (simp; omega))))

/-- These bytes are one array. -/
def WholeA (l : List Int) (k : Int) (es : Els) : Prop :=
  ∀ (w0 : World) (a : Option Addr) (n c : Nat), Vw w0 a n c l → ∃ a2 c2 kof, ∀ w, Below w0.heap.size w0 w → Calls Tryd.prog 29 #[.slice a n c, .int .i64 8] w (ArrRes k es kof nilS a2 0 c2 w)

theorem whole_arr (c : Int) (sz : Nat) (hk : Kind c 23 sz) (h0 : c ≠ 0) (hs1 : 1 ≤ sz) (hs8 : sz ≤ 4) (h45 : c ≠ 69) (z k s : Int) (hz : z ≠ 0) (hkz : Kind z k s) (es : Els) (hes : ∀ e ∈ es, Elem z k e) (hcnt : es.length ≤ 1048576)
    (hu hd : List Int) (hul : hu.length = sz) (hhl : hd.length = sz) (hhu : beN hu = (sz + 1 + (flat es).length : Nat)) (hhd : beN hd = es.length) : WholeA (c :: (hu ++ (hd ++ z :: flat es))) k es := by
  intro w0 a n cap hv
  have hn := hv.len
  simp at hn
  obtain ⟨a1, hv1, h⟩ := takeValue_arr c h0 a n cap _ 8 (by omega) w0 hv
  have e1 : (hu ++ (hd ++ z :: flat es)).take sz = hu := List.take_left' hul
  have e2 : (hu ++ (hd ++ z :: flat es)).drop sz = hd ++ z :: flat es := List.drop_left' hul
  obtain ⟨a2, hv2, ht⟩ := take_arr c sz hk (by omega) h45 a1 (n - 1) (cap - 1) _ 8 w0 hv1 (by omega) (sz + 1 + (flat es).length) (by rw [e1, hhu])
  rw [e2] at hv2
  rcases Nat.eq_zero_or_pos es.length with he | he
  · obtain rfl : es = [] := List.eq_nil_of_length_eq_zero he
    simp only [flat, List.flatMap_nil, List.length_nil] at hv2 ht hhd hn
    obtain ⟨a3, hv3, hw⟩ := within_arr0 k z s hz hkz sz hs1 (by omega) hd hhl hhd 8 (by omega) (by omega) w0 a2 _ _ [] hv2 (sz + 1) rfl
    have hw' := hw none 0 0
    rw [show n - 1 - sz - (sz + 1) = 0 by omega] at hw'
    exact ⟨a3, _, k, h k [] k a3 0 _ (ht k [] k none 0 0 a3 0 _ hw')⟩
  · obtain ⟨a3, hv3, hw⟩ := within_arr k z hz sz hs1 (by omega) es hes he hcnt hd hhl hhd 8 (by omega) (by omega) w0 a2 _ _ [] (by rw [List.append_nil]; exact hv2) (sz + 1 + (flat es).length) rfl
    have hw' := hw none 0 0
    rw [show n - 1 - sz - (sz + 1 + (flat es).length) = 0 by omega] at hw'
    exact ⟨a3, _, 0, h k es 0 a3 0 _ (ht k es 0 none 0 0 a3 0 _ hw')⟩

theorem wrote_wholeA (l : List Int) (k : Int) (es : Els) (hcnt : es.length ≤ 1048576) (hw : WholeA l k es) (a : Option Addr) (n c : Nat) (kb : Option Addr) (kc' : Nat) (w : World) (hv : Vw w a n c l) (hk : Rd w kb (kidsV k es)) :
    Calls Tryd.prog 12 #[.slice a n c, .bool true, av 23 0 ⟨#[]⟩ (.slice kb es.length kc') 0 nilS] w fun e w' => e = .returned (.bool true) ∧ Below w.heap.size w w' := by
  obtain ⟨a2, c2, kof, ht⟩ := hw w a n c hv
  exact wrote_arr k es hcnt a n c kof kb kc' a2 c2 w ht w (Below.refl _ _) hk
end Go.Proofs.YtkbfppjniaejnaaDoor
