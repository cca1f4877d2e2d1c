/- spec.Forms.putInt. -/
import Derived.Test.YtdncfolehkhjhaaDoorBRows
namespace Go.Proofs.YtdncfolehkhjhaaDoor
open Go.RowKit
set_option linter.unusedVariables false
set_option linter.unusedSimpArgs false

abbrev ikL : List (Nat × Nat) := [(0, 1), (1, 2), (2, 4), (3, 8)]
abbrev formsI : List (Int × Nat) := [(204, 1), (205, 2), (206, 4), (207, 8)]
/-- The forms of an integer below 0. -/
def NegL (u : Int) (l : List Int) : Prop := (18446744073709551584 ≤ u ∧ l = [u % 256]) ∨ ∃ i k : Nat, (i, k) ∈ ikL ∧ 18446744073709551616 - 2 ^ (8 * k - 1) ≤ u ∧ l = (208 + (i : Int)) :: beL u k
/-- The forms of another integer. -/
def PosL (u : Int) (l : List Int) : Prop := (u < 128 ∧ l = [u]) ∨ (∃ f, f ∈ may u formsI ∧ l = f.1 :: beL u f.2) ∨ ∃ i k : Nat, (i, k) ∈ ikL ∧ u < 2 ^ (8 * k - 1) ∧ l = (208 + (i : Int)) :: beL u k

set_option maxRecDepth 100000 in
set_option maxHeartbeats 4000000 in
theorem putInt_neg (u : Int) (h0 : 9223372036854775808 ≤ u) (h1 : u < 18446744073709551616) (F : Nat) (b : Bool) (w : World) (hB : FB w F b) :
    Calls Tryd.prog 29 #[.pointer (some ⟨F, 0, none⟩), .int .u64 u, .bool true] w (PutRes F b (NegL u) w) := by
  have hw : IntKind.i64.wrap u = u - 18446744073709551616 := by simp [IntKind.wrap, IntKind.signed, IntKind.bits]; omega
  have hFl := hB.lt
  have hneg : u - 18446744073709551616 < 0 := by omega
  by_cases h32 : -32 ≤ u - 18446744073709551616
  · have R0 := Rows.nil (((w.alloc (.cells #[.int .u8 ((u - 18446744073709551616) % 256)] 5)).alloc (.cells #[.slice (some ⟨w.heap.size, 0, none⟩) 1 1] 35))) w.heap.size (NegL u)
    go_enter Tryd.func29, Tryd.ntmps29
    go_wp2_with (at_builtin; refine rows_app (by rfl) _ _ (by rfl) w.heap.size none 0 0 (NegL u) (by rfl) R0 (w.heap.size + 1) (some ⟨w.heap.size, 0, none⟩) 1 1 [(u - 18446744073709551616) % 256] (by rfl) (by (repeat (first | with_reducible exact Blk.new _ _ _ | with_reducible assumption | with_reducible refine Blk.newAt (by first | rfl | (simp; done) | (simp; omega)) _ _ | with_reducible refine Blk.alloc ?_ _ | with_reducible refine Blk.drewN ?_ _ | with_reducible refine Blk.drew ?_ | with_reducible refine Blk.other ?_ (by first | omega | (simp; done) | (simp; omega)) _))) ((Own.lit1 _ _ (by omega) (by omega) rfl (Nat.le_refl _)).alloc _) (Or.inl ⟨by omega, by congr 1; omega⟩) (by omega) (by (first | omega | (simp; done) | (simp; omega))) ?_; intro a5 c5 w5 hR5 hb5 hk5 ho5)
    have hbq : Below w.heap.size w w5 := Below.trans (b := _) (by (repeat (first | with_reducible exact Below.refl _ _ | with_reducible assumption | with_reducible refine below_drewN ?_ _ | with_reducible refine Below.drew ?_ | with_reducible refine below_row ?_ (by first | omega | (simp; done) | (simp; omega)) _ | with_reducible refine Below.alloc ?_ (by first | omega | (simp; done) | (simp; omega)) _ | with_reducible refine Below.setCell ?_ (by first | omega | (simp; done) | (simp; omega)) _))) hb5
    have hsq := hbq.size
    clear hk5 ho5
    go_loopw [8, 33] (fun v i wr => ∃ (j : Nat) (a : Option Addr) (c n : Nat), j ≤ 4 ∧ i = .int .i64 j ∧ v = .slice a n c ∧ n ≤ 10 + j ∧ (j = 4 → 0 < n) ∧ Rows wr w.heap.size a n c (NegL u) ∧ Blk wr w5.heap.size 3 #[.int .i64 1, .int .i64 2, .int .i64 4, .int .i64 8] ∧ Below w.heap.size w wr) (fun _ i _ => 4 - (intOf i).toNat)
    case atStart => exact ⟨0, a5, c5, 1, by omega, rfl, rfl, by omega, by omega, hR5.keep (by (repeat (first | with_reducible exact Below.refl _ _ | with_reducible assumption | with_reducible refine below_drewN ?_ _ | with_reducible refine Below.drew ?_ | with_reducible refine below_row ?_ (by first | omega | (simp; done) | (simp; omega)) _ | with_reducible refine Below.alloc ?_ (by first | omega | (simp; done) | (simp; omega)) _ | with_reducible refine Below.setCell ?_ (by first | omega | (simp; done) | (simp; omega)) _))), Blk.new _ _ _, Below.trans (b := _) hbq (by (repeat (first | with_reducible exact Below.refl _ _ | with_reducible assumption | with_reducible refine below_drewN ?_ _ | with_reducible refine Below.drew ?_ | with_reducible refine below_row ?_ (by first | omega | (simp; done) | (simp; omega)) _ | with_reducible refine Below.alloc ?_ (by first | omega | (simp; done) | (simp; omega)) _ | with_reducible refine Below.setCell ?_ (by first | omega | (simp; done) | (simp; omega)) _)))⟩
    case round =>
      obtain ⟨j, a, c, n, hj, rfl, rfl, hn, hn4, hR, hL, hbw⟩ := hrel
      have hsz := hbw.size
      have hLl := hL.lt
      obtain rfl | rfl | rfl | rfl | rfl : j = 0 ∨ j = 1 ∨ j = 2 ∨ j = 3 ∨ j = 4 := by omega
      · have q := hL.cell (i := 0) rfl
        clear hn4
        by_cases hc : -128 ≤ u - 18446744073709551616
        · first | exact absurd hc (by omega) | skip
          all_goals
           have hlit := Own.lit1 wr 208 (by omega) (by omega) rfl hsz
           go_wp2_with fail
           refine (big_any u (by omega) h1 1 (by omega) _).mono ?_
           rintro e w6 ⟨a6, c6, rfl, ho6, hb6⟩
           have hb6k : Below wr.heap.size wr w6 := Below.trans (b := _) (by (repeat (first | with_reducible exact Below.refl _ _ | with_reducible assumption | with_reducible refine below_drewN ?_ _ | with_reducible refine Below.drew ?_ | with_reducible refine below_row ?_ (by first | omega | (simp; done) | (simp; omega)) _ | with_reducible refine Below.alloc ?_ (by first | omega | (simp; done) | (simp; omega)) _ | with_reducible refine Below.setCell ?_ (by first | omega | (simp; done) | (simp; omega)) _))) (hb6.mono (by (first | omega | (simp; done) | (simp; omega))))
           have hs6 := hb6k.size
           have hlit6 := hlit.below hb6 (Nat.le_refl _)
           have ho6v := ho6.vw
           clear ho6
           go_wp2_with (first | (at_builtin; refine app8 (by rfl) _ _ (by rfl) w.heap.size _ 1 1 [208] (by rfl) hlit6 _ 1 c6 (beL u 1) (by rfl) ho6v (by omega) (by omega) ?_; intro a7 c7 w7 ho7 hg7; have hb7 := below_of_grown (B := wr.heap.size) hg7 hs6 (fun x hx => by injection hx with hx; subst hx; (first | omega | (simp; done) | (simp; omega))); have hb67 := hb6k.trans hb7; have hs7 := hb67.size; have hR7 := hR.keep hb67) | (at_builtin; refine rows_app (by rfl) _ _ (by rfl) w.heap.size a n c (NegL u) (by rfl) (hR7.keep (by (repeat (first | with_reducible exact Below.refl _ _ | with_reducible assumption | with_reducible refine below_drewN ?_ _ | with_reducible refine Below.drew ?_ | with_reducible refine below_row ?_ (by first | omega | (simp; done) | (simp; omega)) _ | with_reducible refine Below.alloc ?_ (by first | omega | (simp; done) | (simp; omega)) _ | with_reducible refine Below.setCell ?_ (by first | omega | (simp; done) | (simp; omega)) _)))) w7.heap.size a7 _ c7 _ (by rfl) (by (repeat (first | with_reducible exact Blk.new _ _ _ | with_reducible assumption | with_reducible refine Blk.newAt (by first | rfl | (simp; done) | (simp; omega)) _ _ | with_reducible refine Blk.alloc ?_ _ | with_reducible refine Blk.drewN ?_ _ | with_reducible refine Blk.drew ?_ | with_reducible refine Blk.other ?_ (by first | omega | (simp; done) | (simp; omega)) _))) (ho7.alloc _) (Or.inr ⟨0, 1, by simp, by omega, by rfl⟩) (by omega) (by (first | omega | (simp; done) | (simp; omega))) ?_; intro a8 c8 w8 hR8 hb8 hk8 ho8))
           have hb68 : Below w.heap.size w w8 := Below.trans (b := _) (hbw.trans (Below.trans (b := _) (hb67.mono hsz) (by (repeat (first | with_reducible exact Below.refl _ _ | with_reducible assumption | with_reducible refine below_drewN ?_ _ | with_reducible refine Below.drew ?_ | with_reducible refine below_row ?_ (by first | omega | (simp; done) | (simp; omega)) _ | with_reducible refine Below.alloc ?_ (by first | omega | (simp; done) | (simp; omega)) _ | with_reducible refine Below.setCell ?_ (by first | omega | (simp; done) | (simp; omega)) _))))) hb8
           go_roundw
           case rel => exact ⟨1, a8, c8, n + 1, by omega, by go_num, rfl, by omega, by omega, hR8, hk8 _ _ _ (by decide) ((Blk.below hL hb67 hLl).alloc _), hb68⟩
           case measure => simp [intOf] <;> omega
        · first | exact absurd hc (by omega) | skip
          all_goals
           go_wp2_with fail
           go_roundw
           case rel => exact ⟨1, a, c, n, by omega, by go_num, rfl, by omega, by omega, hR, hL, hbw⟩
           case measure => simp [intOf] <;> omega
      · have q := hL.cell (i := 1) rfl
        clear hn4
        by_cases hc : -32768 ≤ u - 18446744073709551616
        · first | exact absurd hc (by omega) | skip
          all_goals
           have hlit := Own.lit1 wr 209 (by omega) (by omega) rfl hsz
           go_wp2_with fail
           refine (big_any u (by omega) h1 2 (by omega) _).mono ?_
           rintro e w6 ⟨a6, c6, rfl, ho6, hb6⟩
           have hb6k : Below wr.heap.size wr w6 := Below.trans (b := _) (by (repeat (first | with_reducible exact Below.refl _ _ | with_reducible assumption | with_reducible refine below_drewN ?_ _ | with_reducible refine Below.drew ?_ | with_reducible refine below_row ?_ (by first | omega | (simp; done) | (simp; omega)) _ | with_reducible refine Below.alloc ?_ (by first | omega | (simp; done) | (simp; omega)) _ | with_reducible refine Below.setCell ?_ (by first | omega | (simp; done) | (simp; omega)) _))) (hb6.mono (by (first | omega | (simp; done) | (simp; omega))))
           have hs6 := hb6k.size
           have hlit6 := hlit.below hb6 (Nat.le_refl _)
           have ho6v := ho6.vw
           clear ho6
           go_wp2_with (first | (at_builtin; refine app8 (by rfl) _ _ (by rfl) w.heap.size _ 1 1 [209] (by rfl) hlit6 _ 2 c6 (beL u 2) (by rfl) ho6v (by omega) (by omega) ?_; intro a7 c7 w7 ho7 hg7; have hb7 := below_of_grown (B := wr.heap.size) hg7 hs6 (fun x hx => by injection hx with hx; subst hx; (first | omega | (simp; done) | (simp; omega))); have hb67 := hb6k.trans hb7; have hs7 := hb67.size; have hR7 := hR.keep hb67) | (at_builtin; refine rows_app (by rfl) _ _ (by rfl) w.heap.size a n c (NegL u) (by rfl) (hR7.keep (by (repeat (first | with_reducible exact Below.refl _ _ | with_reducible assumption | with_reducible refine below_drewN ?_ _ | with_reducible refine Below.drew ?_ | with_reducible refine below_row ?_ (by first | omega | (simp; done) | (simp; omega)) _ | with_reducible refine Below.alloc ?_ (by first | omega | (simp; done) | (simp; omega)) _ | with_reducible refine Below.setCell ?_ (by first | omega | (simp; done) | (simp; omega)) _)))) w7.heap.size a7 _ c7 _ (by rfl) (by (repeat (first | with_reducible exact Blk.new _ _ _ | with_reducible assumption | with_reducible refine Blk.newAt (by first | rfl | (simp; done) | (simp; omega)) _ _ | with_reducible refine Blk.alloc ?_ _ | with_reducible refine Blk.drewN ?_ _ | with_reducible refine Blk.drew ?_ | with_reducible refine Blk.other ?_ (by first | omega | (simp; done) | (simp; omega)) _))) (ho7.alloc _) (Or.inr ⟨1, 2, by simp, by omega, by rfl⟩) (by omega) (by (first | omega | (simp; done) | (simp; omega))) ?_; intro a8 c8 w8 hR8 hb8 hk8 ho8))
           have hb68 : Below w.heap.size w w8 := Below.trans (b := _) (hbw.trans (Below.trans (b := _) (hb67.mono hsz) (by (repeat (first | with_reducible exact Below.refl _ _ | with_reducible assumption | with_reducible refine below_drewN ?_ _ | with_reducible refine Below.drew ?_ | with_reducible refine below_row ?_ (by first | omega | (simp; done) | (simp; omega)) _ | with_reducible refine Below.alloc ?_ (by first | omega | (simp; done) | (simp; omega)) _ | with_reducible refine Below.setCell ?_ (by first | omega | (simp; done) | (simp; omega)) _))))) hb8
           go_roundw
           case rel => exact ⟨2, a8, c8, n + 1, by omega, by go_num, rfl, by omega, by omega, hR8, hk8 _ _ _ (by decide) ((Blk.below hL hb67 hLl).alloc _), hb68⟩
           case measure => simp [intOf] <;> omega
        · first | exact absurd hc (by omega) | skip
          all_goals
           go_wp2_with fail
           go_roundw
           case rel => exact ⟨2, a, c, n, by omega, by go_num, rfl, by omega, by omega, hR, hL, hbw⟩
           case measure => simp [intOf] <;> omega
      · have q := hL.cell (i := 2) rfl
        clear hn4
        by_cases hc : -2147483648 ≤ u - 18446744073709551616
        · first | exact absurd hc (by omega) | skip
          all_goals
           have hlit := Own.lit1 wr 210 (by omega) (by omega) rfl hsz
           go_wp2_with fail
           refine (big_any u (by omega) h1 4 (by omega) _).mono ?_
           rintro e w6 ⟨a6, c6, rfl, ho6, hb6⟩
           have hb6k : Below wr.heap.size wr w6 := Below.trans (b := _) (by (repeat (first | with_reducible exact Below.refl _ _ | with_reducible assumption | with_reducible refine below_drewN ?_ _ | with_reducible refine Below.drew ?_ | with_reducible refine below_row ?_ (by first | omega | (simp; done) | (simp; omega)) _ | with_reducible refine Below.alloc ?_ (by first | omega | (simp; done) | (simp; omega)) _ | with_reducible refine Below.setCell ?_ (by first | omega | (simp; done) | (simp; omega)) _))) (hb6.mono (by (first | omega | (simp; done) | (simp; omega))))
           have hs6 := hb6k.size
           have hlit6 := hlit.below hb6 (Nat.le_refl _)
           have ho6v := ho6.vw
           clear ho6
           go_wp2_with (first | (at_builtin; refine app8 (by rfl) _ _ (by rfl) w.heap.size _ 1 1 [210] (by rfl) hlit6 _ 4 c6 (beL u 4) (by rfl) ho6v (by omega) (by omega) ?_; intro a7 c7 w7 ho7 hg7; have hb7 := below_of_grown (B := wr.heap.size) hg7 hs6 (fun x hx => by injection hx with hx; subst hx; (first | omega | (simp; done) | (simp; omega))); have hb67 := hb6k.trans hb7; have hs7 := hb67.size; have hR7 := hR.keep hb67) | (at_builtin; refine rows_app (by rfl) _ _ (by rfl) w.heap.size a n c (NegL u) (by rfl) (hR7.keep (by (repeat (first | with_reducible exact Below.refl _ _ | with_reducible assumption | with_reducible refine below_drewN ?_ _ | with_reducible refine Below.drew ?_ | with_reducible refine below_row ?_ (by first | omega | (simp; done) | (simp; omega)) _ | with_reducible refine Below.alloc ?_ (by first | omega | (simp; done) | (simp; omega)) _ | with_reducible refine Below.setCell ?_ (by first | omega | (simp; done) | (simp; omega)) _)))) w7.heap.size a7 _ c7 _ (by rfl) (by (repeat (first | with_reducible exact Blk.new _ _ _ | with_reducible assumption | with_reducible refine Blk.newAt (by first | rfl | (simp; done) | (simp; omega)) _ _ | with_reducible refine Blk.alloc ?_ _ | with_reducible refine Blk.drewN ?_ _ | with_reducible refine Blk.drew ?_ | with_reducible refine Blk.other ?_ (by first | omega | (simp; done) | (simp; omega)) _))) (ho7.alloc _) (Or.inr ⟨2, 4, by simp, by omega, by rfl⟩) (by omega) (by (first | omega | (simp; done) | (simp; omega))) ?_; intro a8 c8 w8 hR8 hb8 hk8 ho8))
           have hb68 : Below w.heap.size w w8 := Below.trans (b := _) (hbw.trans (Below.trans (b := _) (hb67.mono hsz) (by (repeat (first | with_reducible exact Below.refl _ _ | with_reducible assumption | with_reducible refine below_drewN ?_ _ | with_reducible refine Below.drew ?_ | with_reducible refine below_row ?_ (by first | omega | (simp; done) | (simp; omega)) _ | with_reducible refine Below.alloc ?_ (by first | omega | (simp; done) | (simp; omega)) _ | with_reducible refine Below.setCell ?_ (by first | omega | (simp; done) | (simp; omega)) _))))) hb8
           go_roundw
           case rel => exact ⟨3, a8, c8, n + 1, by omega, by go_num, rfl, by omega, by omega, hR8, hk8 _ _ _ (by decide) ((Blk.below hL hb67 hLl).alloc _), hb68⟩
           case measure => simp [intOf] <;> omega
        · first | exact absurd hc (by omega) | skip
          all_goals
           go_wp2_with fail
           go_roundw
           case rel => exact ⟨3, a, c, n, by omega, by go_num, rfl, by omega, by omega, hR, hL, hbw⟩
           case measure => simp [intOf] <;> omega
      · have q := hL.cell (i := 3) rfl
        clear hn4
        by_cases hc : -9223372036854775808 ≤ u - 18446744073709551616
        · first | exact absurd hc (by omega) | skip
          all_goals
           have hlit := Own.lit1 wr 211 (by omega) (by omega) rfl hsz
           go_wp2_with fail
           refine (big_any u (by omega) h1 8 (by omega) _).mono ?_
           rintro e w6 ⟨a6, c6, rfl, ho6, hb6⟩
           have hb6k : Below wr.heap.size wr w6 := Below.trans (b := _) (by (repeat (first | with_reducible exact Below.refl _ _ | with_reducible assumption | with_reducible refine below_drewN ?_ _ | with_reducible refine Below.drew ?_ | with_reducible refine below_row ?_ (by first | omega | (simp; done) | (simp; omega)) _ | with_reducible refine Below.alloc ?_ (by first | omega | (simp; done) | (simp; omega)) _ | with_reducible refine Below.setCell ?_ (by first | omega | (simp; done) | (simp; omega)) _))) (hb6.mono (by (first | omega | (simp; done) | (simp; omega))))
           have hs6 := hb6k.size
           have hlit6 := hlit.below hb6 (Nat.le_refl _)
           have ho6v := ho6.vw
           clear ho6
           go_wp2_with (first | (at_builtin; refine app8 (by rfl) _ _ (by rfl) w.heap.size _ 1 1 [211] (by rfl) hlit6 _ 8 c6 (beL u 8) (by rfl) ho6v (by omega) (by omega) ?_; intro a7 c7 w7 ho7 hg7; have hb7 := below_of_grown (B := wr.heap.size) hg7 hs6 (fun x hx => by injection hx with hx; subst hx; (first | omega | (simp; done) | (simp; omega))); have hb67 := hb6k.trans hb7; have hs7 := hb67.size; have hR7 := hR.keep hb67) | (at_builtin; refine rows_app (by rfl) _ _ (by rfl) w.heap.size a n c (NegL u) (by rfl) (hR7.keep (by (repeat (first | with_reducible exact Below.refl _ _ | with_reducible assumption | with_reducible refine below_drewN ?_ _ | with_reducible refine Below.drew ?_ | with_reducible refine below_row ?_ (by first | omega | (simp; done) | (simp; omega)) _ | with_reducible refine Below.alloc ?_ (by first | omega | (simp; done) | (simp; omega)) _ | with_reducible refine Below.setCell ?_ (by first | omega | (simp; done) | (simp; omega)) _)))) w7.heap.size a7 _ c7 _ (by rfl) (by (repeat (first | with_reducible exact Blk.new _ _ _ | with_reducible assumption | with_reducible refine Blk.newAt (by first | rfl | (simp; done) | (simp; omega)) _ _ | with_reducible refine Blk.alloc ?_ _ | with_reducible refine Blk.drewN ?_ _ | with_reducible refine Blk.drew ?_ | with_reducible refine Blk.other ?_ (by first | omega | (simp; done) | (simp; omega)) _))) (ho7.alloc _) (Or.inr ⟨3, 8, by simp, by omega, by rfl⟩) (by omega) (by (first | omega | (simp; done) | (simp; omega))) ?_; intro a8 c8 w8 hR8 hb8 hk8 ho8))
           have hb68 : Below w.heap.size w w8 := Below.trans (b := _) (hbw.trans (Below.trans (b := _) (hb67.mono hsz) (by (repeat (first | with_reducible exact Below.refl _ _ | with_reducible assumption | with_reducible refine below_drewN ?_ _ | with_reducible refine Below.drew ?_ | with_reducible refine below_row ?_ (by first | omega | (simp; done) | (simp; omega)) _ | with_reducible refine Below.alloc ?_ (by first | omega | (simp; done) | (simp; omega)) _ | with_reducible refine Below.setCell ?_ (by first | omega | (simp; done) | (simp; omega)) _))))) hb8
           go_roundw
           case rel => exact ⟨4, a8, c8, n + 1, by omega, by go_num, rfl, by omega, by omega, hR8, hk8 _ _ _ (by decide) ((Blk.below hL hb67 hLl).alloc _), hb68⟩
           case measure => simp [intOf] <;> omega
        · exact absurd hc (by omega)
      · have hn0 := hn4 rfl
        go_wp2_with fail
        refine (pickF b (n : Int) (by omega) (by omega) F _ (hB.below hbw hFl)).mono ?_
        rintro e w2 ⟨k, rfl, hk0, hk1, hk2, hB2, hs2, v, rfl⟩
        obtain ⟨q, rfl⟩ : ∃ q : Nat, k = (q : Int) := ⟨k.toNat, by omega⟩
        have hq : q < n := by have := hk2 (by omega); omega
        clear hk2 hk1
        have hRs := hR.set (i := 0) hFl v
        obtain ⟨bb, off, a9, n9, c9, l9, rfl, q0, ho9, hL9⟩ := hRs.at_ q hq
        go_wp2_with fail
        go_ret
        exact ⟨a9, n9, c9, l9, rfl, ho9, hL9, hB2, (Kp.of_below hbw).trans (Kp.set F _ wr 0 v)⟩
  · go_enter Tryd.func29, Tryd.ntmps29
    go_wp2_with fail
    go_loopw [8, 33] (fun v i wr => ∃ (j : Nat) (a : Option Addr) (c n : Nat), j ≤ 4 ∧ i = .int .i64 j ∧ v = .slice a n c ∧ n ≤ 10 + j ∧ (j = 4 → 0 < n) ∧ Rows wr w.heap.size a n c (NegL u) ∧ Blk wr w.heap.size 3 #[.int .i64 1, .int .i64 2, .int .i64 4, .int .i64 8] ∧ Below w.heap.size w wr) (fun _ i _ => 4 - (intOf i).toNat)
    case atStart => exact ⟨0, none, 0, 0, by omega, rfl, rfl, by omega, by omega, Rows.nil _ _ _, Blk.new _ _ _, by (repeat (first | with_reducible exact Below.refl _ _ | with_reducible assumption | with_reducible refine below_drewN ?_ _ | with_reducible refine Below.drew ?_ | with_reducible refine below_row ?_ (by first | omega | (simp; done) | (simp; omega)) _ | with_reducible refine Below.alloc ?_ (by first | omega | (simp; done) | (simp; omega)) _ | with_reducible refine Below.setCell ?_ (by first | omega | (simp; done) | (simp; omega)) _))⟩
    case round =>
      obtain ⟨j, a, c, n, hj, rfl, rfl, hn, hn4, hR, hL, hbw⟩ := hrel
      have hsz := hbw.size
      have hLl := hL.lt
      obtain rfl | rfl | rfl | rfl | rfl : j = 0 ∨ j = 1 ∨ j = 2 ∨ j = 3 ∨ j = 4 := by omega
      · have q := hL.cell (i := 0) rfl
        clear hn4
        by_cases hc : -128 ≤ u - 18446744073709551616
        · first | exact absurd hc (by omega) | skip
          all_goals
           have hlit := Own.lit1 wr 208 (by omega) (by omega) rfl hsz
           go_wp2_with fail
           refine (big_any u (by omega) h1 1 (by omega) _).mono ?_
           rintro e w6 ⟨a6, c6, rfl, ho6, hb6⟩
           have hb6k : Below wr.heap.size wr w6 := Below.trans (b := _) (by (repeat (first | with_reducible exact Below.refl _ _ | with_reducible assumption | with_reducible refine below_drewN ?_ _ | with_reducible refine Below.drew ?_ | with_reducible refine below_row ?_ (by first | omega | (simp; done) | (simp; omega)) _ | with_reducible refine Below.alloc ?_ (by first | omega | (simp; done) | (simp; omega)) _ | with_reducible refine Below.setCell ?_ (by first | omega | (simp; done) | (simp; omega)) _))) (hb6.mono (by (first | omega | (simp; done) | (simp; omega))))
           have hs6 := hb6k.size
           have hlit6 := hlit.below hb6 (Nat.le_refl _)
           have ho6v := ho6.vw
           clear ho6
           go_wp2_with (first | (at_builtin; refine app8 (by rfl) _ _ (by rfl) w.heap.size _ 1 1 [208] (by rfl) hlit6 _ 1 c6 (beL u 1) (by rfl) ho6v (by omega) (by omega) ?_; intro a7 c7 w7 ho7 hg7; have hb7 := below_of_grown (B := wr.heap.size) hg7 hs6 (fun x hx => by injection hx with hx; subst hx; (first | omega | (simp; done) | (simp; omega))); have hb67 := hb6k.trans hb7; have hs7 := hb67.size; have hR7 := hR.keep hb67) | (at_builtin; refine rows_app (by rfl) _ _ (by rfl) w.heap.size a n c (NegL u) (by rfl) (hR7.keep (by (repeat (first | with_reducible exact Below.refl _ _ | with_reducible assumption | with_reducible refine below_drewN ?_ _ | with_reducible refine Below.drew ?_ | with_reducible refine below_row ?_ (by first | omega | (simp; done) | (simp; omega)) _ | with_reducible refine Below.alloc ?_ (by first | omega | (simp; done) | (simp; omega)) _ | with_reducible refine Below.setCell ?_ (by first | omega | (simp; done) | (simp; omega)) _)))) w7.heap.size a7 _ c7 _ (by rfl) (by (repeat (first | with_reducible exact Blk.new _ _ _ | with_reducible assumption | with_reducible refine Blk.newAt (by first | rfl | (simp; done) | (simp; omega)) _ _ | with_reducible refine Blk.alloc ?_ _ | with_reducible refine Blk.drewN ?_ _ | with_reducible refine Blk.drew ?_ | with_reducible refine Blk.other ?_ (by first | omega | (simp; done) | (simp; omega)) _))) (ho7.alloc _) (Or.inr ⟨0, 1, by simp, by omega, by rfl⟩) (by omega) (by (first | omega | (simp; done) | (simp; omega))) ?_; intro a8 c8 w8 hR8 hb8 hk8 ho8))
           have hb68 : Below w.heap.size w w8 := Below.trans (b := _) (hbw.trans (Below.trans (b := _) (hb67.mono hsz) (by (repeat (first | with_reducible exact Below.refl _ _ | with_reducible assumption | with_reducible refine below_drewN ?_ _ | with_reducible refine Below.drew ?_ | with_reducible refine below_row ?_ (by first | omega | (simp; done) | (simp; omega)) _ | with_reducible refine Below.alloc ?_ (by first | omega | (simp; done) | (simp; omega)) _ | with_reducible refine Below.setCell ?_ (by first | omega | (simp; done) | (simp; omega)) _))))) hb8
           go_roundw
           case rel => exact ⟨1, a8, c8, n + 1, by omega, by go_num, rfl, by omega, by omega, hR8, hk8 _ _ _ (by decide) ((Blk.below hL hb67 hLl).alloc _), hb68⟩
           case measure => simp [intOf] <;> omega
        · first | exact absurd hc (by omega) | skip
          all_goals
           go_wp2_with fail
           go_roundw
           case rel => exact ⟨1, a, c, n, by omega, by go_num, rfl, by omega, by omega, hR, hL, hbw⟩
           case measure => simp [intOf] <;> omega
      · have q := hL.cell (i := 1) rfl
        clear hn4
        by_cases hc : -32768 ≤ u - 18446744073709551616
        · first | exact absurd hc (by omega) | skip
          all_goals
           have hlit := Own.lit1 wr 209 (by omega) (by omega) rfl hsz
           go_wp2_with fail
           refine (big_any u (by omega) h1 2 (by omega) _).mono ?_
           rintro e w6 ⟨a6, c6, rfl, ho6, hb6⟩
           have hb6k : Below wr.heap.size wr w6 := Below.trans (b := _) (by (repeat (first | with_reducible exact Below.refl _ _ | with_reducible assumption | with_reducible refine below_drewN ?_ _ | with_reducible refine Below.drew ?_ | with_reducible refine below_row ?_ (by first | omega | (simp; done) | (simp; omega)) _ | with_reducible refine Below.alloc ?_ (by first | omega | (simp; done) | (simp; omega)) _ | with_reducible refine Below.setCell ?_ (by first | omega | (simp; done) | (simp; omega)) _))) (hb6.mono (by (first | omega | (simp; done) | (simp; omega))))
           have hs6 := hb6k.size
           have hlit6 := hlit.below hb6 (Nat.le_refl _)
           have ho6v := ho6.vw
           clear ho6
           go_wp2_with (first | (at_builtin; refine app8 (by rfl) _ _ (by rfl) w.heap.size _ 1 1 [209] (by rfl) hlit6 _ 2 c6 (beL u 2) (by rfl) ho6v (by omega) (by omega) ?_; intro a7 c7 w7 ho7 hg7; have hb7 := below_of_grown (B := wr.heap.size) hg7 hs6 (fun x hx => by injection hx with hx; subst hx; (first | omega | (simp; done) | (simp; omega))); have hb67 := hb6k.trans hb7; have hs7 := hb67.size; have hR7 := hR.keep hb67) | (at_builtin; refine rows_app (by rfl) _ _ (by rfl) w.heap.size a n c (NegL u) (by rfl) (hR7.keep (by (repeat (first | with_reducible exact Below.refl _ _ | with_reducible assumption | with_reducible refine below_drewN ?_ _ | with_reducible refine Below.drew ?_ | with_reducible refine below_row ?_ (by first | omega | (simp; done) | (simp; omega)) _ | with_reducible refine Below.alloc ?_ (by first | omega | (simp; done) | (simp; omega)) _ | with_reducible refine Below.setCell ?_ (by first | omega | (simp; done) | (simp; omega)) _)))) w7.heap.size a7 _ c7 _ (by rfl) (by (repeat (first | with_reducible exact Blk.new _ _ _ | with_reducible assumption | with_reducible refine Blk.newAt (by first | rfl | (simp; done) | (simp; omega)) _ _ | with_reducible refine Blk.alloc ?_ _ | with_reducible refine Blk.drewN ?_ _ | with_reducible refine Blk.drew ?_ | with_reducible refine Blk.other ?_ (by first | omega | (simp; done) | (simp; omega)) _))) (ho7.alloc _) (Or.inr ⟨1, 2, by simp, by omega, by rfl⟩) (by omega) (by (first | omega | (simp; done) | (simp; omega))) ?_; intro a8 c8 w8 hR8 hb8 hk8 ho8))
           have hb68 : Below w.heap.size w w8 := Below.trans (b := _) (hbw.trans (Below.trans (b := _) (hb67.mono hsz) (by (repeat (first | with_reducible exact Below.refl _ _ | with_reducible assumption | with_reducible refine below_drewN ?_ _ | with_reducible refine Below.drew ?_ | with_reducible refine below_row ?_ (by first | omega | (simp; done) | (simp; omega)) _ | with_reducible refine Below.alloc ?_ (by first | omega | (simp; done) | (simp; omega)) _ | with_reducible refine Below.setCell ?_ (by first | omega | (simp; done) | (simp; omega)) _))))) hb8
           go_roundw
           case rel => exact ⟨2, a8, c8, n + 1, by omega, by go_num, rfl, by omega, by omega, hR8, hk8 _ _ _ (by decide) ((Blk.below hL hb67 hLl).alloc _), hb68⟩
           case measure => simp [intOf] <;> omega
        · first | exact absurd hc (by omega) | skip
          all_goals
           go_wp2_with fail
           go_roundw
           case rel => exact ⟨2, a, c, n, by omega, by go_num, rfl, by omega, by omega, hR, hL, hbw⟩
           case measure => simp [intOf] <;> omega
      · have q := hL.cell (i := 2) rfl
        clear hn4
        by_cases hc : -2147483648 ≤ u - 18446744073709551616
        · first | exact absurd hc (by omega) | skip
          all_goals
           have hlit := Own.lit1 wr 210 (by omega) (by omega) rfl hsz
           go_wp2_with fail
           refine (big_any u (by omega) h1 4 (by omega) _).mono ?_
           rintro e w6 ⟨a6, c6, rfl, ho6, hb6⟩
           have hb6k : Below wr.heap.size wr w6 := Below.trans (b := _) (by (repeat (first | with_reducible exact Below.refl _ _ | with_reducible assumption | with_reducible refine below_drewN ?_ _ | with_reducible refine Below.drew ?_ | with_reducible refine below_row ?_ (by first | omega | (simp; done) | (simp; omega)) _ | with_reducible refine Below.alloc ?_ (by first | omega | (simp; done) | (simp; omega)) _ | with_reducible refine Below.setCell ?_ (by first | omega | (simp; done) | (simp; omega)) _))) (hb6.mono (by (first | omega | (simp; done) | (simp; omega))))
           have hs6 := hb6k.size
           have hlit6 := hlit.below hb6 (Nat.le_refl _)
           have ho6v := ho6.vw
           clear ho6
           go_wp2_with (first | (at_builtin; refine app8 (by rfl) _ _ (by rfl) w.heap.size _ 1 1 [210] (by rfl) hlit6 _ 4 c6 (beL u 4) (by rfl) ho6v (by omega) (by omega) ?_; intro a7 c7 w7 ho7 hg7; have hb7 := below_of_grown (B := wr.heap.size) hg7 hs6 (fun x hx => by injection hx with hx; subst hx; (first | omega | (simp; done) | (simp; omega))); have hb67 := hb6k.trans hb7; have hs7 := hb67.size; have hR7 := hR.keep hb67) | (at_builtin; refine rows_app (by rfl) _ _ (by rfl) w.heap.size a n c (NegL u) (by rfl) (hR7.keep (by (repeat (first | with_reducible exact Below.refl _ _ | with_reducible assumption | with_reducible refine below_drewN ?_ _ | with_reducible refine Below.drew ?_ | with_reducible refine below_row ?_ (by first | omega | (simp; done) | (simp; omega)) _ | with_reducible refine Below.alloc ?_ (by first | omega | (simp; done) | (simp; omega)) _ | with_reducible refine Below.setCell ?_ (by first | omega | (simp; done) | (simp; omega)) _)))) w7.heap.size a7 _ c7 _ (by rfl) (by (repeat (first | with_reducible exact Blk.new _ _ _ | with_reducible assumption | with_reducible refine Blk.newAt (by first | rfl | (simp; done) | (simp; omega)) _ _ | with_reducible refine Blk.alloc ?_ _ | with_reducible refine Blk.drewN ?_ _ | with_reducible refine Blk.drew ?_ | with_reducible refine Blk.other ?_ (by first | omega | (simp; done) | (simp; omega)) _))) (ho7.alloc _) (Or.inr ⟨2, 4, by simp, by omega, by rfl⟩) (by omega) (by (first | omega | (simp; done) | (simp; omega))) ?_; intro a8 c8 w8 hR8 hb8 hk8 ho8))
           have hb68 : Below w.heap.size w w8 := Below.trans (b := _) (hbw.trans (Below.trans (b := _) (hb67.mono hsz) (by (repeat (first | with_reducible exact Below.refl _ _ | with_reducible assumption | with_reducible refine below_drewN ?_ _ | with_reducible refine Below.drew ?_ | with_reducible refine below_row ?_ (by first | omega | (simp; done) | (simp; omega)) _ | with_reducible refine Below.alloc ?_ (by first | omega | (simp; done) | (simp; omega)) _ | with_reducible refine Below.setCell ?_ (by first | omega | (simp; done) | (simp; omega)) _))))) hb8
           go_roundw
           case rel => exact ⟨3, a8, c8, n + 1, by omega, by go_num, rfl, by omega, by omega, hR8, hk8 _ _ _ (by decide) ((Blk.below hL hb67 hLl).alloc _), hb68⟩
           case measure => simp [intOf] <;> omega
        · first | exact absurd hc (by omega) | skip
          all_goals
           go_wp2_with fail
           go_roundw
           case rel => exact ⟨3, a, c, n, by omega, by go_num, rfl, by omega, by omega, hR, hL, hbw⟩
           case measure => simp [intOf] <;> omega
      · have q := hL.cell (i := 3) rfl
        clear hn4
        by_cases hc : -9223372036854775808 ≤ u - 18446744073709551616
        · first | exact absurd hc (by omega) | skip
          all_goals
           have hlit := Own.lit1 wr 211 (by omega) (by omega) rfl hsz
           go_wp2_with fail
           refine (big_any u (by omega) h1 8 (by omega) _).mono ?_
           rintro e w6 ⟨a6, c6, rfl, ho6, hb6⟩
           have hb6k : Below wr.heap.size wr w6 := Below.trans (b := _) (by (repeat (first | with_reducible exact Below.refl _ _ | with_reducible assumption | with_reducible refine below_drewN ?_ _ | with_reducible refine Below.drew ?_ | with_reducible refine below_row ?_ (by first | omega | (simp; done) | (simp; omega)) _ | with_reducible refine Below.alloc ?_ (by first | omega | (simp; done) | (simp; omega)) _ | with_reducible refine Below.setCell ?_ (by first | omega | (simp; done) | (simp; omega)) _))) (hb6.mono (by (first | omega | (simp; done) | (simp; omega))))
           have hs6 := hb6k.size
           have hlit6 := hlit.below hb6 (Nat.le_refl _)
           have ho6v := ho6.vw
           clear ho6
           go_wp2_with (first | (at_builtin; refine app8 (by rfl) _ _ (by rfl) w.heap.size _ 1 1 [211] (by rfl) hlit6 _ 8 c6 (beL u 8) (by rfl) ho6v (by omega) (by omega) ?_; intro a7 c7 w7 ho7 hg7; have hb7 := below_of_grown (B := wr.heap.size) hg7 hs6 (fun x hx => by injection hx with hx; subst hx; (first | omega | (simp; done) | (simp; omega))); have hb67 := hb6k.trans hb7; have hs7 := hb67.size; have hR7 := hR.keep hb67) | (at_builtin; refine rows_app (by rfl) _ _ (by rfl) w.heap.size a n c (NegL u) (by rfl) (hR7.keep (by (repeat (first | with_reducible exact Below.refl _ _ | with_reducible assumption | with_reducible refine below_drewN ?_ _ | with_reducible refine Below.drew ?_ | with_reducible refine below_row ?_ (by first | omega | (simp; done) | (simp; omega)) _ | with_reducible refine Below.alloc ?_ (by first | omega | (simp; done) | (simp; omega)) _ | with_reducible refine Below.setCell ?_ (by first | omega | (simp; done) | (simp; omega)) _)))) w7.heap.size a7 _ c7 _ (by rfl) (by (repeat (first | with_reducible exact Blk.new _ _ _ | with_reducible assumption | with_reducible refine Blk.newAt (by first | rfl | (simp; done) | (simp; omega)) _ _ | with_reducible refine Blk.alloc ?_ _ | with_reducible refine Blk.drewN ?_ _ | with_reducible refine Blk.drew ?_ | with_reducible refine Blk.other ?_ (by first | omega | (simp; done) | (simp; omega)) _))) (ho7.alloc _) (Or.inr ⟨3, 8, by simp, by omega, by rfl⟩) (by omega) (by (first | omega | (simp; done) | (simp; omega))) ?_; intro a8 c8 w8 hR8 hb8 hk8 ho8))
           have hb68 : Below w.heap.size w w8 := Below.trans (b := _) (hbw.trans (Below.trans (b := _) (hb67.mono hsz) (by (repeat (first | with_reducible exact Below.refl _ _ | with_reducible assumption | with_reducible refine below_drewN ?_ _ | with_reducible refine Below.drew ?_ | with_reducible refine below_row ?_ (by first | omega | (simp; done) | (simp; omega)) _ | with_reducible refine Below.alloc ?_ (by first | omega | (simp; done) | (simp; omega)) _ | with_reducible refine Below.setCell ?_ (by first | omega | (simp; done) | (simp; omega)) _))))) hb8
           go_roundw
           case rel => exact ⟨4, a8, c8, n + 1, by omega, by go_num, rfl, by omega, by omega, hR8, hk8 _ _ _ (by decide) ((Blk.below hL hb67 hLl).alloc _), hb68⟩
           case measure => simp [intOf] <;> omega
        · exact absurd hc (by omega)
      · have hn0 := hn4 rfl
        go_wp2_with fail
        refine (pickF b (n : Int) (by omega) (by omega) F _ (hB.below hbw hFl)).mono ?_
        rintro e w2 ⟨k, rfl, hk0, hk1, hk2, hB2, hs2, v, rfl⟩
        obtain ⟨q, rfl⟩ : ∃ q : Nat, k = (q : Int) := ⟨k.toNat, by omega⟩
        have hq : q < n := by have := hk2 (by omega); omega
        clear hk2 hk1
        have hRs := hR.set (i := 0) hFl v
        obtain ⟨bb, off, a9, n9, c9, l9, rfl, q0, ho9, hL9⟩ := hRs.at_ q hq
        go_wp2_with fail
        go_ret
        exact ⟨a9, n9, c9, l9, rfl, ho9, hL9, hB2, (Kp.of_below hbw).trans (Kp.set F _ wr 0 v)⟩
end Go.Proofs.YtdncfolehkhjhaaDoor
