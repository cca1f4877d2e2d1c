/- spec.Forms.putInt of an integer not below 0. -/
import Derived.Test.YtdncfolehkhjhaaDoorPutInt
namespace Go.Proofs.YtdncfolehkhjhaaDoor
open Go.RowKit
set_option linter.unusedVariables false
set_option linter.unusedSimpArgs false

theorem owns_mono {w : World} {B B' e size n : Nat} {v : Value} {xs : List Value} (h : w.ownsRow B e size v n xs) (hB : B' ≤ B) : w.ownsRow B' e size v n xs := by
  refine ⟨h.1, ?_⟩
  rcases h.2 with h1 | ⟨g, cap, cur, hv, hg, r⟩
  · exact .inl h1
  · exact .inr ⟨g, cap, cur, hv, by omega, r⟩

set_option maxRecDepth 100000 in
set_option maxHeartbeats 8000000 in
theorem putInt_pos (u : Int) (h0 : 0 ≤ u) (h1 : u < 18446744073709551616) (sg : Bool) (hsg : sg = true → u < 9223372036854775808) (F : Nat) (b : Bool) (w : World) (hB : FB w F b) :
    Calls Tryd.prog 29 #[.pointer (some ⟨F, 0, none⟩), .int .u64 u, .bool sg] w (PutRes F b (PosL u) w) := by
  obtain ⟨x, hw⟩ : ∃ x, IntKind.i64.wrap u = x := ⟨_, rfl⟩
  have hx : sg = true → ¬ x < 0 := fun h => by
    have := hsg h
    rw [← hw]
    simp [IntKind.wrap, IntKind.signed, IntKind.bits]; omega
  have hFl := hB.lt
  have hml := may_le u formsI
  have hm0 : 0 < (may u formsI).length := List.length_pos_of_mem (a := (207, 8)) (List.mem_filter.2 ⟨by simp, rfl⟩)
  obtain ⟨m, hm⟩ : ∃ m, m = (may u formsI).length := ⟨_, rfl⟩
  have hfl : ∀ f ∈ formsI, 0 ≤ f.1 ∧ f.1 < 256 ∧ f.2 ≤ 8 := by simp
  have hS := fun (W : World) => sizes_any u h0 h1 formsI (by simp) (by simp) (some ⟨W.heap.size, 0, none⟩) 4 _ (Rd.lit W 76 (fcells formsI))
  rw [← hm] at hml hm0
  have hml4 : m ≤ 4 := hml
  have HM := Lib.hid hm
  have hS' : (∀ W : World, Calls Tryd.prog 46 #[.int .u64 u, .slice (some ⟨W.heap.size, 0, none⟩) 4 4] (W.alloc (.cells (fcells formsI).toArray 76)) fun e w' => ∃ a c, e = .returned (.slice a m c) ∧ w'.ownsRow (W.alloc (.cells (fcells formsI).toArray 76)).heap.size 76 2 (.slice a m c) m (fcells (may u formsI)) ∧ Below (W.alloc (.cells (fcells formsI).toArray 76)).heap.size (W.alloc (.cells (fcells formsI).toArray 76)) w') := (fun W => by rw [hm]; exact hS W)
  have HS := Lib.hid hS'
  have HF := Lib.hid hfl
  clear hm hS hS' hml hfl
  cases sg with
  | true =>
    have hx' := hx rfl
    clear hx hsg
    by_cases h128 : u < 128
    · have R0 := Rows.nil ((w.alloc (.cells #[.int .u8 u] 5)).alloc (.cells #[.slice (some ⟨w.heap.size, 0, none⟩) 1 1] 35)) w.heap.size (PosL u)
      have hu8 : u % 256 = u := by omega
      go_enter Tryd.func29, Tryd.ntmps29
      go_wp2_with (at_builtin; refine rows_app (by rfl) _ _ (by rfl) w.heap.size none 0 0 (PosL u) (by rfl) R0 (w.heap.size + 1) (some ⟨w.heap.size, 0, none⟩) 1 1 [u] (by rfl) (by (repeat (first | with_reducible exact Blk.new _ _ _ | with_reducible assumption | with_reducible refine Blk.newAt (by first | rfl | (simp; done) | (simp; omega)) _ _ | with_reducible refine Blk.alloc ?_ _ | with_reducible refine Blk.drewN ?_ _ | with_reducible refine Blk.drew ?_ | with_reducible refine Blk.other ?_ (by first | omega | (simp; done) | (simp; omega)) _))) ((Own.lit1 _ _ (by omega) (by omega) rfl (Nat.le_refl _)).alloc _) (Or.inl ⟨by omega, rfl⟩) (by omega) (by (first | omega | (simp; done) | (simp; omega))) ?_; intro a5 c5 w5 hR5 hb5 hk5 ho5)
      have hbq : Below w.heap.size w w5 := Below.trans (b := _) (by (repeat (first | with_reducible exact Below.refl _ _ | with_reducible assumption | with_reducible refine below_drewN ?_ _ | with_reducible refine Below.drew ?_ | with_reducible refine below_row ?_ (by first | omega | (simp; done) | (simp; omega)) _ | with_reducible refine Below.alloc ?_ (by first | omega | (simp; done) | (simp; omega)) _ | with_reducible refine Below.setCell ?_ (by first | omega | (simp; done) | (simp; omega)) _))) hb5
      have hsq := hbq.size
      clear hk5 ho5
      refine (HS.out w5).mono ?_
      rintro e w1 ⟨a1, c1, rfl, hown, hb1⟩
      have hbw1 : Below w.heap.size w w1 := Below.trans (b := _) (by (repeat (first | with_reducible exact Below.refl _ _ | with_reducible assumption | with_reducible refine below_drewN ?_ _ | with_reducible refine Below.drew ?_ | with_reducible refine below_row ?_ (by first | omega | (simp; done) | (simp; omega)) _ | with_reducible refine Below.alloc ?_ (by first | omega | (simp; done) | (simp; omega)) _ | with_reducible refine Below.setCell ?_ (by first | omega | (simp; done) | (simp; omega)) _))) (hb1.mono (by (first | omega | (simp; done) | (simp; omega))))
      have hown1 := owns_mono (B' := w.heap.size) hown (by (first | omega | (simp; done) | (simp; omega)))
      have hR1 := (hR5).keep ((((Below.refl _ _).alloc (Nat.le_refl _) _ : Below w5.heap.size w5 _)).trans (hb1.mono (by (first | omega | (simp; done) | (simp; omega)))))
      have hlen := hown1.1
      clear hown hb1
      go_wp2_with fail
      go_loopw [11, 79] (fun v i wr => ∃ (j : Nat) (a : Option Addr) (c n : Nat), j ≤ m ∧ i = .int .i64 j ∧ v = .slice a n c ∧ n ≤ 1 + j ∧ j ≤ n ∧ Rows wr w.heap.size a n c (PosL u) ∧ wr.ownsRow w.heap.size 76 2 (.slice a1 m c1) m (fcells (may u formsI)) ∧ Below w.heap.size w wr) (fun _ i _ => m - (intOf i).toNat)
      case atStart => exact ⟨0, a5, c5, 1, by omega, rfl, rfl, by omega, by omega, hR1, hown1, hbw1⟩
      case round =>
        obtain ⟨j, a, c, n, hj, rfl, rfl, hn, hjn, hR, hown, hbw⟩ := hrel
        have hsz := hbw.size
        by_cases hlt : j < m
        · have hje : j < (may u formsI).length := by rw [← HM.out]; exact hlt
          obtain ⟨⟨z, s⟩, hf⟩ : ∃ f, f = (may u formsI)[j] := ⟨_, rfl⟩
          have hfm : (z, s) ∈ may u formsI := by rw [hf]; exact List.getElem_mem _
          obtain ⟨hz0, hz1, hs8⟩ := HF.out (z, s) (List.mem_filter.1 hfm).1
          obtain ⟨bb, off, rfl, q0, q1⟩ := (Rd.of_owns hown).form_at j hje _ hf
          simp only at q0 q1 hz0 hz1 hs8
          have HFM := Lib.hid hfm
          clear hf hfm
          go_wp2_with fail
          refine (headed_any z hz0 hz1 s hs8 u h0 h1 _).mono ?_
          rintro e w3 ⟨a3, c3, rfl, ho3, hb3⟩
          have hb3k : Below wr.heap.size wr w3 := Below.trans (b := _) (by (repeat (first | with_reducible exact Below.refl _ _ | with_reducible assumption | with_reducible refine below_drewN ?_ _ | with_reducible refine Below.drew ?_ | with_reducible refine below_row ?_ (by first | omega | (simp; done) | (simp; omega)) _ | with_reducible refine Below.alloc ?_ (by first | omega | (simp; done) | (simp; omega)) _ | with_reducible refine Below.setCell ?_ (by first | omega | (simp; done) | (simp; omega)) _))) (hb3.mono (by (first | omega | (simp; done) | (simp; omega))))
          have hs3 := hb3k.size
          have ho3m := ho3.mono (B' := w.heap.size) (by (first | omega | (simp; done) | (simp; omega)))
          have hR3 := hR.keep hb3k
          have hown3 := owns_below hown hb3k
          clear ho3
          go_wp2_with (at_builtin; refine rows_app (by rfl) _ _ (by rfl) w.heap.size a n c (PosL u) (by rfl) (hR3.keep (by (repeat (first | with_reducible exact Below.refl _ _ | with_reducible assumption | with_reducible refine below_drewN ?_ _ | with_reducible refine Below.drew ?_ | with_reducible refine below_row ?_ (by first | omega | (simp; done) | (simp; omega)) _ | with_reducible refine Below.alloc ?_ (by first | omega | (simp; done) | (simp; omega)) _ | with_reducible refine Below.setCell ?_ (by first | omega | (simp; done) | (simp; omega)) _)))) w3.heap.size a3 _ c3 _ (by rfl) (by (repeat (first | with_reducible exact Blk.new _ _ _ | with_reducible assumption | with_reducible refine Blk.newAt (by first | rfl | (simp; done) | (simp; omega)) _ _ | with_reducible refine Blk.alloc ?_ _ | with_reducible refine Blk.drewN ?_ _ | with_reducible refine Blk.drew ?_ | with_reducible refine Blk.other ?_ (by first | omega | (simp; done) | (simp; omega)) _))) (ho3m.alloc _) (Or.inr (Or.inl ⟨(z, s), HFM.out, by rfl⟩)) (by omega) (by (first | omega | (simp; done) | (simp; omega))) ?_; intro a8 c8 w8 hR8 hb8 hk8 ho8)
          have hb68 : Below w.heap.size w w8 := Below.trans (b := _) (hbw.trans (Below.trans (b := _) (hb3k.mono hsz) (by (repeat (first | with_reducible exact Below.refl _ _ | with_reducible assumption | with_reducible refine below_drewN ?_ _ | with_reducible refine Below.drew ?_ | with_reducible refine below_row ?_ (by first | omega | (simp; done) | (simp; omega)) _ | with_reducible refine Below.alloc ?_ (by first | omega | (simp; done) | (simp; omega)) _ | with_reducible refine Below.setCell ?_ (by first | omega | (simp; done) | (simp; omega)) _))))) hb8
          go_roundw
          case rel => exact ⟨j + 1, a8, c8, n + 1, by omega, by go_num, rfl, by omega, by omega, hR8, ho8 _ _ _ _ _ _ (by decide) (owns_below hown3 (by (repeat (first | with_reducible exact Below.refl _ _ | with_reducible assumption | with_reducible refine below_drewN ?_ _ | with_reducible refine Below.drew ?_ | with_reducible refine below_row ?_ (by first | omega | (simp; done) | (simp; omega)) _ | with_reducible refine Below.alloc ?_ (by first | omega | (simp; done) | (simp; omega)) _ | with_reducible refine Below.setCell ?_ (by first | omega | (simp; done) | (simp; omega)) _)))), hb68⟩
          case measure => simp [intOf] <;> omega
        · obtain rfl : j = m := by omega
          obtain ⟨wq, rfl⟩ : ∃ wq, wq = wr := ⟨_, rfl⟩
          obtain ⟨aq, rfl⟩ : ∃ aq, aq = a := ⟨_, rfl⟩
          obtain ⟨cq, rfl⟩ : ∃ cq, cq = c := ⟨_, rfl⟩
          obtain ⟨nq, rfl⟩ : ∃ nq, nq = n := ⟨_, rfl⟩
          have hRq := hR
          have hbwq := hbw
          have hszq := hsz
          clear hR hbw hsz hown
          go_wp2_with fail
          go_loopw [11, 92] (fun v i wr => ∃ (j : Nat) (a : Option Addr) (c n : Nat), j ≤ 4 ∧ i = .int .i64 j ∧ v = .slice a n c ∧ n ≤ 10 + j ∧ 0 < n ∧ (j = 4 → 0 < n) ∧ Rows wr w.heap.size a n c (PosL u) ∧ Blk wr wq.heap.size 3 #[.int .i64 1, .int .i64 2, .int .i64 4, .int .i64 8] ∧ Below w.heap.size w wr) (fun _ i _ => 4 - (intOf i).toNat)
          case atStart => exact ⟨0, aq, cq, nq, by omega, rfl, rfl, by omega, by omega, by omega, hRq.keep (by (repeat (first | with_reducible exact Below.refl _ _ | with_reducible assumption | with_reducible refine below_drewN ?_ _ | with_reducible refine Below.drew ?_ | with_reducible refine below_row ?_ (by first | omega | (simp; done) | (simp; omega)) _ | with_reducible refine Below.alloc ?_ (by first | omega | (simp; done) | (simp; omega)) _ | with_reducible refine Below.setCell ?_ (by first | omega | (simp; done) | (simp; omega)) _))), Blk.new _ _ _, Below.trans (b := _) hbwq (by (repeat (first | with_reducible exact Below.refl _ _ | with_reducible assumption | with_reducible refine below_drewN ?_ _ | with_reducible refine Below.drew ?_ | with_reducible refine below_row ?_ (by first | omega | (simp; done) | (simp; omega)) _ | with_reducible refine Below.alloc ?_ (by first | omega | (simp; done) | (simp; omega)) _ | with_reducible refine Below.setCell ?_ (by first | omega | (simp; done) | (simp; omega)) _)))⟩
          case round =>
            obtain ⟨j, a, c, n, hj, rfl, rfl, hn, hnp, hn4, hR, hL, hbw⟩ := hrel
            have hsz := hbw.size
            have hLl := hL.lt
            obtain rfl | rfl | rfl | rfl | rfl : j = 0 ∨ j = 1 ∨ j = 2 ∨ j = 3 ∨ j = 4 := by omega
            · have q := hL.cell (i := 0) rfl
              clear hn4
              by_cases hc : u < 128
              · first | exact absurd hc (by omega) | skip
                all_goals
                 have hlit := Own.lit1 wr 208 (by omega) (by omega) rfl hsz
                 go_wp2_with fail
                 refine (big_any u (by omega) h1 1 (by omega) _).mono ?_
                 rintro e w6 ⟨a6, c6, rfl, ho6, hb6⟩
                 have hb6k : Below wr.heap.size wr w6 := Below.trans (b := _) (by (repeat (first | with_reducible exact Below.refl _ _ | with_reducible assumption | with_reducible refine below_drewN ?_ _ | with_reducible refine Below.drew ?_ | with_reducible refine below_row ?_ (by first | omega | (simp; done) | (simp; omega)) _ | with_reducible refine Below.alloc ?_ (by first | omega | (simp; done) | (simp; omega)) _ | with_reducible refine Below.setCell ?_ (by first | omega | (simp; done) | (simp; omega)) _))) (hb6.mono (by (first | omega | (simp; done) | (simp; omega))))
                 have hs6 := hb6k.size
                 have hlit6 := hlit.below hb6 (Nat.le_refl _)
                 have ho6v := ho6.vw
                 clear ho6
                 go_wp2_with (first | (at_builtin; refine app8 (by rfl) _ _ (by rfl) w.heap.size _ 1 1 [208] (by rfl) hlit6 _ 1 c6 (beL u 1) (by rfl) ho6v (by omega) (by omega) ?_; intro a7 c7 w7 ho7 hg7; have hb7 := below_of_grown (B := wr.heap.size) hg7 hs6 (fun x hx => by injection hx with hx; subst hx; (first | omega | (simp; done) | (simp; omega))); have hb67 := hb6k.trans hb7; have hs7 := hb67.size; have hR7 := hR.keep hb67) | (at_builtin; refine rows_app (by rfl) _ _ (by rfl) w.heap.size a n c (PosL u) (by rfl) (hR7.keep (by (repeat (first | with_reducible exact Below.refl _ _ | with_reducible assumption | with_reducible refine below_drewN ?_ _ | with_reducible refine Below.drew ?_ | with_reducible refine below_row ?_ (by first | omega | (simp; done) | (simp; omega)) _ | with_reducible refine Below.alloc ?_ (by first | omega | (simp; done) | (simp; omega)) _ | with_reducible refine Below.setCell ?_ (by first | omega | (simp; done) | (simp; omega)) _)))) w7.heap.size a7 _ c7 _ (by rfl) (by (repeat (first | with_reducible exact Blk.new _ _ _ | with_reducible assumption | with_reducible refine Blk.newAt (by first | rfl | (simp; done) | (simp; omega)) _ _ | with_reducible refine Blk.alloc ?_ _ | with_reducible refine Blk.drewN ?_ _ | with_reducible refine Blk.drew ?_ | with_reducible refine Blk.other ?_ (by first | omega | (simp; done) | (simp; omega)) _))) (ho7.alloc _) (Or.inr (Or.inr ⟨0, 1, by simp, by omega, by rfl⟩)) (by omega) (by (first | omega | (simp; done) | (simp; omega))) ?_; intro a8 c8 w8 hR8 hb8 hk8 ho8))
                 have hb68 : Below w.heap.size w w8 := Below.trans (b := _) (hbw.trans (Below.trans (b := _) (hb67.mono hsz) (by (repeat (first | with_reducible exact Below.refl _ _ | with_reducible assumption | with_reducible refine below_drewN ?_ _ | with_reducible refine Below.drew ?_ | with_reducible refine below_row ?_ (by first | omega | (simp; done) | (simp; omega)) _ | with_reducible refine Below.alloc ?_ (by first | omega | (simp; done) | (simp; omega)) _ | with_reducible refine Below.setCell ?_ (by first | omega | (simp; done) | (simp; omega)) _))))) hb8
                 go_roundw
                 case rel => exact ⟨1, a8, c8, n + 1, by omega, by go_num, rfl, by omega, by omega, by omega, hR8, hk8 _ _ _ (by decide) ((Blk.below hL hb67 hLl).alloc _), hb68⟩
                 case measure => simp [intOf] <;> omega
              · first | exact absurd hc (by omega) | skip
                all_goals
                 go_wp2_with fail
                 go_roundw
                 case rel => exact ⟨1, a, c, n, by omega, by go_num, rfl, by omega, by omega, by omega, hR, hL, hbw⟩
                 case measure => simp [intOf] <;> omega
            · have q := hL.cell (i := 1) rfl
              clear hn4
              by_cases hc : u < 32768
              · first | exact absurd hc (by omega) | skip
                all_goals
                 have hlit := Own.lit1 wr 209 (by omega) (by omega) rfl hsz
                 go_wp2_with fail
                 refine (big_any u (by omega) h1 2 (by omega) _).mono ?_
                 rintro e w6 ⟨a6, c6, rfl, ho6, hb6⟩
                 have hb6k : Below wr.heap.size wr w6 := Below.trans (b := _) (by (repeat (first | with_reducible exact Below.refl _ _ | with_reducible assumption | with_reducible refine below_drewN ?_ _ | with_reducible refine Below.drew ?_ | with_reducible refine below_row ?_ (by first | omega | (simp; done) | (simp; omega)) _ | with_reducible refine Below.alloc ?_ (by first | omega | (simp; done) | (simp; omega)) _ | with_reducible refine Below.setCell ?_ (by first | omega | (simp; done) | (simp; omega)) _))) (hb6.mono (by (first | omega | (simp; done) | (simp; omega))))
                 have hs6 := hb6k.size
                 have hlit6 := hlit.below hb6 (Nat.le_refl _)
                 have ho6v := ho6.vw
                 clear ho6
                 go_wp2_with (first | (at_builtin; refine app8 (by rfl) _ _ (by rfl) w.heap.size _ 1 1 [209] (by rfl) hlit6 _ 2 c6 (beL u 2) (by rfl) ho6v (by omega) (by omega) ?_; intro a7 c7 w7 ho7 hg7; have hb7 := below_of_grown (B := wr.heap.size) hg7 hs6 (fun x hx => by injection hx with hx; subst hx; (first | omega | (simp; done) | (simp; omega))); have hb67 := hb6k.trans hb7; have hs7 := hb67.size; have hR7 := hR.keep hb67) | (at_builtin; refine rows_app (by rfl) _ _ (by rfl) w.heap.size a n c (PosL u) (by rfl) (hR7.keep (by (repeat (first | with_reducible exact Below.refl _ _ | with_reducible assumption | with_reducible refine below_drewN ?_ _ | with_reducible refine Below.drew ?_ | with_reducible refine below_row ?_ (by first | omega | (simp; done) | (simp; omega)) _ | with_reducible refine Below.alloc ?_ (by first | omega | (simp; done) | (simp; omega)) _ | with_reducible refine Below.setCell ?_ (by first | omega | (simp; done) | (simp; omega)) _)))) w7.heap.size a7 _ c7 _ (by rfl) (by (repeat (first | with_reducible exact Blk.new _ _ _ | with_reducible assumption | with_reducible refine Blk.newAt (by first | rfl | (simp; done) | (simp; omega)) _ _ | with_reducible refine Blk.alloc ?_ _ | with_reducible refine Blk.drewN ?_ _ | with_reducible refine Blk.drew ?_ | with_reducible refine Blk.other ?_ (by first | omega | (simp; done) | (simp; omega)) _))) (ho7.alloc _) (Or.inr (Or.inr ⟨1, 2, by simp, by omega, by rfl⟩)) (by omega) (by (first | omega | (simp; done) | (simp; omega))) ?_; intro a8 c8 w8 hR8 hb8 hk8 ho8))
                 have hb68 : Below w.heap.size w w8 := Below.trans (b := _) (hbw.trans (Below.trans (b := _) (hb67.mono hsz) (by (repeat (first | with_reducible exact Below.refl _ _ | with_reducible assumption | with_reducible refine below_drewN ?_ _ | with_reducible refine Below.drew ?_ | with_reducible refine below_row ?_ (by first | omega | (simp; done) | (simp; omega)) _ | with_reducible refine Below.alloc ?_ (by first | omega | (simp; done) | (simp; omega)) _ | with_reducible refine Below.setCell ?_ (by first | omega | (simp; done) | (simp; omega)) _))))) hb8
                 go_roundw
                 case rel => exact ⟨2, a8, c8, n + 1, by omega, by go_num, rfl, by omega, by omega, by omega, hR8, hk8 _ _ _ (by decide) ((Blk.below hL hb67 hLl).alloc _), hb68⟩
                 case measure => simp [intOf] <;> omega
              · first | exact absurd hc (by omega) | skip
                all_goals
                 go_wp2_with fail
                 go_roundw
                 case rel => exact ⟨2, a, c, n, by omega, by go_num, rfl, by omega, by omega, by omega, hR, hL, hbw⟩
                 case measure => simp [intOf] <;> omega
            · have q := hL.cell (i := 2) rfl
              clear hn4
              by_cases hc : u < 2147483648
              · first | exact absurd hc (by omega) | skip
                all_goals
                 have hlit := Own.lit1 wr 210 (by omega) (by omega) rfl hsz
                 go_wp2_with fail
                 refine (big_any u (by omega) h1 4 (by omega) _).mono ?_
                 rintro e w6 ⟨a6, c6, rfl, ho6, hb6⟩
                 have hb6k : Below wr.heap.size wr w6 := Below.trans (b := _) (by (repeat (first | with_reducible exact Below.refl _ _ | with_reducible assumption | with_reducible refine below_drewN ?_ _ | with_reducible refine Below.drew ?_ | with_reducible refine below_row ?_ (by first | omega | (simp; done) | (simp; omega)) _ | with_reducible refine Below.alloc ?_ (by first | omega | (simp; done) | (simp; omega)) _ | with_reducible refine Below.setCell ?_ (by first | omega | (simp; done) | (simp; omega)) _))) (hb6.mono (by (first | omega | (simp; done) | (simp; omega))))
                 have hs6 := hb6k.size
                 have hlit6 := hlit.below hb6 (Nat.le_refl _)
                 have ho6v := ho6.vw
                 clear ho6
                 go_wp2_with (first | (at_builtin; refine app8 (by rfl) _ _ (by rfl) w.heap.size _ 1 1 [210] (by rfl) hlit6 _ 4 c6 (beL u 4) (by rfl) ho6v (by omega) (by omega) ?_; intro a7 c7 w7 ho7 hg7; have hb7 := below_of_grown (B := wr.heap.size) hg7 hs6 (fun x hx => by injection hx with hx; subst hx; (first | omega | (simp; done) | (simp; omega))); have hb67 := hb6k.trans hb7; have hs7 := hb67.size; have hR7 := hR.keep hb67) | (at_builtin; refine rows_app (by rfl) _ _ (by rfl) w.heap.size a n c (PosL u) (by rfl) (hR7.keep (by (repeat (first | with_reducible exact Below.refl _ _ | with_reducible assumption | with_reducible refine below_drewN ?_ _ | with_reducible refine Below.drew ?_ | with_reducible refine below_row ?_ (by first | omega | (simp; done) | (simp; omega)) _ | with_reducible refine Below.alloc ?_ (by first | omega | (simp; done) | (simp; omega)) _ | with_reducible refine Below.setCell ?_ (by first | omega | (simp; done) | (simp; omega)) _)))) w7.heap.size a7 _ c7 _ (by rfl) (by (repeat (first | with_reducible exact Blk.new _ _ _ | with_reducible assumption | with_reducible refine Blk.newAt (by first | rfl | (simp; done) | (simp; omega)) _ _ | with_reducible refine Blk.alloc ?_ _ | with_reducible refine Blk.drewN ?_ _ | with_reducible refine Blk.drew ?_ | with_reducible refine Blk.other ?_ (by first | omega | (simp; done) | (simp; omega)) _))) (ho7.alloc _) (Or.inr (Or.inr ⟨2, 4, by simp, by omega, by rfl⟩)) (by omega) (by (first | omega | (simp; done) | (simp; omega))) ?_; intro a8 c8 w8 hR8 hb8 hk8 ho8))
                 have hb68 : Below w.heap.size w w8 := Below.trans (b := _) (hbw.trans (Below.trans (b := _) (hb67.mono hsz) (by (repeat (first | with_reducible exact Below.refl _ _ | with_reducible assumption | with_reducible refine below_drewN ?_ _ | with_reducible refine Below.drew ?_ | with_reducible refine below_row ?_ (by first | omega | (simp; done) | (simp; omega)) _ | with_reducible refine Below.alloc ?_ (by first | omega | (simp; done) | (simp; omega)) _ | with_reducible refine Below.setCell ?_ (by first | omega | (simp; done) | (simp; omega)) _))))) hb8
                 go_roundw
                 case rel => exact ⟨3, a8, c8, n + 1, by omega, by go_num, rfl, by omega, by omega, by omega, hR8, hk8 _ _ _ (by decide) ((Blk.below hL hb67 hLl).alloc _), hb68⟩
                 case measure => simp [intOf] <;> omega
              · first | exact absurd hc (by omega) | skip
                all_goals
                 go_wp2_with fail
                 go_roundw
                 case rel => exact ⟨3, a, c, n, by omega, by go_num, rfl, by omega, by omega, by omega, hR, hL, hbw⟩
                 case measure => simp [intOf] <;> omega
            · have q := hL.cell (i := 3) rfl
              clear hn4
              by_cases hc : u < 9223372036854775808
              · first | exact absurd hc (by omega) | skip
                all_goals
                 have hlit := Own.lit1 wr 211 (by omega) (by omega) rfl hsz
                 go_wp2_with fail
                 refine (big_any u (by omega) h1 8 (by omega) _).mono ?_
                 rintro e w6 ⟨a6, c6, rfl, ho6, hb6⟩
                 have hb6k : Below wr.heap.size wr w6 := Below.trans (b := _) (by (repeat (first | with_reducible exact Below.refl _ _ | with_reducible assumption | with_reducible refine below_drewN ?_ _ | with_reducible refine Below.drew ?_ | with_reducible refine below_row ?_ (by first | omega | (simp; done) | (simp; omega)) _ | with_reducible refine Below.alloc ?_ (by first | omega | (simp; done) | (simp; omega)) _ | with_reducible refine Below.setCell ?_ (by first | omega | (simp; done) | (simp; omega)) _))) (hb6.mono (by (first | omega | (simp; done) | (simp; omega))))
                 have hs6 := hb6k.size
                 have hlit6 := hlit.below hb6 (Nat.le_refl _)
                 have ho6v := ho6.vw
                 clear ho6
                 go_wp2_with (first | (at_builtin; refine app8 (by rfl) _ _ (by rfl) w.heap.size _ 1 1 [211] (by rfl) hlit6 _ 8 c6 (beL u 8) (by rfl) ho6v (by omega) (by omega) ?_; intro a7 c7 w7 ho7 hg7; have hb7 := below_of_grown (B := wr.heap.size) hg7 hs6 (fun x hx => by injection hx with hx; subst hx; (first | omega | (simp; done) | (simp; omega))); have hb67 := hb6k.trans hb7; have hs7 := hb67.size; have hR7 := hR.keep hb67) | (at_builtin; refine rows_app (by rfl) _ _ (by rfl) w.heap.size a n c (PosL u) (by rfl) (hR7.keep (by (repeat (first | with_reducible exact Below.refl _ _ | with_reducible assumption | with_reducible refine below_drewN ?_ _ | with_reducible refine Below.drew ?_ | with_reducible refine below_row ?_ (by first | omega | (simp; done) | (simp; omega)) _ | with_reducible refine Below.alloc ?_ (by first | omega | (simp; done) | (simp; omega)) _ | with_reducible refine Below.setCell ?_ (by first | omega | (simp; done) | (simp; omega)) _)))) w7.heap.size a7 _ c7 _ (by rfl) (by (repeat (first | with_reducible exact Blk.new _ _ _ | with_reducible assumption | with_reducible refine Blk.newAt (by first | rfl | (simp; done) | (simp; omega)) _ _ | with_reducible refine Blk.alloc ?_ _ | with_reducible refine Blk.drewN ?_ _ | with_reducible refine Blk.drew ?_ | with_reducible refine Blk.other ?_ (by first | omega | (simp; done) | (simp; omega)) _))) (ho7.alloc _) (Or.inr (Or.inr ⟨3, 8, by simp, by omega, by rfl⟩)) (by omega) (by (first | omega | (simp; done) | (simp; omega))) ?_; intro a8 c8 w8 hR8 hb8 hk8 ho8))
                 have hb68 : Below w.heap.size w w8 := Below.trans (b := _) (hbw.trans (Below.trans (b := _) (hb67.mono hsz) (by (repeat (first | with_reducible exact Below.refl _ _ | with_reducible assumption | with_reducible refine below_drewN ?_ _ | with_reducible refine Below.drew ?_ | with_reducible refine below_row ?_ (by first | omega | (simp; done) | (simp; omega)) _ | with_reducible refine Below.alloc ?_ (by first | omega | (simp; done) | (simp; omega)) _ | with_reducible refine Below.setCell ?_ (by first | omega | (simp; done) | (simp; omega)) _))))) hb8
                 go_roundw
                 case rel => exact ⟨4, a8, c8, n + 1, by omega, by go_num, rfl, by omega, by omega, by omega, hR8, hk8 _ _ _ (by decide) ((Blk.below hL hb67 hLl).alloc _), hb68⟩
                 case measure => simp [intOf] <;> omega
              · first | exact absurd hc (by omega) | skip
                all_goals
                 go_wp2_with fail
                 go_roundw
                 case rel => exact ⟨4, a, c, n, by omega, by go_num, rfl, by omega, by omega, by omega, hR, hL, hbw⟩
                 case measure => simp [intOf] <;> omega
            · have hn0 := hn4 rfl
              go_wp2_with fail
              refine (pickF b (n : Int) (by omega) (by omega) F _ (hB.below hbw hFl)).mono ?_
              rintro e w2 ⟨k, rfl, hk0, hk1, hk2, hB2, hs2, v, rfl⟩
              obtain ⟨q, rfl⟩ : ∃ q : Nat, k = (q : Int) := ⟨k.toNat, by omega⟩
              have hq : q < n := by have := hk2 (by omega); omega
              clear hk2 hk1
              have hRs := hR.set (i := 0) hFl v
              obtain ⟨bb, off, a9, n9, c9, l9, rfl, q0, ho9, hL9⟩ := hRs.at_ q hq
              go_wp2_with fail
              go_ret
              exact ⟨a9, n9, c9, l9, rfl, ho9, hL9, hB2, (Kp.of_below hbw).trans (Kp.set F _ wr 0 v)⟩
    · go_enter Tryd.func29, Tryd.ntmps29
      go_wp2_with fail
      refine (HS.out w).mono ?_
      rintro e w1 ⟨a1, c1, rfl, hown, hb1⟩
      have hbw1 : Below w.heap.size w w1 := Below.trans (b := _) (by (repeat (first | with_reducible exact Below.refl _ _ | with_reducible assumption | with_reducible refine below_drewN ?_ _ | with_reducible refine Below.drew ?_ | with_reducible refine below_row ?_ (by first | omega | (simp; done) | (simp; omega)) _ | with_reducible refine Below.alloc ?_ (by first | omega | (simp; done) | (simp; omega)) _ | with_reducible refine Below.setCell ?_ (by first | omega | (simp; done) | (simp; omega)) _))) (hb1.mono (by (first | omega | (simp; done) | (simp; omega))))
      have hown1 := owns_mono (B' := w.heap.size) hown (by (first | omega | (simp; done) | (simp; omega)))
      have hR1 := (Rows.nil w w.heap.size (PosL u)).keep ((((Below.refl _ _).alloc (Nat.le_refl _) _ : Below w.heap.size w _)).trans (hb1.mono (by (first | omega | (simp; done) | (simp; omega)))))
      have hlen := hown1.1
      clear hown hb1
      go_wp2_with fail
      go_loopw [11, 79] (fun v i wr => ∃ (j : Nat) (a : Option Addr) (c n : Nat), j ≤ m ∧ i = .int .i64 j ∧ v = .slice a n c ∧ n ≤ 1 + j ∧ j ≤ n ∧ Rows wr w.heap.size a n c (PosL u) ∧ wr.ownsRow w.heap.size 76 2 (.slice a1 m c1) m (fcells (may u formsI)) ∧ Below w.heap.size w wr) (fun _ i _ => m - (intOf i).toNat)
      case atStart => exact ⟨0, none, 0, 0, by omega, rfl, rfl, by omega, by omega, hR1, hown1, hbw1⟩
      case round =>
        obtain ⟨j, a, c, n, hj, rfl, rfl, hn, hjn, hR, hown, hbw⟩ := hrel
        have hsz := hbw.size
        by_cases hlt : j < m
        · have hje : j < (may u formsI).length := by rw [← HM.out]; exact hlt
          obtain ⟨⟨z, s⟩, hf⟩ : ∃ f, f = (may u formsI)[j] := ⟨_, rfl⟩
          have hfm : (z, s) ∈ may u formsI := by rw [hf]; exact List.getElem_mem _
          obtain ⟨hz0, hz1, hs8⟩ := HF.out (z, s) (List.mem_filter.1 hfm).1
          obtain ⟨bb, off, rfl, q0, q1⟩ := (Rd.of_owns hown).form_at j hje _ hf
          simp only at q0 q1 hz0 hz1 hs8
          have HFM := Lib.hid hfm
          clear hf hfm
          go_wp2_with fail
          refine (headed_any z hz0 hz1 s hs8 u h0 h1 _).mono ?_
          rintro e w3 ⟨a3, c3, rfl, ho3, hb3⟩
          have hb3k : Below wr.heap.size wr w3 := Below.trans (b := _) (by (repeat (first | with_reducible exact Below.refl _ _ | with_reducible assumption | with_reducible refine below_drewN ?_ _ | with_reducible refine Below.drew ?_ | with_reducible refine below_row ?_ (by first | omega | (simp; done) | (simp; omega)) _ | with_reducible refine Below.alloc ?_ (by first | omega | (simp; done) | (simp; omega)) _ | with_reducible refine Below.setCell ?_ (by first | omega | (simp; done) | (simp; omega)) _))) (hb3.mono (by (first | omega | (simp; done) | (simp; omega))))
          have hs3 := hb3k.size
          have ho3m := ho3.mono (B' := w.heap.size) (by (first | omega | (simp; done) | (simp; omega)))
          have hR3 := hR.keep hb3k
          have hown3 := owns_below hown hb3k
          clear ho3
          go_wp2_with (at_builtin; refine rows_app (by rfl) _ _ (by rfl) w.heap.size a n c (PosL u) (by rfl) (hR3.keep (by (repeat (first | with_reducible exact Below.refl _ _ | with_reducible assumption | with_reducible refine below_drewN ?_ _ | with_reducible refine Below.drew ?_ | with_reducible refine below_row ?_ (by first | omega | (simp; done) | (simp; omega)) _ | with_reducible refine Below.alloc ?_ (by first | omega | (simp; done) | (simp; omega)) _ | with_reducible refine Below.setCell ?_ (by first | omega | (simp; done) | (simp; omega)) _)))) w3.heap.size a3 _ c3 _ (by rfl) (by (repeat (first | with_reducible exact Blk.new _ _ _ | with_reducible assumption | with_reducible refine Blk.newAt (by first | rfl | (simp; done) | (simp; omega)) _ _ | with_reducible refine Blk.alloc ?_ _ | with_reducible refine Blk.drewN ?_ _ | with_reducible refine Blk.drew ?_ | with_reducible refine Blk.other ?_ (by first | omega | (simp; done) | (simp; omega)) _))) (ho3m.alloc _) (Or.inr (Or.inl ⟨(z, s), HFM.out, by rfl⟩)) (by omega) (by (first | omega | (simp; done) | (simp; omega))) ?_; intro a8 c8 w8 hR8 hb8 hk8 ho8)
          have hb68 : Below w.heap.size w w8 := Below.trans (b := _) (hbw.trans (Below.trans (b := _) (hb3k.mono hsz) (by (repeat (first | with_reducible exact Below.refl _ _ | with_reducible assumption | with_reducible refine below_drewN ?_ _ | with_reducible refine Below.drew ?_ | with_reducible refine below_row ?_ (by first | omega | (simp; done) | (simp; omega)) _ | with_reducible refine Below.alloc ?_ (by first | omega | (simp; done) | (simp; omega)) _ | with_reducible refine Below.setCell ?_ (by first | omega | (simp; done) | (simp; omega)) _))))) hb8
          go_roundw
          case rel => exact ⟨j + 1, a8, c8, n + 1, by omega, by go_num, rfl, by omega, by omega, hR8, ho8 _ _ _ _ _ _ (by decide) (owns_below hown3 (by (repeat (first | with_reducible exact Below.refl _ _ | with_reducible assumption | with_reducible refine below_drewN ?_ _ | with_reducible refine Below.drew ?_ | with_reducible refine below_row ?_ (by first | omega | (simp; done) | (simp; omega)) _ | with_reducible refine Below.alloc ?_ (by first | omega | (simp; done) | (simp; omega)) _ | with_reducible refine Below.setCell ?_ (by first | omega | (simp; done) | (simp; omega)) _)))), hb68⟩
          case measure => simp [intOf] <;> omega
        · obtain rfl : j = m := by omega
          obtain ⟨wq, rfl⟩ : ∃ wq, wq = wr := ⟨_, rfl⟩
          obtain ⟨aq, rfl⟩ : ∃ aq, aq = a := ⟨_, rfl⟩
          obtain ⟨cq, rfl⟩ : ∃ cq, cq = c := ⟨_, rfl⟩
          obtain ⟨nq, rfl⟩ : ∃ nq, nq = n := ⟨_, rfl⟩
          have hRq := hR
          have hbwq := hbw
          have hszq := hsz
          clear hR hbw hsz hown
          go_wp2_with fail
          go_loopw [11, 92] (fun v i wr => ∃ (j : Nat) (a : Option Addr) (c n : Nat), j ≤ 4 ∧ i = .int .i64 j ∧ v = .slice a n c ∧ n ≤ 10 + j ∧ 0 < n ∧ (j = 4 → 0 < n) ∧ Rows wr w.heap.size a n c (PosL u) ∧ Blk wr wq.heap.size 3 #[.int .i64 1, .int .i64 2, .int .i64 4, .int .i64 8] ∧ Below w.heap.size w wr) (fun _ i _ => 4 - (intOf i).toNat)
          case atStart => exact ⟨0, aq, cq, nq, by omega, rfl, rfl, by omega, by omega, by omega, hRq.keep (by (repeat (first | with_reducible exact Below.refl _ _ | with_reducible assumption | with_reducible refine below_drewN ?_ _ | with_reducible refine Below.drew ?_ | with_reducible refine below_row ?_ (by first | omega | (simp; done) | (simp; omega)) _ | with_reducible refine Below.alloc ?_ (by first | omega | (simp; done) | (simp; omega)) _ | with_reducible refine Below.setCell ?_ (by first | omega | (simp; done) | (simp; omega)) _))), Blk.new _ _ _, Below.trans (b := _) hbwq (by (repeat (first | with_reducible exact Below.refl _ _ | with_reducible assumption | with_reducible refine below_drewN ?_ _ | with_reducible refine Below.drew ?_ | with_reducible refine below_row ?_ (by first | omega | (simp; done) | (simp; omega)) _ | with_reducible refine Below.alloc ?_ (by first | omega | (simp; done) | (simp; omega)) _ | with_reducible refine Below.setCell ?_ (by first | omega | (simp; done) | (simp; omega)) _)))⟩
          case round =>
            obtain ⟨j, a, c, n, hj, rfl, rfl, hn, hnp, hn4, hR, hL, hbw⟩ := hrel
            have hsz := hbw.size
            have hLl := hL.lt
            obtain rfl | rfl | rfl | rfl | rfl : j = 0 ∨ j = 1 ∨ j = 2 ∨ j = 3 ∨ j = 4 := by omega
            · have q := hL.cell (i := 0) rfl
              clear hn4
              by_cases hc : u < 128
              · first | exact absurd hc (by omega) | skip
                all_goals
                 have hlit := Own.lit1 wr 208 (by omega) (by omega) rfl hsz
                 go_wp2_with fail
                 refine (big_any u (by omega) h1 1 (by omega) _).mono ?_
                 rintro e w6 ⟨a6, c6, rfl, ho6, hb6⟩
                 have hb6k : Below wr.heap.size wr w6 := Below.trans (b := _) (by (repeat (first | with_reducible exact Below.refl _ _ | with_reducible assumption | with_reducible refine below_drewN ?_ _ | with_reducible refine Below.drew ?_ | with_reducible refine below_row ?_ (by first | omega | (simp; done) | (simp; omega)) _ | with_reducible refine Below.alloc ?_ (by first | omega | (simp; done) | (simp; omega)) _ | with_reducible refine Below.setCell ?_ (by first | omega | (simp; done) | (simp; omega)) _))) (hb6.mono (by (first | omega | (simp; done) | (simp; omega))))
                 have hs6 := hb6k.size
                 have hlit6 := hlit.below hb6 (Nat.le_refl _)
                 have ho6v := ho6.vw
                 clear ho6
                 go_wp2_with (first | (at_builtin; refine app8 (by rfl) _ _ (by rfl) w.heap.size _ 1 1 [208] (by rfl) hlit6 _ 1 c6 (beL u 1) (by rfl) ho6v (by omega) (by omega) ?_; intro a7 c7 w7 ho7 hg7; have hb7 := below_of_grown (B := wr.heap.size) hg7 hs6 (fun x hx => by injection hx with hx; subst hx; (first | omega | (simp; done) | (simp; omega))); have hb67 := hb6k.trans hb7; have hs7 := hb67.size; have hR7 := hR.keep hb67) | (at_builtin; refine rows_app (by rfl) _ _ (by rfl) w.heap.size a n c (PosL u) (by rfl) (hR7.keep (by (repeat (first | with_reducible exact Below.refl _ _ | with_reducible assumption | with_reducible refine below_drewN ?_ _ | with_reducible refine Below.drew ?_ | with_reducible refine below_row ?_ (by first | omega | (simp; done) | (simp; omega)) _ | with_reducible refine Below.alloc ?_ (by first | omega | (simp; done) | (simp; omega)) _ | with_reducible refine Below.setCell ?_ (by first | omega | (simp; done) | (simp; omega)) _)))) w7.heap.size a7 _ c7 _ (by rfl) (by (repeat (first | with_reducible exact Blk.new _ _ _ | with_reducible assumption | with_reducible refine Blk.newAt (by first | rfl | (simp; done) | (simp; omega)) _ _ | with_reducible refine Blk.alloc ?_ _ | with_reducible refine Blk.drewN ?_ _ | with_reducible refine Blk.drew ?_ | with_reducible refine Blk.other ?_ (by first | omega | (simp; done) | (simp; omega)) _))) (ho7.alloc _) (Or.inr (Or.inr ⟨0, 1, by simp, by omega, by rfl⟩)) (by omega) (by (first | omega | (simp; done) | (simp; omega))) ?_; intro a8 c8 w8 hR8 hb8 hk8 ho8))
                 have hb68 : Below w.heap.size w w8 := Below.trans (b := _) (hbw.trans (Below.trans (b := _) (hb67.mono hsz) (by (repeat (first | with_reducible exact Below.refl _ _ | with_reducible assumption | with_reducible refine below_drewN ?_ _ | with_reducible refine Below.drew ?_ | with_reducible refine below_row ?_ (by first | omega | (simp; done) | (simp; omega)) _ | with_reducible refine Below.alloc ?_ (by first | omega | (simp; done) | (simp; omega)) _ | with_reducible refine Below.setCell ?_ (by first | omega | (simp; done) | (simp; omega)) _))))) hb8
                 go_roundw
                 case rel => exact ⟨1, a8, c8, n + 1, by omega, by go_num, rfl, by omega, by omega, by omega, hR8, hk8 _ _ _ (by decide) ((Blk.below hL hb67 hLl).alloc _), hb68⟩
                 case measure => simp [intOf] <;> omega
              · first | exact absurd hc (by omega) | skip
                all_goals
                 go_wp2_with fail
                 go_roundw
                 case rel => exact ⟨1, a, c, n, by omega, by go_num, rfl, by omega, by omega, by omega, hR, hL, hbw⟩
                 case measure => simp [intOf] <;> omega
            · have q := hL.cell (i := 1) rfl
              clear hn4
              by_cases hc : u < 32768
              · first | exact absurd hc (by omega) | skip
                all_goals
                 have hlit := Own.lit1 wr 209 (by omega) (by omega) rfl hsz
                 go_wp2_with fail
                 refine (big_any u (by omega) h1 2 (by omega) _).mono ?_
                 rintro e w6 ⟨a6, c6, rfl, ho6, hb6⟩
                 have hb6k : Below wr.heap.size wr w6 := Below.trans (b := _) (by (repeat (first | with_reducible exact Below.refl _ _ | with_reducible assumption | with_reducible refine below_drewN ?_ _ | with_reducible refine Below.drew ?_ | with_reducible refine below_row ?_ (by first | omega | (simp; done) | (simp; omega)) _ | with_reducible refine Below.alloc ?_ (by first | omega | (simp; done) | (simp; omega)) _ | with_reducible refine Below.setCell ?_ (by first | omega | (simp; done) | (simp; omega)) _))) (hb6.mono (by (first | omega | (simp; done) | (simp; omega))))
                 have hs6 := hb6k.size
                 have hlit6 := hlit.below hb6 (Nat.le_refl _)
                 have ho6v := ho6.vw
                 clear ho6
                 go_wp2_with (first | (at_builtin; refine app8 (by rfl) _ _ (by rfl) w.heap.size _ 1 1 [209] (by rfl) hlit6 _ 2 c6 (beL u 2) (by rfl) ho6v (by omega) (by omega) ?_; intro a7 c7 w7 ho7 hg7; have hb7 := below_of_grown (B := wr.heap.size) hg7 hs6 (fun x hx => by injection hx with hx; subst hx; (first | omega | (simp; done) | (simp; omega))); have hb67 := hb6k.trans hb7; have hs7 := hb67.size; have hR7 := hR.keep hb67) | (at_builtin; refine rows_app (by rfl) _ _ (by rfl) w.heap.size a n c (PosL u) (by rfl) (hR7.keep (by (repeat (first | with_reducible exact Below.refl _ _ | with_reducible assumption | with_reducible refine below_drewN ?_ _ | with_reducible refine Below.drew ?_ | with_reducible refine below_row ?_ (by first | omega | (simp; done) | (simp; omega)) _ | with_reducible refine Below.alloc ?_ (by first | omega | (simp; done) | (simp; omega)) _ | with_reducible refine Below.setCell ?_ (by first | omega | (simp; done) | (simp; omega)) _)))) w7.heap.size a7 _ c7 _ (by rfl) (by (repeat (first | with_reducible exact Blk.new _ _ _ | with_reducible assumption | with_reducible refine Blk.newAt (by first | rfl | (simp; done) | (simp; omega)) _ _ | with_reducible refine Blk.alloc ?_ _ | with_reducible refine Blk.drewN ?_ _ | with_reducible refine Blk.drew ?_ | with_reducible refine Blk.other ?_ (by first | omega | (simp; done) | (simp; omega)) _))) (ho7.alloc _) (Or.inr (Or.inr ⟨1, 2, by simp, by omega, by rfl⟩)) (by omega) (by (first | omega | (simp; done) | (simp; omega))) ?_; intro a8 c8 w8 hR8 hb8 hk8 ho8))
                 have hb68 : Below w.heap.size w w8 := Below.trans (b := _) (hbw.trans (Below.trans (b := _) (hb67.mono hsz) (by (repeat (first | with_reducible exact Below.refl _ _ | with_reducible assumption | with_reducible refine below_drewN ?_ _ | with_reducible refine Below.drew ?_ | with_reducible refine below_row ?_ (by first | omega | (simp; done) | (simp; omega)) _ | with_reducible refine Below.alloc ?_ (by first | omega | (simp; done) | (simp; omega)) _ | with_reducible refine Below.setCell ?_ (by first | omega | (simp; done) | (simp; omega)) _))))) hb8
                 go_roundw
                 case rel => exact ⟨2, a8, c8, n + 1, by omega, by go_num, rfl, by omega, by omega, by omega, hR8, hk8 _ _ _ (by decide) ((Blk.below hL hb67 hLl).alloc _), hb68⟩
                 case measure => simp [intOf] <;> omega
              · first | exact absurd hc (by omega) | skip
                all_goals
                 go_wp2_with fail
                 go_roundw
                 case rel => exact ⟨2, a, c, n, by omega, by go_num, rfl, by omega, by omega, by omega, hR, hL, hbw⟩
                 case measure => simp [intOf] <;> omega
            · have q := hL.cell (i := 2) rfl
              clear hn4
              by_cases hc : u < 2147483648
              · first | exact absurd hc (by omega) | skip
                all_goals
                 have hlit := Own.lit1 wr 210 (by omega) (by omega) rfl hsz
                 go_wp2_with fail
                 refine (big_any u (by omega) h1 4 (by omega) _).mono ?_
                 rintro e w6 ⟨a6, c6, rfl, ho6, hb6⟩
                 have hb6k : Below wr.heap.size wr w6 := Below.trans (b := _) (by (repeat (first | with_reducible exact Below.refl _ _ | with_reducible assumption | with_reducible refine below_drewN ?_ _ | with_reducible refine Below.drew ?_ | with_reducible refine below_row ?_ (by first | omega | (simp; done) | (simp; omega)) _ | with_reducible refine Below.alloc ?_ (by first | omega | (simp; done) | (simp; omega)) _ | with_reducible refine Below.setCell ?_ (by first | omega | (simp; done) | (simp; omega)) _))) (hb6.mono (by (first | omega | (simp; done) | (simp; omega))))
                 have hs6 := hb6k.size
                 have hlit6 := hlit.below hb6 (Nat.le_refl _)
                 have ho6v := ho6.vw
                 clear ho6
                 go_wp2_with (first | (at_builtin; refine app8 (by rfl) _ _ (by rfl) w.heap.size _ 1 1 [210] (by rfl) hlit6 _ 4 c6 (beL u 4) (by rfl) ho6v (by omega) (by omega) ?_; intro a7 c7 w7 ho7 hg7; have hb7 := below_of_grown (B := wr.heap.size) hg7 hs6 (fun x hx => by injection hx with hx; subst hx; (first | omega | (simp; done) | (simp; omega))); have hb67 := hb6k.trans hb7; have hs7 := hb67.size; have hR7 := hR.keep hb67) | (at_builtin; refine rows_app (by rfl) _ _ (by rfl) w.heap.size a n c (PosL u) (by rfl) (hR7.keep (by (repeat (first | with_reducible exact Below.refl _ _ | with_reducible assumption | with_reducible refine below_drewN ?_ _ | with_reducible refine Below.drew ?_ | with_reducible refine below_row ?_ (by first | omega | (simp; done) | (simp; omega)) _ | with_reducible refine Below.alloc ?_ (by first | omega | (simp; done) | (simp; omega)) _ | with_reducible refine Below.setCell ?_ (by first | omega | (simp; done) | (simp; omega)) _)))) w7.heap.size a7 _ c7 _ (by rfl) (by (repeat (first | with_reducible exact Blk.new _ _ _ | with_reducible assumption | with_reducible refine Blk.newAt (by first | rfl | (simp; done) | (simp; omega)) _ _ | with_reducible refine Blk.alloc ?_ _ | with_reducible refine Blk.drewN ?_ _ | with_reducible refine Blk.drew ?_ | with_reducible refine Blk.other ?_ (by first | omega | (simp; done) | (simp; omega)) _))) (ho7.alloc _) (Or.inr (Or.inr ⟨2, 4, by simp, by omega, by rfl⟩)) (by omega) (by (first | omega | (simp; done) | (simp; omega))) ?_; intro a8 c8 w8 hR8 hb8 hk8 ho8))
                 have hb68 : Below w.heap.size w w8 := Below.trans (b := _) (hbw.trans (Below.trans (b := _) (hb67.mono hsz) (by (repeat (first | with_reducible exact Below.refl _ _ | with_reducible assumption | with_reducible refine below_drewN ?_ _ | with_reducible refine Below.drew ?_ | with_reducible refine below_row ?_ (by first | omega | (simp; done) | (simp; omega)) _ | with_reducible refine Below.alloc ?_ (by first | omega | (simp; done) | (simp; omega)) _ | with_reducible refine Below.setCell ?_ (by first | omega | (simp; done) | (simp; omega)) _))))) hb8
                 go_roundw
                 case rel => exact ⟨3, a8, c8, n + 1, by omega, by go_num, rfl, by omega, by omega, by omega, hR8, hk8 _ _ _ (by decide) ((Blk.below hL hb67 hLl).alloc _), hb68⟩
                 case measure => simp [intOf] <;> omega
              · first | exact absurd hc (by omega) | skip
                all_goals
                 go_wp2_with fail
                 go_roundw
                 case rel => exact ⟨3, a, c, n, by omega, by go_num, rfl, by omega, by omega, by omega, hR, hL, hbw⟩
                 case measure => simp [intOf] <;> omega
            · have q := hL.cell (i := 3) rfl
              clear hn4
              by_cases hc : u < 9223372036854775808
              · first | exact absurd hc (by omega) | skip
                all_goals
                 have hlit := Own.lit1 wr 211 (by omega) (by omega) rfl hsz
                 go_wp2_with fail
                 refine (big_any u (by omega) h1 8 (by omega) _).mono ?_
                 rintro e w6 ⟨a6, c6, rfl, ho6, hb6⟩
                 have hb6k : Below wr.heap.size wr w6 := Below.trans (b := _) (by (repeat (first | with_reducible exact Below.refl _ _ | with_reducible assumption | with_reducible refine below_drewN ?_ _ | with_reducible refine Below.drew ?_ | with_reducible refine below_row ?_ (by first | omega | (simp; done) | (simp; omega)) _ | with_reducible refine Below.alloc ?_ (by first | omega | (simp; done) | (simp; omega)) _ | with_reducible refine Below.setCell ?_ (by first | omega | (simp; done) | (simp; omega)) _))) (hb6.mono (by (first | omega | (simp; done) | (simp; omega))))
                 have hs6 := hb6k.size
                 have hlit6 := hlit.below hb6 (Nat.le_refl _)
                 have ho6v := ho6.vw
                 clear ho6
                 go_wp2_with (first | (at_builtin; refine app8 (by rfl) _ _ (by rfl) w.heap.size _ 1 1 [211] (by rfl) hlit6 _ 8 c6 (beL u 8) (by rfl) ho6v (by omega) (by omega) ?_; intro a7 c7 w7 ho7 hg7; have hb7 := below_of_grown (B := wr.heap.size) hg7 hs6 (fun x hx => by injection hx with hx; subst hx; (first | omega | (simp; done) | (simp; omega))); have hb67 := hb6k.trans hb7; have hs7 := hb67.size; have hR7 := hR.keep hb67) | (at_builtin; refine rows_app (by rfl) _ _ (by rfl) w.heap.size a n c (PosL u) (by rfl) (hR7.keep (by (repeat (first | with_reducible exact Below.refl _ _ | with_reducible assumption | with_reducible refine below_drewN ?_ _ | with_reducible refine Below.drew ?_ | with_reducible refine below_row ?_ (by first | omega | (simp; done) | (simp; omega)) _ | with_reducible refine Below.alloc ?_ (by first | omega | (simp; done) | (simp; omega)) _ | with_reducible refine Below.setCell ?_ (by first | omega | (simp; done) | (simp; omega)) _)))) w7.heap.size a7 _ c7 _ (by rfl) (by (repeat (first | with_reducible exact Blk.new _ _ _ | with_reducible assumption | with_reducible refine Blk.newAt (by first | rfl | (simp; done) | (simp; omega)) _ _ | with_reducible refine Blk.alloc ?_ _ | with_reducible refine Blk.drewN ?_ _ | with_reducible refine Blk.drew ?_ | with_reducible refine Blk.other ?_ (by first | omega | (simp; done) | (simp; omega)) _))) (ho7.alloc _) (Or.inr (Or.inr ⟨3, 8, by simp, by omega, by rfl⟩)) (by omega) (by (first | omega | (simp; done) | (simp; omega))) ?_; intro a8 c8 w8 hR8 hb8 hk8 ho8))
                 have hb68 : Below w.heap.size w w8 := Below.trans (b := _) (hbw.trans (Below.trans (b := _) (hb67.mono hsz) (by (repeat (first | with_reducible exact Below.refl _ _ | with_reducible assumption | with_reducible refine below_drewN ?_ _ | with_reducible refine Below.drew ?_ | with_reducible refine below_row ?_ (by first | omega | (simp; done) | (simp; omega)) _ | with_reducible refine Below.alloc ?_ (by first | omega | (simp; done) | (simp; omega)) _ | with_reducible refine Below.setCell ?_ (by first | omega | (simp; done) | (simp; omega)) _))))) hb8
                 go_roundw
                 case rel => exact ⟨4, a8, c8, n + 1, by omega, by go_num, rfl, by omega, by omega, by omega, hR8, hk8 _ _ _ (by decide) ((Blk.below hL hb67 hLl).alloc _), hb68⟩
                 case measure => simp [intOf] <;> omega
              · first | exact absurd hc (by omega) | skip
                all_goals
                 go_wp2_with fail
                 go_roundw
                 case rel => exact ⟨4, a, c, n, by omega, by go_num, rfl, by omega, by omega, by omega, hR, hL, hbw⟩
                 case measure => simp [intOf] <;> omega
            · have hn0 := hn4 rfl
              go_wp2_with fail
              refine (pickF b (n : Int) (by omega) (by omega) F _ (hB.below hbw hFl)).mono ?_
              rintro e w2 ⟨k, rfl, hk0, hk1, hk2, hB2, hs2, v, rfl⟩
              obtain ⟨q, rfl⟩ : ∃ q : Nat, k = (q : Int) := ⟨k.toNat, by omega⟩
              have hq : q < n := by have := hk2 (by omega); omega
              clear hk2 hk1
              have hRs := hR.set (i := 0) hFl v
              obtain ⟨bb, off, a9, n9, c9, l9, rfl, q0, ho9, hL9⟩ := hRs.at_ q hq
              go_wp2_with fail
              go_ret
              exact ⟨a9, n9, c9, l9, rfl, ho9, hL9, hB2, (Kp.of_below hbw).trans (Kp.set F _ wr 0 v)⟩
  | false =>
    clear hx hsg
    by_cases h128 : u < 128
    · have R0 := Rows.nil ((w.alloc (.cells #[.int .u8 u] 5)).alloc (.cells #[.slice (some ⟨w.heap.size, 0, none⟩) 1 1] 35)) w.heap.size (PosL u)
      have hu8 : u % 256 = u := by omega
      go_enter Tryd.func29, Tryd.ntmps29
      go_wp2_with (at_builtin; refine rows_app (by rfl) _ _ (by rfl) w.heap.size none 0 0 (PosL u) (by rfl) R0 (w.heap.size + 1) (some ⟨w.heap.size, 0, none⟩) 1 1 [u] (by rfl) (by (repeat (first | with_reducible exact Blk.new _ _ _ | with_reducible assumption | with_reducible refine Blk.newAt (by first | rfl | (simp; done) | (simp; omega)) _ _ | with_reducible refine Blk.alloc ?_ _ | with_reducible refine Blk.drewN ?_ _ | with_reducible refine Blk.drew ?_ | with_reducible refine Blk.other ?_ (by first | omega | (simp; done) | (simp; omega)) _))) ((Own.lit1 _ _ (by omega) (by omega) rfl (Nat.le_refl _)).alloc _) (Or.inl ⟨by omega, rfl⟩) (by omega) (by (first | omega | (simp; done) | (simp; omega))) ?_; intro a5 c5 w5 hR5 hb5 hk5 ho5)
      have hbq : Below w.heap.size w w5 := Below.trans (b := _) (by (repeat (first | with_reducible exact Below.refl _ _ | with_reducible assumption | with_reducible refine below_drewN ?_ _ | with_reducible refine Below.drew ?_ | with_reducible refine below_row ?_ (by first | omega | (simp; done) | (simp; omega)) _ | with_reducible refine Below.alloc ?_ (by first | omega | (simp; done) | (simp; omega)) _ | with_reducible refine Below.setCell ?_ (by first | omega | (simp; done) | (simp; omega)) _))) hb5
      have hsq := hbq.size
      clear hk5 ho5
      refine (HS.out w5).mono ?_
      rintro e w1 ⟨a1, c1, rfl, hown, hb1⟩
      have hbw1 : Below w.heap.size w w1 := Below.trans (b := _) (by (repeat (first | with_reducible exact Below.refl _ _ | with_reducible assumption | with_reducible refine below_drewN ?_ _ | with_reducible refine Below.drew ?_ | with_reducible refine below_row ?_ (by first | omega | (simp; done) | (simp; omega)) _ | with_reducible refine Below.alloc ?_ (by first | omega | (simp; done) | (simp; omega)) _ | with_reducible refine Below.setCell ?_ (by first | omega | (simp; done) | (simp; omega)) _))) (hb1.mono (by (first | omega | (simp; done) | (simp; omega))))
      have hown1 := owns_mono (B' := w.heap.size) hown (by (first | omega | (simp; done) | (simp; omega)))
      have hR1 := (hR5).keep ((((Below.refl _ _).alloc (Nat.le_refl _) _ : Below w5.heap.size w5 _)).trans (hb1.mono (by (first | omega | (simp; done) | (simp; omega)))))
      have hlen := hown1.1
      clear hown hb1
      go_wp2_with fail
      go_loopw [11, 79] (fun v i wr => ∃ (j : Nat) (a : Option Addr) (c n : Nat), j ≤ m ∧ i = .int .i64 j ∧ v = .slice a n c ∧ n ≤ 1 + j ∧ j ≤ n ∧ Rows wr w.heap.size a n c (PosL u) ∧ wr.ownsRow w.heap.size 76 2 (.slice a1 m c1) m (fcells (may u formsI)) ∧ Below w.heap.size w wr) (fun _ i _ => m - (intOf i).toNat)
      case atStart => exact ⟨0, a5, c5, 1, by omega, rfl, rfl, by omega, by omega, hR1, hown1, hbw1⟩
      case round =>
        obtain ⟨j, a, c, n, hj, rfl, rfl, hn, hjn, hR, hown, hbw⟩ := hrel
        have hsz := hbw.size
        by_cases hlt : j < m
        · have hje : j < (may u formsI).length := by rw [← HM.out]; exact hlt
          obtain ⟨⟨z, s⟩, hf⟩ : ∃ f, f = (may u formsI)[j] := ⟨_, rfl⟩
          have hfm : (z, s) ∈ may u formsI := by rw [hf]; exact List.getElem_mem _
          obtain ⟨hz0, hz1, hs8⟩ := HF.out (z, s) (List.mem_filter.1 hfm).1
          obtain ⟨bb, off, rfl, q0, q1⟩ := (Rd.of_owns hown).form_at j hje _ hf
          simp only at q0 q1 hz0 hz1 hs8
          have HFM := Lib.hid hfm
          clear hf hfm
          go_wp2_with fail
          refine (headed_any z hz0 hz1 s hs8 u h0 h1 _).mono ?_
          rintro e w3 ⟨a3, c3, rfl, ho3, hb3⟩
          have hb3k : Below wr.heap.size wr w3 := Below.trans (b := _) (by (repeat (first | with_reducible exact Below.refl _ _ | with_reducible assumption | with_reducible refine below_drewN ?_ _ | with_reducible refine Below.drew ?_ | with_reducible refine below_row ?_ (by first | omega | (simp; done) | (simp; omega)) _ | with_reducible refine Below.alloc ?_ (by first | omega | (simp; done) | (simp; omega)) _ | with_reducible refine Below.setCell ?_ (by first | omega | (simp; done) | (simp; omega)) _))) (hb3.mono (by (first | omega | (simp; done) | (simp; omega))))
          have hs3 := hb3k.size
          have ho3m := ho3.mono (B' := w.heap.size) (by (first | omega | (simp; done) | (simp; omega)))
          have hR3 := hR.keep hb3k
          have hown3 := owns_below hown hb3k
          clear ho3
          go_wp2_with (at_builtin; refine rows_app (by rfl) _ _ (by rfl) w.heap.size a n c (PosL u) (by rfl) (hR3.keep (by (repeat (first | with_reducible exact Below.refl _ _ | with_reducible assumption | with_reducible refine below_drewN ?_ _ | with_reducible refine Below.drew ?_ | with_reducible refine below_row ?_ (by first | omega | (simp; done) | (simp; omega)) _ | with_reducible refine Below.alloc ?_ (by first | omega | (simp; done) | (simp; omega)) _ | with_reducible refine Below.setCell ?_ (by first | omega | (simp; done) | (simp; omega)) _)))) w3.heap.size a3 _ c3 _ (by rfl) (by (repeat (first | with_reducible exact Blk.new _ _ _ | with_reducible assumption | with_reducible refine Blk.newAt (by first | rfl | (simp; done) | (simp; omega)) _ _ | with_reducible refine Blk.alloc ?_ _ | with_reducible refine Blk.drewN ?_ _ | with_reducible refine Blk.drew ?_ | with_reducible refine Blk.other ?_ (by first | omega | (simp; done) | (simp; omega)) _))) (ho3m.alloc _) (Or.inr (Or.inl ⟨(z, s), HFM.out, by rfl⟩)) (by omega) (by (first | omega | (simp; done) | (simp; omega))) ?_; intro a8 c8 w8 hR8 hb8 hk8 ho8)
          have hb68 : Below w.heap.size w w8 := Below.trans (b := _) (hbw.trans (Below.trans (b := _) (hb3k.mono hsz) (by (repeat (first | with_reducible exact Below.refl _ _ | with_reducible assumption | with_reducible refine below_drewN ?_ _ | with_reducible refine Below.drew ?_ | with_reducible refine below_row ?_ (by first | omega | (simp; done) | (simp; omega)) _ | with_reducible refine Below.alloc ?_ (by first | omega | (simp; done) | (simp; omega)) _ | with_reducible refine Below.setCell ?_ (by first | omega | (simp; done) | (simp; omega)) _))))) hb8
          go_roundw
          case rel => exact ⟨j + 1, a8, c8, n + 1, by omega, by go_num, rfl, by omega, by omega, hR8, ho8 _ _ _ _ _ _ (by decide) (owns_below hown3 (by (repeat (first | with_reducible exact Below.refl _ _ | with_reducible assumption | with_reducible refine below_drewN ?_ _ | with_reducible refine Below.drew ?_ | with_reducible refine below_row ?_ (by first | omega | (simp; done) | (simp; omega)) _ | with_reducible refine Below.alloc ?_ (by first | omega | (simp; done) | (simp; omega)) _ | with_reducible refine Below.setCell ?_ (by first | omega | (simp; done) | (simp; omega)) _)))), hb68⟩
          case measure => simp [intOf] <;> omega
        · obtain rfl : j = m := by omega
          obtain ⟨wq, rfl⟩ : ∃ wq, wq = wr := ⟨_, rfl⟩
          obtain ⟨aq, rfl⟩ : ∃ aq, aq = a := ⟨_, rfl⟩
          obtain ⟨cq, rfl⟩ : ∃ cq, cq = c := ⟨_, rfl⟩
          obtain ⟨nq, rfl⟩ : ∃ nq, nq = n := ⟨_, rfl⟩
          have hRq := hR
          have hbwq := hbw
          have hszq := hsz
          clear hR hbw hsz hown
          go_wp2_with fail
          go_loopw [11, 92] (fun v i wr => ∃ (j : Nat) (a : Option Addr) (c n : Nat), j ≤ 4 ∧ i = .int .i64 j ∧ v = .slice a n c ∧ n ≤ 10 + j ∧ 0 < n ∧ (j = 4 → 0 < n) ∧ Rows wr w.heap.size a n c (PosL u) ∧ Blk wr wq.heap.size 3 #[.int .i64 1, .int .i64 2, .int .i64 4, .int .i64 8] ∧ Below w.heap.size w wr) (fun _ i _ => 4 - (intOf i).toNat)
          case atStart => exact ⟨0, aq, cq, nq, by omega, rfl, rfl, by omega, by omega, by omega, hRq.keep (by (repeat (first | with_reducible exact Below.refl _ _ | with_reducible assumption | with_reducible refine below_drewN ?_ _ | with_reducible refine Below.drew ?_ | with_reducible refine below_row ?_ (by first | omega | (simp; done) | (simp; omega)) _ | with_reducible refine Below.alloc ?_ (by first | omega | (simp; done) | (simp; omega)) _ | with_reducible refine Below.setCell ?_ (by first | omega | (simp; done) | (simp; omega)) _))), Blk.new _ _ _, Below.trans (b := _) hbwq (by (repeat (first | with_reducible exact Below.refl _ _ | with_reducible assumption | with_reducible refine below_drewN ?_ _ | with_reducible refine Below.drew ?_ | with_reducible refine below_row ?_ (by first | omega | (simp; done) | (simp; omega)) _ | with_reducible refine Below.alloc ?_ (by first | omega | (simp; done) | (simp; omega)) _ | with_reducible refine Below.setCell ?_ (by first | omega | (simp; done) | (simp; omega)) _)))⟩
          case round =>
            obtain ⟨j, a, c, n, hj, rfl, rfl, hn, hnp, hn4, hR, hL, hbw⟩ := hrel
            have hsz := hbw.size
            have hLl := hL.lt
            obtain rfl | rfl | rfl | rfl | rfl : j = 0 ∨ j = 1 ∨ j = 2 ∨ j = 3 ∨ j = 4 := by omega
            · have q := hL.cell (i := 0) rfl
              clear hn4
              by_cases hc : u < 128
              · first | exact absurd hc (by omega) | skip
                all_goals
                 have hlit := Own.lit1 wr 208 (by omega) (by omega) rfl hsz
                 go_wp2_with fail
                 refine (big_any u (by omega) h1 1 (by omega) _).mono ?_
                 rintro e w6 ⟨a6, c6, rfl, ho6, hb6⟩
                 have hb6k : Below wr.heap.size wr w6 := Below.trans (b := _) (by (repeat (first | with_reducible exact Below.refl _ _ | with_reducible assumption | with_reducible refine below_drewN ?_ _ | with_reducible refine Below.drew ?_ | with_reducible refine below_row ?_ (by first | omega | (simp; done) | (simp; omega)) _ | with_reducible refine Below.alloc ?_ (by first | omega | (simp; done) | (simp; omega)) _ | with_reducible refine Below.setCell ?_ (by first | omega | (simp; done) | (simp; omega)) _))) (hb6.mono (by (first | omega | (simp; done) | (simp; omega))))
                 have hs6 := hb6k.size
                 have hlit6 := hlit.below hb6 (Nat.le_refl _)
                 have ho6v := ho6.vw
                 clear ho6
                 go_wp2_with (first | (at_builtin; refine app8 (by rfl) _ _ (by rfl) w.heap.size _ 1 1 [208] (by rfl) hlit6 _ 1 c6 (beL u 1) (by rfl) ho6v (by omega) (by omega) ?_; intro a7 c7 w7 ho7 hg7; have hb7 := below_of_grown (B := wr.heap.size) hg7 hs6 (fun x hx => by injection hx with hx; subst hx; (first | omega | (simp; done) | (simp; omega))); have hb67 := hb6k.trans hb7; have hs7 := hb67.size; have hR7 := hR.keep hb67) | (at_builtin; refine rows_app (by rfl) _ _ (by rfl) w.heap.size a n c (PosL u) (by rfl) (hR7.keep (by (repeat (first | with_reducible exact Below.refl _ _ | with_reducible assumption | with_reducible refine below_drewN ?_ _ | with_reducible refine Below.drew ?_ | with_reducible refine below_row ?_ (by first | omega | (simp; done) | (simp; omega)) _ | with_reducible refine Below.alloc ?_ (by first | omega | (simp; done) | (simp; omega)) _ | with_reducible refine Below.setCell ?_ (by first | omega | (simp; done) | (simp; omega)) _)))) w7.heap.size a7 _ c7 _ (by rfl) (by (repeat (first | with_reducible exact Blk.new _ _ _ | with_reducible assumption | with_reducible refine Blk.newAt (by first | rfl | (simp; done) | (simp; omega)) _ _ | with_reducible refine Blk.alloc ?_ _ | with_reducible refine Blk.drewN ?_ _ | with_reducible refine Blk.drew ?_ | with_reducible refine Blk.other ?_ (by first | omega | (simp; done) | (simp; omega)) _))) (ho7.alloc _) (Or.inr (Or.inr ⟨0, 1, by simp, by omega, by rfl⟩)) (by omega) (by (first | omega | (simp; done) | (simp; omega))) ?_; intro a8 c8 w8 hR8 hb8 hk8 ho8))
                 have hb68 : Below w.heap.size w w8 := Below.trans (b := _) (hbw.trans (Below.trans (b := _) (hb67.mono hsz) (by (repeat (first | with_reducible exact Below.refl _ _ | with_reducible assumption | with_reducible refine below_drewN ?_ _ | with_reducible refine Below.drew ?_ | with_reducible refine below_row ?_ (by first | omega | (simp; done) | (simp; omega)) _ | with_reducible refine Below.alloc ?_ (by first | omega | (simp; done) | (simp; omega)) _ | with_reducible refine Below.setCell ?_ (by first | omega | (simp; done) | (simp; omega)) _))))) hb8
                 go_roundw
                 case rel => exact ⟨1, a8, c8, n + 1, by omega, by go_num, rfl, by omega, by omega, by omega, hR8, hk8 _ _ _ (by decide) ((Blk.below hL hb67 hLl).alloc _), hb68⟩
                 case measure => simp [intOf] <;> omega
              · first | exact absurd hc (by omega) | skip
                all_goals
                 go_wp2_with fail
                 go_roundw
                 case rel => exact ⟨1, a, c, n, by omega, by go_num, rfl, by omega, by omega, by omega, hR, hL, hbw⟩
                 case measure => simp [intOf] <;> omega
            · have q := hL.cell (i := 1) rfl
              clear hn4
              by_cases hc : u < 32768
              · first | exact absurd hc (by omega) | skip
                all_goals
                 have hlit := Own.lit1 wr 209 (by omega) (by omega) rfl hsz
                 go_wp2_with fail
                 refine (big_any u (by omega) h1 2 (by omega) _).mono ?_
                 rintro e w6 ⟨a6, c6, rfl, ho6, hb6⟩
                 have hb6k : Below wr.heap.size wr w6 := Below.trans (b := _) (by (repeat (first | with_reducible exact Below.refl _ _ | with_reducible assumption | with_reducible refine below_drewN ?_ _ | with_reducible refine Below.drew ?_ | with_reducible refine below_row ?_ (by first | omega | (simp; done) | (simp; omega)) _ | with_reducible refine Below.alloc ?_ (by first | omega | (simp; done) | (simp; omega)) _ | with_reducible refine Below.setCell ?_ (by first | omega | (simp; done) | (simp; omega)) _))) (hb6.mono (by (first | omega | (simp; done) | (simp; omega))))
                 have hs6 := hb6k.size
                 have hlit6 := hlit.below hb6 (Nat.le_refl _)
                 have ho6v := ho6.vw
                 clear ho6
                 go_wp2_with (first | (at_builtin; refine app8 (by rfl) _ _ (by rfl) w.heap.size _ 1 1 [209] (by rfl) hlit6 _ 2 c6 (beL u 2) (by rfl) ho6v (by omega) (by omega) ?_; intro a7 c7 w7 ho7 hg7; have hb7 := below_of_grown (B := wr.heap.size) hg7 hs6 (fun x hx => by injection hx with hx; subst hx; (first | omega | (simp; done) | (simp; omega))); have hb67 := hb6k.trans hb7; have hs7 := hb67.size; have hR7 := hR.keep hb67) | (at_builtin; refine rows_app (by rfl) _ _ (by rfl) w.heap.size a n c (PosL u) (by rfl) (hR7.keep (by (repeat (first | with_reducible exact Below.refl _ _ | with_reducible assumption | with_reducible refine below_drewN ?_ _ | with_reducible refine Below.drew ?_ | with_reducible refine below_row ?_ (by first | omega | (simp; done) | (simp; omega)) _ | with_reducible refine Below.alloc ?_ (by first | omega | (simp; done) | (simp; omega)) _ | with_reducible refine Below.setCell ?_ (by first | omega | (simp; done) | (simp; omega)) _)))) w7.heap.size a7 _ c7 _ (by rfl) (by (repeat (first | with_reducible exact Blk.new _ _ _ | with_reducible assumption | with_reducible refine Blk.newAt (by first | rfl | (simp; done) | (simp; omega)) _ _ | with_reducible refine Blk.alloc ?_ _ | with_reducible refine Blk.drewN ?_ _ | with_reducible refine Blk.drew ?_ | with_reducible refine Blk.other ?_ (by first | omega | (simp; done) | (simp; omega)) _))) (ho7.alloc _) (Or.inr (Or.inr ⟨1, 2, by simp, by omega, by rfl⟩)) (by omega) (by (first | omega | (simp; done) | (simp; omega))) ?_; intro a8 c8 w8 hR8 hb8 hk8 ho8))
                 have hb68 : Below w.heap.size w w8 := Below.trans (b := _) (hbw.trans (Below.trans (b := _) (hb67.mono hsz) (by (repeat (first | with_reducible exact Below.refl _ _ | with_reducible assumption | with_reducible refine below_drewN ?_ _ | with_reducible refine Below.drew ?_ | with_reducible refine below_row ?_ (by first | omega | (simp; done) | (simp; omega)) _ | with_reducible refine Below.alloc ?_ (by first | omega | (simp; done) | (simp; omega)) _ | with_reducible refine Below.setCell ?_ (by first | omega | (simp; done) | (simp; omega)) _))))) hb8
                 go_roundw
                 case rel => exact ⟨2, a8, c8, n + 1, by omega, by go_num, rfl, by omega, by omega, by omega, hR8, hk8 _ _ _ (by decide) ((Blk.below hL hb67 hLl).alloc _), hb68⟩
                 case measure => simp [intOf] <;> omega
              · first | exact absurd hc (by omega) | skip
                all_goals
                 go_wp2_with fail
                 go_roundw
                 case rel => exact ⟨2, a, c, n, by omega, by go_num, rfl, by omega, by omega, by omega, hR, hL, hbw⟩
                 case measure => simp [intOf] <;> omega
            · have q := hL.cell (i := 2) rfl
              clear hn4
              by_cases hc : u < 2147483648
              · first | exact absurd hc (by omega) | skip
                all_goals
                 have hlit := Own.lit1 wr 210 (by omega) (by omega) rfl hsz
                 go_wp2_with fail
                 refine (big_any u (by omega) h1 4 (by omega) _).mono ?_
                 rintro e w6 ⟨a6, c6, rfl, ho6, hb6⟩
                 have hb6k : Below wr.heap.size wr w6 := Below.trans (b := _) (by (repeat (first | with_reducible exact Below.refl _ _ | with_reducible assumption | with_reducible refine below_drewN ?_ _ | with_reducible refine Below.drew ?_ | with_reducible refine below_row ?_ (by first | omega | (simp; done) | (simp; omega)) _ | with_reducible refine Below.alloc ?_ (by first | omega | (simp; done) | (simp; omega)) _ | with_reducible refine Below.setCell ?_ (by first | omega | (simp; done) | (simp; omega)) _))) (hb6.mono (by (first | omega | (simp; done) | (simp; omega))))
                 have hs6 := hb6k.size
                 have hlit6 := hlit.below hb6 (Nat.le_refl _)
                 have ho6v := ho6.vw
                 clear ho6
                 go_wp2_with (first | (at_builtin; refine app8 (by rfl) _ _ (by rfl) w.heap.size _ 1 1 [210] (by rfl) hlit6 _ 4 c6 (beL u 4) (by rfl) ho6v (by omega) (by omega) ?_; intro a7 c7 w7 ho7 hg7; have hb7 := below_of_grown (B := wr.heap.size) hg7 hs6 (fun x hx => by injection hx with hx; subst hx; (first | omega | (simp; done) | (simp; omega))); have hb67 := hb6k.trans hb7; have hs7 := hb67.size; have hR7 := hR.keep hb67) | (at_builtin; refine rows_app (by rfl) _ _ (by rfl) w.heap.size a n c (PosL u) (by rfl) (hR7.keep (by (repeat (first | with_reducible exact Below.refl _ _ | with_reducible assumption | with_reducible refine below_drewN ?_ _ | with_reducible refine Below.drew ?_ | with_reducible refine below_row ?_ (by first | omega | (simp; done) | (simp; omega)) _ | with_reducible refine Below.alloc ?_ (by first | omega | (simp; done) | (simp; omega)) _ | with_reducible refine Below.setCell ?_ (by first | omega | (simp; done) | (simp; omega)) _)))) w7.heap.size a7 _ c7 _ (by rfl) (by (repeat (first | with_reducible exact Blk.new _ _ _ | with_reducible assumption | with_reducible refine Blk.newAt (by first | rfl | (simp; done) | (simp; omega)) _ _ | with_reducible refine Blk.alloc ?_ _ | with_reducible refine Blk.drewN ?_ _ | with_reducible refine Blk.drew ?_ | with_reducible refine Blk.other ?_ (by first | omega | (simp; done) | (simp; omega)) _))) (ho7.alloc _) (Or.inr (Or.inr ⟨2, 4, by simp, by omega, by rfl⟩)) (by omega) (by (first | omega | (simp; done) | (simp; omega))) ?_; intro a8 c8 w8 hR8 hb8 hk8 ho8))
                 have hb68 : Below w.heap.size w w8 := Below.trans (b := _) (hbw.trans (Below.trans (b := _) (hb67.mono hsz) (by (repeat (first | with_reducible exact Below.refl _ _ | with_reducible assumption | with_reducible refine below_drewN ?_ _ | with_reducible refine Below.drew ?_ | with_reducible refine below_row ?_ (by first | omega | (simp; done) | (simp; omega)) _ | with_reducible refine Below.alloc ?_ (by first | omega | (simp; done) | (simp; omega)) _ | with_reducible refine Below.setCell ?_ (by first | omega | (simp; done) | (simp; omega)) _))))) hb8
                 go_roundw
                 case rel => exact ⟨3, a8, c8, n + 1, by omega, by go_num, rfl, by omega, by omega, by omega, hR8, hk8 _ _ _ (by decide) ((Blk.below hL hb67 hLl).alloc _), hb68⟩
                 case measure => simp [intOf] <;> omega
              · first | exact absurd hc (by omega) | skip
                all_goals
                 go_wp2_with fail
                 go_roundw
                 case rel => exact ⟨3, a, c, n, by omega, by go_num, rfl, by omega, by omega, by omega, hR, hL, hbw⟩
                 case measure => simp [intOf] <;> omega
            · have q := hL.cell (i := 3) rfl
              clear hn4
              by_cases hc : u < 9223372036854775808
              · first | exact absurd hc (by omega) | skip
                all_goals
                 have hlit := Own.lit1 wr 211 (by omega) (by omega) rfl hsz
                 go_wp2_with fail
                 refine (big_any u (by omega) h1 8 (by omega) _).mono ?_
                 rintro e w6 ⟨a6, c6, rfl, ho6, hb6⟩
                 have hb6k : Below wr.heap.size wr w6 := Below.trans (b := _) (by (repeat (first | with_reducible exact Below.refl _ _ | with_reducible assumption | with_reducible refine below_drewN ?_ _ | with_reducible refine Below.drew ?_ | with_reducible refine below_row ?_ (by first | omega | (simp; done) | (simp; omega)) _ | with_reducible refine Below.alloc ?_ (by first | omega | (simp; done) | (simp; omega)) _ | with_reducible refine Below.setCell ?_ (by first | omega | (simp; done) | (simp; omega)) _))) (hb6.mono (by (first | omega | (simp; done) | (simp; omega))))
                 have hs6 := hb6k.size
                 have hlit6 := hlit.below hb6 (Nat.le_refl _)
                 have ho6v := ho6.vw
                 clear ho6
                 go_wp2_with (first | (at_builtin; refine app8 (by rfl) _ _ (by rfl) w.heap.size _ 1 1 [211] (by rfl) hlit6 _ 8 c6 (beL u 8) (by rfl) ho6v (by omega) (by omega) ?_; intro a7 c7 w7 ho7 hg7; have hb7 := below_of_grown (B := wr.heap.size) hg7 hs6 (fun x hx => by injection hx with hx; subst hx; (first | omega | (simp; done) | (simp; omega))); have hb67 := hb6k.trans hb7; have hs7 := hb67.size; have hR7 := hR.keep hb67) | (at_builtin; refine rows_app (by rfl) _ _ (by rfl) w.heap.size a n c (PosL u) (by rfl) (hR7.keep (by (repeat (first | with_reducible exact Below.refl _ _ | with_reducible assumption | with_reducible refine below_drewN ?_ _ | with_reducible refine Below.drew ?_ | with_reducible refine below_row ?_ (by first | omega | (simp; done) | (simp; omega)) _ | with_reducible refine Below.alloc ?_ (by first | omega | (simp; done) | (simp; omega)) _ | with_reducible refine Below.setCell ?_ (by first | omega | (simp; done) | (simp; omega)) _)))) w7.heap.size a7 _ c7 _ (by rfl) (by (repeat (first | with_reducible exact Blk.new _ _ _ | with_reducible assumption | with_reducible refine Blk.newAt (by first | rfl | (simp; done) | (simp; omega)) _ _ | with_reducible refine Blk.alloc ?_ _ | with_reducible refine Blk.drewN ?_ _ | with_reducible refine Blk.drew ?_ | with_reducible refine Blk.other ?_ (by first | omega | (simp; done) | (simp; omega)) _))) (ho7.alloc _) (Or.inr (Or.inr ⟨3, 8, by simp, by omega, by rfl⟩)) (by omega) (by (first | omega | (simp; done) | (simp; omega))) ?_; intro a8 c8 w8 hR8 hb8 hk8 ho8))
                 have hb68 : Below w.heap.size w w8 := Below.trans (b := _) (hbw.trans (Below.trans (b := _) (hb67.mono hsz) (by (repeat (first | with_reducible exact Below.refl _ _ | with_reducible assumption | with_reducible refine below_drewN ?_ _ | with_reducible refine Below.drew ?_ | with_reducible refine below_row ?_ (by first | omega | (simp; done) | (simp; omega)) _ | with_reducible refine Below.alloc ?_ (by first | omega | (simp; done) | (simp; omega)) _ | with_reducible refine Below.setCell ?_ (by first | omega | (simp; done) | (simp; omega)) _))))) hb8
                 go_roundw
                 case rel => exact ⟨4, a8, c8, n + 1, by omega, by go_num, rfl, by omega, by omega, by omega, hR8, hk8 _ _ _ (by decide) ((Blk.below hL hb67 hLl).alloc _), hb68⟩
                 case measure => simp [intOf] <;> omega
              · first | exact absurd hc (by omega) | skip
                all_goals
                 go_wp2_with fail
                 go_roundw
                 case rel => exact ⟨4, a, c, n, by omega, by go_num, rfl, by omega, by omega, by omega, hR, hL, hbw⟩
                 case measure => simp [intOf] <;> omega
            · have hn0 := hn4 rfl
              go_wp2_with fail
              refine (pickF b (n : Int) (by omega) (by omega) F _ (hB.below hbw hFl)).mono ?_
              rintro e w2 ⟨k, rfl, hk0, hk1, hk2, hB2, hs2, v, rfl⟩
              obtain ⟨q, rfl⟩ : ∃ q : Nat, k = (q : Int) := ⟨k.toNat, by omega⟩
              have hq : q < n := by have := hk2 (by omega); omega
              clear hk2 hk1
              have hRs := hR.set (i := 0) hFl v
              obtain ⟨bb, off, a9, n9, c9, l9, rfl, q0, ho9, hL9⟩ := hRs.at_ q hq
              go_wp2_with fail
              go_ret
              exact ⟨a9, n9, c9, l9, rfl, ho9, hL9, hB2, (Kp.of_below hbw).trans (Kp.set F _ wr 0 v)⟩
    · go_enter Tryd.func29, Tryd.ntmps29
      go_wp2_with fail
      refine (HS.out w).mono ?_
      rintro e w1 ⟨a1, c1, rfl, hown, hb1⟩
      have hbw1 : Below w.heap.size w w1 := Below.trans (b := _) (by (repeat (first | with_reducible exact Below.refl _ _ | with_reducible assumption | with_reducible refine below_drewN ?_ _ | with_reducible refine Below.drew ?_ | with_reducible refine below_row ?_ (by first | omega | (simp; done) | (simp; omega)) _ | with_reducible refine Below.alloc ?_ (by first | omega | (simp; done) | (simp; omega)) _ | with_reducible refine Below.setCell ?_ (by first | omega | (simp; done) | (simp; omega)) _))) (hb1.mono (by (first | omega | (simp; done) | (simp; omega))))
      have hown1 := owns_mono (B' := w.heap.size) hown (by (first | omega | (simp; done) | (simp; omega)))
      have hR1 := (Rows.nil w w.heap.size (PosL u)).keep ((((Below.refl _ _).alloc (Nat.le_refl _) _ : Below w.heap.size w _)).trans (hb1.mono (by (first | omega | (simp; done) | (simp; omega)))))
      have hlen := hown1.1
      clear hown hb1
      go_wp2_with fail
      go_loopw [11, 79] (fun v i wr => ∃ (j : Nat) (a : Option Addr) (c n : Nat), j ≤ m ∧ i = .int .i64 j ∧ v = .slice a n c ∧ n ≤ 1 + j ∧ j ≤ n ∧ Rows wr w.heap.size a n c (PosL u) ∧ wr.ownsRow w.heap.size 76 2 (.slice a1 m c1) m (fcells (may u formsI)) ∧ Below w.heap.size w wr) (fun _ i _ => m - (intOf i).toNat)
      case atStart => exact ⟨0, none, 0, 0, by omega, rfl, rfl, by omega, by omega, hR1, hown1, hbw1⟩
      case round =>
        obtain ⟨j, a, c, n, hj, rfl, rfl, hn, hjn, hR, hown, hbw⟩ := hrel
        have hsz := hbw.size
        by_cases hlt : j < m
        · have hje : j < (may u formsI).length := by rw [← HM.out]; exact hlt
          obtain ⟨⟨z, s⟩, hf⟩ : ∃ f, f = (may u formsI)[j] := ⟨_, rfl⟩
          have hfm : (z, s) ∈ may u formsI := by rw [hf]; exact List.getElem_mem _
          obtain ⟨hz0, hz1, hs8⟩ := HF.out (z, s) (List.mem_filter.1 hfm).1
          obtain ⟨bb, off, rfl, q0, q1⟩ := (Rd.of_owns hown).form_at j hje _ hf
          simp only at q0 q1 hz0 hz1 hs8
          have HFM := Lib.hid hfm
          clear hf hfm
          go_wp2_with fail
          refine (headed_any z hz0 hz1 s hs8 u h0 h1 _).mono ?_
          rintro e w3 ⟨a3, c3, rfl, ho3, hb3⟩
          have hb3k : Below wr.heap.size wr w3 := Below.trans (b := _) (by (repeat (first | with_reducible exact Below.refl _ _ | with_reducible assumption | with_reducible refine below_drewN ?_ _ | with_reducible refine Below.drew ?_ | with_reducible refine below_row ?_ (by first | omega | (simp; done) | (simp; omega)) _ | with_reducible refine Below.alloc ?_ (by first | omega | (simp; done) | (simp; omega)) _ | with_reducible refine Below.setCell ?_ (by first | omega | (simp; done) | (simp; omega)) _))) (hb3.mono (by (first | omega | (simp; done) | (simp; omega))))
          have hs3 := hb3k.size
          have ho3m := ho3.mono (B' := w.heap.size) (by (first | omega | (simp; done) | (simp; omega)))
          have hR3 := hR.keep hb3k
          have hown3 := owns_below hown hb3k
          clear ho3
          go_wp2_with (at_builtin; refine rows_app (by rfl) _ _ (by rfl) w.heap.size a n c (PosL u) (by rfl) (hR3.keep (by (repeat (first | with_reducible exact Below.refl _ _ | with_reducible assumption | with_reducible refine below_drewN ?_ _ | with_reducible refine Below.drew ?_ | with_reducible refine below_row ?_ (by first | omega | (simp; done) | (simp; omega)) _ | with_reducible refine Below.alloc ?_ (by first | omega | (simp; done) | (simp; omega)) _ | with_reducible refine Below.setCell ?_ (by first | omega | (simp; done) | (simp; omega)) _)))) w3.heap.size a3 _ c3 _ (by rfl) (by (repeat (first | with_reducible exact Blk.new _ _ _ | with_reducible assumption | with_reducible refine Blk.newAt (by first | rfl | (simp; done) | (simp; omega)) _ _ | with_reducible refine Blk.alloc ?_ _ | with_reducible refine Blk.drewN ?_ _ | with_reducible refine Blk.drew ?_ | with_reducible refine Blk.other ?_ (by first | omega | (simp; done) | (simp; omega)) _))) (ho3m.alloc _) (Or.inr (Or.inl ⟨(z, s), HFM.out, by rfl⟩)) (by omega) (by (first | omega | (simp; done) | (simp; omega))) ?_; intro a8 c8 w8 hR8 hb8 hk8 ho8)
          have hb68 : Below w.heap.size w w8 := Below.trans (b := _) (hbw.trans (Below.trans (b := _) (hb3k.mono hsz) (by (repeat (first | with_reducible exact Below.refl _ _ | with_reducible assumption | with_reducible refine below_drewN ?_ _ | with_reducible refine Below.drew ?_ | with_reducible refine below_row ?_ (by first | omega | (simp; done) | (simp; omega)) _ | with_reducible refine Below.alloc ?_ (by first | omega | (simp; done) | (simp; omega)) _ | with_reducible refine Below.setCell ?_ (by first | omega | (simp; done) | (simp; omega)) _))))) hb8
          go_roundw
          case rel => exact ⟨j + 1, a8, c8, n + 1, by omega, by go_num, rfl, by omega, by omega, hR8, ho8 _ _ _ _ _ _ (by decide) (owns_below hown3 (by (repeat (first | with_reducible exact Below.refl _ _ | with_reducible assumption | with_reducible refine below_drewN ?_ _ | with_reducible refine Below.drew ?_ | with_reducible refine below_row ?_ (by first | omega | (simp; done) | (simp; omega)) _ | with_reducible refine Below.alloc ?_ (by first | omega | (simp; done) | (simp; omega)) _ | with_reducible refine Below.setCell ?_ (by first | omega | (simp; done) | (simp; omega)) _)))), hb68⟩
          case measure => simp [intOf] <;> omega
        · obtain rfl : j = m := by omega
          obtain ⟨wq, rfl⟩ : ∃ wq, wq = wr := ⟨_, rfl⟩
          obtain ⟨aq, rfl⟩ : ∃ aq, aq = a := ⟨_, rfl⟩
          obtain ⟨cq, rfl⟩ : ∃ cq, cq = c := ⟨_, rfl⟩
          obtain ⟨nq, rfl⟩ : ∃ nq, nq = n := ⟨_, rfl⟩
          have hRq := hR
          have hbwq := hbw
          have hszq := hsz
          clear hR hbw hsz hown
          go_wp2_with fail
          go_loopw [11, 92] (fun v i wr => ∃ (j : Nat) (a : Option Addr) (c n : Nat), j ≤ 4 ∧ i = .int .i64 j ∧ v = .slice a n c ∧ n ≤ 10 + j ∧ 0 < n ∧ (j = 4 → 0 < n) ∧ Rows wr w.heap.size a n c (PosL u) ∧ Blk wr wq.heap.size 3 #[.int .i64 1, .int .i64 2, .int .i64 4, .int .i64 8] ∧ Below w.heap.size w wr) (fun _ i _ => 4 - (intOf i).toNat)
          case atStart => exact ⟨0, aq, cq, nq, by omega, rfl, rfl, by omega, by omega, by omega, hRq.keep (by (repeat (first | with_reducible exact Below.refl _ _ | with_reducible assumption | with_reducible refine below_drewN ?_ _ | with_reducible refine Below.drew ?_ | with_reducible refine below_row ?_ (by first | omega | (simp; done) | (simp; omega)) _ | with_reducible refine Below.alloc ?_ (by first | omega | (simp; done) | (simp; omega)) _ | with_reducible refine Below.setCell ?_ (by first | omega | (simp; done) | (simp; omega)) _))), Blk.new _ _ _, Below.trans (b := _) hbwq (by (repeat (first | with_reducible exact Below.refl _ _ | with_reducible assumption | with_reducible refine below_drewN ?_ _ | with_reducible refine Below.drew ?_ | with_reducible refine below_row ?_ (by first | omega | (simp; done) | (simp; omega)) _ | with_reducible refine Below.alloc ?_ (by first | omega | (simp; done) | (simp; omega)) _ | with_reducible refine Below.setCell ?_ (by first | omega | (simp; done) | (simp; omega)) _)))⟩
          case round =>
            obtain ⟨j, a, c, n, hj, rfl, rfl, hn, hnp, hn4, hR, hL, hbw⟩ := hrel
            have hsz := hbw.size
            have hLl := hL.lt
            obtain rfl | rfl | rfl | rfl | rfl : j = 0 ∨ j = 1 ∨ j = 2 ∨ j = 3 ∨ j = 4 := by omega
            · have q := hL.cell (i := 0) rfl
              clear hn4
              by_cases hc : u < 128
              · first | exact absurd hc (by omega) | skip
                all_goals
                 have hlit := Own.lit1 wr 208 (by omega) (by omega) rfl hsz
                 go_wp2_with fail
                 refine (big_any u (by omega) h1 1 (by omega) _).mono ?_
                 rintro e w6 ⟨a6, c6, rfl, ho6, hb6⟩
                 have hb6k : Below wr.heap.size wr w6 := Below.trans (b := _) (by (repeat (first | with_reducible exact Below.refl _ _ | with_reducible assumption | with_reducible refine below_drewN ?_ _ | with_reducible refine Below.drew ?_ | with_reducible refine below_row ?_ (by first | omega | (simp; done) | (simp; omega)) _ | with_reducible refine Below.alloc ?_ (by first | omega | (simp; done) | (simp; omega)) _ | with_reducible refine Below.setCell ?_ (by first | omega | (simp; done) | (simp; omega)) _))) (hb6.mono (by (first | omega | (simp; done) | (simp; omega))))
                 have hs6 := hb6k.size
                 have hlit6 := hlit.below hb6 (Nat.le_refl _)
                 have ho6v := ho6.vw
                 clear ho6
                 go_wp2_with (first | (at_builtin; refine app8 (by rfl) _ _ (by rfl) w.heap.size _ 1 1 [208] (by rfl) hlit6 _ 1 c6 (beL u 1) (by rfl) ho6v (by omega) (by omega) ?_; intro a7 c7 w7 ho7 hg7; have hb7 := below_of_grown (B := wr.heap.size) hg7 hs6 (fun x hx => by injection hx with hx; subst hx; (first | omega | (simp; done) | (simp; omega))); have hb67 := hb6k.trans hb7; have hs7 := hb67.size; have hR7 := hR.keep hb67) | (at_builtin; refine rows_app (by rfl) _ _ (by rfl) w.heap.size a n c (PosL u) (by rfl) (hR7.keep (by (repeat (first | with_reducible exact Below.refl _ _ | with_reducible assumption | with_reducible refine below_drewN ?_ _ | with_reducible refine Below.drew ?_ | with_reducible refine below_row ?_ (by first | omega | (simp; done) | (simp; omega)) _ | with_reducible refine Below.alloc ?_ (by first | omega | (simp; done) | (simp; omega)) _ | with_reducible refine Below.setCell ?_ (by first | omega | (simp; done) | (simp; omega)) _)))) w7.heap.size a7 _ c7 _ (by rfl) (by (repeat (first | with_reducible exact Blk.new _ _ _ | with_reducible assumption | with_reducible refine Blk.newAt (by first | rfl | (simp; done) | (simp; omega)) _ _ | with_reducible refine Blk.alloc ?_ _ | with_reducible refine Blk.drewN ?_ _ | with_reducible refine Blk.drew ?_ | with_reducible refine Blk.other ?_ (by first | omega | (simp; done) | (simp; omega)) _))) (ho7.alloc _) (Or.inr (Or.inr ⟨0, 1, by simp, by omega, by rfl⟩)) (by omega) (by (first | omega | (simp; done) | (simp; omega))) ?_; intro a8 c8 w8 hR8 hb8 hk8 ho8))
                 have hb68 : Below w.heap.size w w8 := Below.trans (b := _) (hbw.trans (Below.trans (b := _) (hb67.mono hsz) (by (repeat (first | with_reducible exact Below.refl _ _ | with_reducible assumption | with_reducible refine below_drewN ?_ _ | with_reducible refine Below.drew ?_ | with_reducible refine below_row ?_ (by first | omega | (simp; done) | (simp; omega)) _ | with_reducible refine Below.alloc ?_ (by first | omega | (simp; done) | (simp; omega)) _ | with_reducible refine Below.setCell ?_ (by first | omega | (simp; done) | (simp; omega)) _))))) hb8
                 go_roundw
                 case rel => exact ⟨1, a8, c8, n + 1, by omega, by go_num, rfl, by omega, by omega, by omega, hR8, hk8 _ _ _ (by decide) ((Blk.below hL hb67 hLl).alloc _), hb68⟩
                 case measure => simp [intOf] <;> omega
              · first | exact absurd hc (by omega) | skip
                all_goals
                 go_wp2_with fail
                 go_roundw
                 case rel => exact ⟨1, a, c, n, by omega, by go_num, rfl, by omega, by omega, by omega, hR, hL, hbw⟩
                 case measure => simp [intOf] <;> omega
            · have q := hL.cell (i := 1) rfl
              clear hn4
              by_cases hc : u < 32768
              · first | exact absurd hc (by omega) | skip
                all_goals
                 have hlit := Own.lit1 wr 209 (by omega) (by omega) rfl hsz
                 go_wp2_with fail
                 refine (big_any u (by omega) h1 2 (by omega) _).mono ?_
                 rintro e w6 ⟨a6, c6, rfl, ho6, hb6⟩
                 have hb6k : Below wr.heap.size wr w6 := Below.trans (b := _) (by (repeat (first | with_reducible exact Below.refl _ _ | with_reducible assumption | with_reducible refine below_drewN ?_ _ | with_reducible refine Below.drew ?_ | with_reducible refine below_row ?_ (by first | omega | (simp; done) | (simp; omega)) _ | with_reducible refine Below.alloc ?_ (by first | omega | (simp; done) | (simp; omega)) _ | with_reducible refine Below.setCell ?_ (by first | omega | (simp; done) | (simp; omega)) _))) (hb6.mono (by (first | omega | (simp; done) | (simp; omega))))
                 have hs6 := hb6k.size
                 have hlit6 := hlit.below hb6 (Nat.le_refl _)
                 have ho6v := ho6.vw
                 clear ho6
                 go_wp2_with (first | (at_builtin; refine app8 (by rfl) _ _ (by rfl) w.heap.size _ 1 1 [209] (by rfl) hlit6 _ 2 c6 (beL u 2) (by rfl) ho6v (by omega) (by omega) ?_; intro a7 c7 w7 ho7 hg7; have hb7 := below_of_grown (B := wr.heap.size) hg7 hs6 (fun x hx => by injection hx with hx; subst hx; (first | omega | (simp; done) | (simp; omega))); have hb67 := hb6k.trans hb7; have hs7 := hb67.size; have hR7 := hR.keep hb67) | (at_builtin; refine rows_app (by rfl) _ _ (by rfl) w.heap.size a n c (PosL u) (by rfl) (hR7.keep (by (repeat (first | with_reducible exact Below.refl _ _ | with_reducible assumption | with_reducible refine below_drewN ?_ _ | with_reducible refine Below.drew ?_ | with_reducible refine below_row ?_ (by first | omega | (simp; done) | (simp; omega)) _ | with_reducible refine Below.alloc ?_ (by first | omega | (simp; done) | (simp; omega)) _ | with_reducible refine Below.setCell ?_ (by first | omega | (simp; done) | (simp; omega)) _)))) w7.heap.size a7 _ c7 _ (by rfl) (by (repeat (first | with_reducible exact Blk.new _ _ _ | with_reducible assumption | with_reducible refine Blk.newAt (by first | rfl | (simp; done) | (simp; omega)) _ _ | with_reducible refine Blk.alloc ?_ _ | with_reducible refine Blk.drewN ?_ _ | with_reducible refine Blk.drew ?_ | with_reducible refine Blk.other ?_ (by first | omega | (simp; done) | (simp; omega)) _))) (ho7.alloc _) (Or.inr (Or.inr ⟨1, 2, by simp, by omega, by rfl⟩)) (by omega) (by (first | omega | (simp; done) | (simp; omega))) ?_; intro a8 c8 w8 hR8 hb8 hk8 ho8))
                 have hb68 : Below w.heap.size w w8 := Below.trans (b := _) (hbw.trans (Below.trans (b := _) (hb67.mono hsz) (by (repeat (first | with_reducible exact Below.refl _ _ | with_reducible assumption | with_reducible refine below_drewN ?_ _ | with_reducible refine Below.drew ?_ | with_reducible refine below_row ?_ (by first | omega | (simp; done) | (simp; omega)) _ | with_reducible refine Below.alloc ?_ (by first | omega | (simp; done) | (simp; omega)) _ | with_reducible refine Below.setCell ?_ (by first | omega | (simp; done) | (simp; omega)) _))))) hb8
                 go_roundw
                 case rel => exact ⟨2, a8, c8, n + 1, by omega, by go_num, rfl, by omega, by omega, by omega, hR8, hk8 _ _ _ (by decide) ((Blk.below hL hb67 hLl).alloc _), hb68⟩
                 case measure => simp [intOf] <;> omega
              · first | exact absurd hc (by omega) | skip
                all_goals
                 go_wp2_with fail
                 go_roundw
                 case rel => exact ⟨2, a, c, n, by omega, by go_num, rfl, by omega, by omega, by omega, hR, hL, hbw⟩
                 case measure => simp [intOf] <;> omega
            · have q := hL.cell (i := 2) rfl
              clear hn4
              by_cases hc : u < 2147483648
              · first | exact absurd hc (by omega) | skip
                all_goals
                 have hlit := Own.lit1 wr 210 (by omega) (by omega) rfl hsz
                 go_wp2_with fail
                 refine (big_any u (by omega) h1 4 (by omega) _).mono ?_
                 rintro e w6 ⟨a6, c6, rfl, ho6, hb6⟩
                 have hb6k : Below wr.heap.size wr w6 := Below.trans (b := _) (by (repeat (first | with_reducible exact Below.refl _ _ | with_reducible assumption | with_reducible refine below_drewN ?_ _ | with_reducible refine Below.drew ?_ | with_reducible refine below_row ?_ (by first | omega | (simp; done) | (simp; omega)) _ | with_reducible refine Below.alloc ?_ (by first | omega | (simp; done) | (simp; omega)) _ | with_reducible refine Below.setCell ?_ (by first | omega | (simp; done) | (simp; omega)) _))) (hb6.mono (by (first | omega | (simp; done) | (simp; omega))))
                 have hs6 := hb6k.size
                 have hlit6 := hlit.below hb6 (Nat.le_refl _)
                 have ho6v := ho6.vw
                 clear ho6
                 go_wp2_with (first | (at_builtin; refine app8 (by rfl) _ _ (by rfl) w.heap.size _ 1 1 [210] (by rfl) hlit6 _ 4 c6 (beL u 4) (by rfl) ho6v (by omega) (by omega) ?_; intro a7 c7 w7 ho7 hg7; have hb7 := below_of_grown (B := wr.heap.size) hg7 hs6 (fun x hx => by injection hx with hx; subst hx; (first | omega | (simp; done) | (simp; omega))); have hb67 := hb6k.trans hb7; have hs7 := hb67.size; have hR7 := hR.keep hb67) | (at_builtin; refine rows_app (by rfl) _ _ (by rfl) w.heap.size a n c (PosL u) (by rfl) (hR7.keep (by (repeat (first | with_reducible exact Below.refl _ _ | with_reducible assumption | with_reducible refine below_drewN ?_ _ | with_reducible refine Below.drew ?_ | with_reducible refine below_row ?_ (by first | omega | (simp; done) | (simp; omega)) _ | with_reducible refine Below.alloc ?_ (by first | omega | (simp; done) | (simp; omega)) _ | with_reducible refine Below.setCell ?_ (by first | omega | (simp; done) | (simp; omega)) _)))) w7.heap.size a7 _ c7 _ (by rfl) (by (repeat (first | with_reducible exact Blk.new _ _ _ | with_reducible assumption | with_reducible refine Blk.newAt (by first | rfl | (simp; done) | (simp; omega)) _ _ | with_reducible refine Blk.alloc ?_ _ | with_reducible refine Blk.drewN ?_ _ | with_reducible refine Blk.drew ?_ | with_reducible refine Blk.other ?_ (by first | omega | (simp; done) | (simp; omega)) _))) (ho7.alloc _) (Or.inr (Or.inr ⟨2, 4, by simp, by omega, by rfl⟩)) (by omega) (by (first | omega | (simp; done) | (simp; omega))) ?_; intro a8 c8 w8 hR8 hb8 hk8 ho8))
                 have hb68 : Below w.heap.size w w8 := Below.trans (b := _) (hbw.trans (Below.trans (b := _) (hb67.mono hsz) (by (repeat (first | with_reducible exact Below.refl _ _ | with_reducible assumption | with_reducible refine below_drewN ?_ _ | with_reducible refine Below.drew ?_ | with_reducible refine below_row ?_ (by first | omega | (simp; done) | (simp; omega)) _ | with_reducible refine Below.alloc ?_ (by first | omega | (simp; done) | (simp; omega)) _ | with_reducible refine Below.setCell ?_ (by first | omega | (simp; done) | (simp; omega)) _))))) hb8
                 go_roundw
                 case rel => exact ⟨3, a8, c8, n + 1, by omega, by go_num, rfl, by omega, by omega, by omega, hR8, hk8 _ _ _ (by decide) ((Blk.below hL hb67 hLl).alloc _), hb68⟩
                 case measure => simp [intOf] <;> omega
              · first | exact absurd hc (by omega) | skip
                all_goals
                 go_wp2_with fail
                 go_roundw
                 case rel => exact ⟨3, a, c, n, by omega, by go_num, rfl, by omega, by omega, by omega, hR, hL, hbw⟩
                 case measure => simp [intOf] <;> omega
            · have q := hL.cell (i := 3) rfl
              clear hn4
              by_cases hc : u < 9223372036854775808
              · first | exact absurd hc (by omega) | skip
                all_goals
                 have hlit := Own.lit1 wr 211 (by omega) (by omega) rfl hsz
                 go_wp2_with fail
                 refine (big_any u (by omega) h1 8 (by omega) _).mono ?_
                 rintro e w6 ⟨a6, c6, rfl, ho6, hb6⟩
                 have hb6k : Below wr.heap.size wr w6 := Below.trans (b := _) (by (repeat (first | with_reducible exact Below.refl _ _ | with_reducible assumption | with_reducible refine below_drewN ?_ _ | with_reducible refine Below.drew ?_ | with_reducible refine below_row ?_ (by first | omega | (simp; done) | (simp; omega)) _ | with_reducible refine Below.alloc ?_ (by first | omega | (simp; done) | (simp; omega)) _ | with_reducible refine Below.setCell ?_ (by first | omega | (simp; done) | (simp; omega)) _))) (hb6.mono (by (first | omega | (simp; done) | (simp; omega))))
                 have hs6 := hb6k.size
                 have hlit6 := hlit.below hb6 (Nat.le_refl _)
                 have ho6v := ho6.vw
                 clear ho6
                 go_wp2_with (first | (at_builtin; refine app8 (by rfl) _ _ (by rfl) w.heap.size _ 1 1 [211] (by rfl) hlit6 _ 8 c6 (beL u 8) (by rfl) ho6v (by omega) (by omega) ?_; intro a7 c7 w7 ho7 hg7; have hb7 := below_of_grown (B := wr.heap.size) hg7 hs6 (fun x hx => by injection hx with hx; subst hx; (first | omega | (simp; done) | (simp; omega))); have hb67 := hb6k.trans hb7; have hs7 := hb67.size; have hR7 := hR.keep hb67) | (at_builtin; refine rows_app (by rfl) _ _ (by rfl) w.heap.size a n c (PosL u) (by rfl) (hR7.keep (by (repeat (first | with_reducible exact Below.refl _ _ | with_reducible assumption | with_reducible refine below_drewN ?_ _ | with_reducible refine Below.drew ?_ | with_reducible refine below_row ?_ (by first | omega | (simp; done) | (simp; omega)) _ | with_reducible refine Below.alloc ?_ (by first | omega | (simp; done) | (simp; omega)) _ | with_reducible refine Below.setCell ?_ (by first | omega | (simp; done) | (simp; omega)) _)))) w7.heap.size a7 _ c7 _ (by rfl) (by (repeat (first | with_reducible exact Blk.new _ _ _ | with_reducible assumption | with_reducible refine Blk.newAt (by first | rfl | (simp; done) | (simp; omega)) _ _ | with_reducible refine Blk.alloc ?_ _ | with_reducible refine Blk.drewN ?_ _ | with_reducible refine Blk.drew ?_ | with_reducible refine Blk.other ?_ (by first | omega | (simp; done) | (simp; omega)) _))) (ho7.alloc _) (Or.inr (Or.inr ⟨3, 8, by simp, by omega, by rfl⟩)) (by omega) (by (first | omega | (simp; done) | (simp; omega))) ?_; intro a8 c8 w8 hR8 hb8 hk8 ho8))
                 have hb68 : Below w.heap.size w w8 := Below.trans (b := _) (hbw.trans (Below.trans (b := _) (hb67.mono hsz) (by (repeat (first | with_reducible exact Below.refl _ _ | with_reducible assumption | with_reducible refine below_drewN ?_ _ | with_reducible refine Below.drew ?_ | with_reducible refine below_row ?_ (by first | omega | (simp; done) | (simp; omega)) _ | with_reducible refine Below.alloc ?_ (by first | omega | (simp; done) | (simp; omega)) _ | with_reducible refine Below.setCell ?_ (by first | omega | (simp; done) | (simp; omega)) _))))) hb8
                 go_roundw
                 case rel => exact ⟨4, a8, c8, n + 1, by omega, by go_num, rfl, by omega, by omega, by omega, hR8, hk8 _ _ _ (by decide) ((Blk.below hL hb67 hLl).alloc _), hb68⟩
                 case measure => simp [intOf] <;> omega
              · first | exact absurd hc (by omega) | skip
                all_goals
                 go_wp2_with fail
                 go_roundw
                 case rel => exact ⟨4, a, c, n, by omega, by go_num, rfl, by omega, by omega, by omega, hR, hL, hbw⟩
                 case measure => simp [intOf] <;> omega
            · have hn0 := hn4 rfl
              go_wp2_with fail
              refine (pickF b (n : Int) (by omega) (by omega) F _ (hB.below hbw hFl)).mono ?_
              rintro e w2 ⟨k, rfl, hk0, hk1, hk2, hB2, hs2, v, rfl⟩
              obtain ⟨q, rfl⟩ : ∃ q : Nat, k = (q : Int) := ⟨k.toNat, by omega⟩
              have hq : q < n := by have := hk2 (by omega); omega
              clear hk2 hk1
              have hRs := hR.set (i := 0) hFl v
              obtain ⟨bb, off, a9, n9, c9, l9, rfl, q0, ho9, hL9⟩ := hRs.at_ q hq
              go_wp2_with fail
              go_ret
              exact ⟨a9, n9, c9, l9, rfl, ho9, hL9, hB2, (Kp.of_below hbw).trans (Kp.set F _ wr 0 v)⟩
end Go.Proofs.YtdncfolehkhjhaaDoor
