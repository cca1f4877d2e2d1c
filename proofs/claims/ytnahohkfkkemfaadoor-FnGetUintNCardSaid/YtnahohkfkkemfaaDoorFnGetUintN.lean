/- THE WALK of laws.FnGetUintN. -/
import Derived.Test.YtnahohkfkkemfaaDoorGetNum
namespace Go.Proofs.YtnahohkfkkemfaaDoor
open Go.RowKit
set_option linter.unusedVariables false
set_option linter.unusedSimpArgs false

theorem fnGetUintN_all {k num ext : Int} {t : ByteArray} {ks : List Pk} {x : List Int} (hf : (Pk.mk k num t ext ks).fits) (h0 : 0 ≤ num) (h1 : num < 18446744073709551616) (hx : (Pk.mk k num t ext ks).Enc x) :
    (fitU k num = true → ∀ l, dUint (x ++ l) = some (num, x.length)) ∧ (fitU k num = false → ∀ l, dUint (x ++ l) = none) ∧ ∀ q, q < x.length → dUint (x.take q) = none := by
  by_cases hk : k = 2 ∨ k = 3
  · have h := enc_leaf (by omega) hx
    have hh : (k = 2 ∧ 9223372036854775808 ≤ num ∧ NegL num x) ∨ ((k = 2 ∧ num < 9223372036854775808 ∨ k = 3) ∧ PosL num x) := by
      rcases h with ⟨h, _⟩ | ⟨h, _⟩ | h | h | ⟨h, _⟩ | ⟨h, _⟩ | ⟨h, _⟩ | ⟨h, _⟩ | ⟨h, _⟩ | ⟨h, _⟩ | ⟨h, _⟩
      · omega
      · omega
      · exact .inl h
      · exact .inr h
      all_goals omega
    rcases hh with ⟨hk2, hn, hh⟩ | ⟨hk2, hh⟩
    · obtain ⟨g, c⟩ := dUint_neg num h0 h1 x hn hh
      exact ⟨fun h => absurd h (by unfold fitU; simp; omega), fun _ => g, c⟩
    · obtain ⟨g, c⟩ := dUint_pos num h0 h1 x h1 hh
      exact ⟨fun _ => g, fun h => absurd h (by unfold fitU; simp; omega), c⟩
  · obtain ⟨z, r, rfl, hz⟩ := enc_hd hf h0 h1 hx
    refine ⟨fun h => absurd h (by unfold fitU; simp; omega), fun _ l => dUint_kind k z _ hk hz, fun q _ => ?_⟩
    cases q with
    | zero => exact dUint_nil
    | succ q => exact dUint_kind k z _ hk hz
theorem fnGetUintN_yes {k num ext : Int} {t : ByteArray} {ks : List Pk} {x : List Int} (hf : (Pk.mk k num t ext ks).fits) (h0 : 0 ≤ num) (h1 : num < 18446744073709551616) (hb : fitU k num = true) (hx : (Pk.mk k num t ext ks).Enc x) (l : List Int) : dUint (x ++ l) = some (num, x.length) := (fnGetUintN_all hf h0 h1 hx).1 hb l
theorem fnGetUintN_no {k num ext : Int} {t : ByteArray} {ks : List Pk} {x : List Int} (hf : (Pk.mk k num t ext ks).fits) (h0 : 0 ≤ num) (h1 : num < 18446744073709551616) (hb : fitU k num = false) (hx : (Pk.mk k num t ext ks).Enc x) (l : List Int) : dUint (x ++ l) = none := (fnGetUintN_all hf h0 h1 hx).2.1 hb l
theorem fnGetUintN_cut {k num ext : Int} {t : ByteArray} {ks : List Pk} {x : List Int} (hf : (Pk.mk k num t ext ks).fits) (h0 : 0 ≤ num) (h1 : num < 18446744073709551616) (hx : (Pk.mk k num t ext ks).Enc x) (q : Nat) (hq : q < x.length) : dUint (x.take q) = none := (fnGetUintN_all hf h0 h1 hx).2.2 q hq
set_option maxRecDepth 100000 in
set_option maxHeartbeats 8000000 in
theorem fnGetUintN_walk {p : Pk} {k num ext : Int} {t : ByteArray} {a : Option Addr} {n c : Nat} (s : Int) (hs0 : 0 ≤ s) (hs1 : s < 18446744073709551616) (sh : Bool) (a0 : Option Addr) (m0 c0 : Nat) (l : List Int) (cut : Int) (hc0 : -9223372036854775808 ≤ cut) (hc1 : cut < 9223372036854775808)
    (w : World) (h : PkAt w p (pkV k num t ext a n c)) (hv : Vw w a0 m0 c0 l) (hg : Gl w) :
    Calls Tryd.prog 7 #[gvV k num t ext a n c s sh a0 m0 c0 cut] w fun e w' => e = .returned (.bool true) ∧ Below w.heap.size w w' := by
  have HW := Lib.hid h
  have HV := Lib.hid hv
  have HG := Lib.hid hg
  have hfz := fits16_any k num t ext a n c s sh a0 m0 c0 cut
  have HFZ := Lib.hid hfz
  have hml := hv.len
  clear h hv hg hfz
  unfold gvV at *
  go_enter Tryd.func7, Tryd.ntmps7
  go_wp2_with fail
  refine (HFZ.out _).mono ?_
  rintro e w1 ⟨rfl, hb1⟩
  have hbw1 : Below w.heap.size w w1 := Below.trans (b := _) (by (repeat (first | with_reducible exact Below.refl _ _ | with_reducible assumption | with_reducible refine below_drewN ?_ _ | with_reducible refine Below.drew ?_ | with_reducible refine below_row ?_ (by first | omega | (simp; done) | (simp; omega)) _ | with_reducible refine Below.alloc ?_ (by first | omega | (simp; done) | (simp; omega)) _ | with_reducible refine Below.setCell ?_ (by first | omega | (simp; done) | (simp; omega)) _))) (hb1.mono (by (first | omega | (simp; done) | (simp; omega))))
  have hBg1 := (Blk.new w 28 #[.int .i64 k, .int .u64 num, .string t, .int .i64 ext, .slice a n c, .int .u64 s, .bool sh, .slice a0 m0 c0, .int .i64 cut]).below hb1 (by simp)
  have hs1' : w.heap.size + 1 ≤ w1.heap.size := by have := hb1.size; simpa using this
  clear hb1
  by_cases hbig : ¬ m0 ≤ 2147483647
  · have e1 : decide (m0 ≤ 2147483647) = false := by simpa using hbig
    rw [e1]
    clear hbig e1
    go_wp2_with fail
    go_ret
    exact ⟨rfl, hbw1⟩
  have hbig2 : m0 ≤ 2147483647 := by omega
  have e1 : decide (m0 ≤ 2147483647) = true := by simpa using hbig2
  rw [e1]
  clear e1 hbig
  have hl := Own.lit 5 w1 [5] (by simp) (by simp)
  go_wp2_with fail
  refine (getUintN_good _ 1 1 [5] (by simp) 5 1 (by simp [dUint]) (by omega) _ hl.vw).mono ?_
  rintro e w2 ⟨a2, c2, rfl, hv2, hb2⟩
  have hbq2 : Below w1.heap.size w1 w2 := Below.trans (b := _) (by (repeat (first | with_reducible exact Below.refl _ _ | with_reducible assumption | with_reducible refine below_drewN ?_ _ | with_reducible refine Below.drew ?_ | with_reducible refine below_row ?_ (by first | omega | (simp; done) | (simp; omega)) _ | with_reducible refine Below.alloc ?_ (by first | omega | (simp; done) | (simp; omega)) _ | with_reducible refine Below.setCell ?_ (by first | omega | (simp; done) | (simp; omega)) _))) (hb2.mono (by (first | omega | (simp; done) | (simp; omega))))
  have hbw2 : Below w.heap.size w w2 := hbw1.trans (hbq2.mono (by omega))
  have hBg2 := hBg1.below hbq2 (by omega)
  have hs2' := hbq2.size
  have q0 := hBg2.cell (i := 0) rfl
  have q1 := hBg2.cell (i := 1) rfl
  have q2 := hBg2.cell (i := 2) rfl
  have q3 := hBg2.cell (i := 3) rfl
  have q4 := hBg2.cell (i := 4) rfl
  have q5 := hBg2.cell (i := 5) rfl
  have q6 := hBg2.cell (i := 6) rfl
  have q7 := hBg2.cell (i := 7) rfl
  have q8 := hBg2.cell (i := 8) rfl
  clear hl hv2 hb2 hbq2
  go_wp2_with fail
  refine (data_any HW.out s hs0 hs1 sh a0 m0 c0 l HV.out cut hc0 hc1 _ hbw2).mono ?_
  rintro e w3 ⟨hb3, hres⟩
  have hbw3 : Below w.heap.size w w3 := hbw2.trans (hb3.mono (by omega))
  have hBg3 := hBg2.below hb3 (by omega)
  have hs3' := hb3.size
  clear q0 q1 q2 q3 q4 q5 q6 q7 q8 hb3
  have q0 := hBg3.cell (i := 0) rfl
  have q1 := hBg3.cell (i := 1) rfl
  have q2 := hBg3.cell (i := 2) rfl
  have q3 := hBg3.cell (i := 3) rfl
  have q4 := hBg3.cell (i := 4) rfl
  have q5 := hBg3.cell (i := 5) rfl
  have q6 := hBg3.cell (i := 6) rfl
  have q7 := hBg3.cell (i := 7) rfl
  have q8 := hBg3.cell (i := 8) rfl
  obtain ⟨ks, rfl, hnk, hn0, hn1⟩ := pkAt_inv HW.out
  have HNK := Lib.hid hnk
  clear hnk
  rcases hres with ⟨v2, v3, b, rfl⟩ | ⟨hft, hm1, y, v, b, a3, n3, c3, hdue, rfl, hv3, hn3⟩
  · go_wp2_with fail
    go_ret
    exact ⟨rfl, hbw3⟩
  · have hy3 := hv3.len
    cases hdue with
    | cut x q hx hq =>
      have hbad := getUintN_bad a3 n3 c3 _ (fnGetUintN_cut hft hn0 hn1 hx q hq) w3 hv3 (HG.out.keep hbw3 (Nat.le_refl _))
      have HB := Lib.hid hbad
      clear hbad hy3 hft hx hv3
      go_wp2_with fail
      refine HB.out.mono ?_
      rintro e w4 ⟨rfl, hb4⟩
      have hbw4 : Below w.heap.size w w4 := hbw3.trans (hb4.mono (by omega))
      have hBg4 := hBg3.below hb4 (by omega)
      have hs4' := hb4.size
      clear q0 q1 q2 q3 q4 q5 q6 q7 q8 hb4
      have q0 := hBg4.cell (i := 0) rfl
      have q1 := hBg4.cell (i := 1) rfl
      have q2 := hBg4.cell (i := 2) rfl
      have q3 := hBg4.cell (i := 3) rfl
      have q4 := hBg4.cell (i := 4) rfl
      go_wp2_with fail
      go_ret
      exact ⟨rfl, by (repeat (first | with_reducible exact Below.refl _ _ | with_reducible assumption | with_reducible refine below_drewN ?_ _ | with_reducible refine Below.drew ?_ | with_reducible refine below_row ?_ (by first | omega | (simp; done) | (simp; omega)) _ | with_reducible refine Below.alloc ?_ (by first | omega | (simp; done) | (simp; omega)) _ | with_reducible refine Below.setCell ?_ (by first | omega | (simp; done) | (simp; omega)) _))⟩
    | whole x hx =>
      obtain ⟨bf, hbf⟩ : ∃ bf, bf = fitU k num := ⟨_, rfl⟩
      have hfc := fun W => fitsUint_any k num hn0 hn1 t ext a n c W
      rw [← hbf] at hfc
      have HF := Lib.hid hfc
      clear hfc
      cases bf with
      | false =>
        have hbad := getUintN_bad a3 n3 c3 _ (fnGetUintN_no hft hn0 hn1 hbf.symm hx l) w3 hv3 (HG.out.keep hbw3 (Nat.le_refl _))
        have HB := Lib.hid hbad
        clear hbad hy3 hft hx hv3 hbf
        go_wp2_with fail
        refine HB.out.mono ?_
        rintro e w4 ⟨rfl, hb4⟩
        have hbw4 : Below w.heap.size w w4 := hbw3.trans (hb4.mono (by omega))
        have hBg4 := hBg3.below hb4 (by omega)
        have hs4' := hb4.size
        clear q0 q1 q2 q3 q4 q5 q6 q7 q8 hb4
        have q0 := hBg4.cell (i := 0) rfl
        have q1 := hBg4.cell (i := 1) rfl
        have q2 := hBg4.cell (i := 2) rfl
        have q3 := hBg4.cell (i := 3) rfl
        have q4 := hBg4.cell (i := 4) rfl
        go_wp2_with fail
        refine (HF.out _).mono ?_
        rintro e w5 ⟨rfl, hb5⟩
        go_wp2_with fail
        go_ret
        exact ⟨rfl, Below.trans (b := _) hbw4 (Below.trans (b := _) (by (repeat (first | with_reducible exact Below.refl _ _ | with_reducible assumption | with_reducible refine below_drewN ?_ _ | with_reducible refine Below.drew ?_ | with_reducible refine below_row ?_ (by first | omega | (simp; done) | (simp; omega)) _ | with_reducible refine Below.alloc ?_ (by first | omega | (simp; done) | (simp; omega)) _ | with_reducible refine Below.setCell ?_ (by first | omega | (simp; done) | (simp; omega)) _))) (hb5.mono (by (first | omega | (simp; done) | (simp; omega)))))⟩
      | true =>
        obtain ⟨u, hu⟩ : ∃ u, u = num := ⟨_, rfl⟩
        have hgd := fnGetUintN_yes hft hn0 hn1 hbf.symm hx l
        rw [← hu] at hgd
        have hlen : (x ++ l).length ≤ 1099511627776 := by omega
        have hub : 0 ≤ u ∧ u < 18446744073709551616 := by rw [hu]; omega
        have hgood := getUintN_good a3 n3 c3 (x ++ l) hlen u x.length hgd hub w3 hv3
        rw [List.drop_left' rfl, show n3 - x.length = m0 by rw [List.length_append] at hy3; omega] at hgood
        have HB := Lib.hid hgood
        have hconv : True := trivial
        have hu9 := hu.symm
        subst hu9
        clear hgood hy3 hft hx hv3 hbf hgd hlen
        go_wp2_with fail
        refine HB.out.mono ?_
        rintro e w4 ⟨a4, c4, rfl, hv4, hb4⟩
        have hbw4 : Below w.heap.size w w4 := hbw3.trans (hb4.mono (by omega))
        have hBg4 := hBg3.below hb4 (by omega)
        have hs4' := hb4.size
        clear q0 q1 q2 q3 q4 q5 q6 q7 q8 hb4
        have q0 := hBg4.cell (i := 0) rfl
        have q1 := hBg4.cell (i := 1) rfl
        have q2 := hBg4.cell (i := 2) rfl
        have q3 := hBg4.cell (i := 3) rfl
        have q4 := hBg4.cell (i := 4) rfl
        go_wp2_with fail
        refine (HF.out _).mono ?_
        rintro e w5 ⟨rfl, hb5⟩
        have hB5 := (Blk.new w4 25 #[.int .i64 k, .int .u64 num, .string t, .int .i64 ext, .slice a n c]).below hb5 (by simp)
        have p1 := hB5.cell (i := 1) rfl
        have hbw5 : Below w.heap.size w w5 := Below.trans (b := _) hbw4 (Below.trans (b := _) (by (repeat (first | with_reducible exact Below.refl _ _ | with_reducible assumption | with_reducible refine below_drewN ?_ _ | with_reducible refine Below.drew ?_ | with_reducible refine below_row ?_ (by first | omega | (simp; done) | (simp; omega)) _ | with_reducible refine Below.alloc ?_ (by first | omega | (simp; done) | (simp; omega)) _ | with_reducible refine Below.setCell ?_ (by first | omega | (simp; done) | (simp; omega)) _))) (hb5.mono (by (first | omega | (simp; done) | (simp; omega)))))
        have hv5 := Vw.below hb5 (by simp) (hv4.alloc (.cells #[.int .i64 k, .int .u64 num, .string t, .int .i64 ext, .slice a n c] 25))
        clear hv4
        go_wp2_with fail
        refine (left_any a4 a0 m0 m0 c4 c0 l _ hv5 (Vw.below hbw5 (Nat.le_refl _) HV.out)).mono ?_
        rintro e w6 ⟨rfl, rfl⟩
        go_wp2_with fail
        go_ret
        exact ⟨rfl, hbw5⟩
end Go.Proofs.YtnahohkfkkemfaaDoor
