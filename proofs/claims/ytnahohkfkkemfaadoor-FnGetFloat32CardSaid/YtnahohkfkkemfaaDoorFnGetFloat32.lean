/- THE WALK of laws.FnGetFloat32. -/
import Derived.Test.YtnahohkfkkemfaaDoorGetNum
import Derived.Test.YtnahohkfkkemfaaDoorRdF32
namespace Go.Proofs.YtnahohkfkkemfaaDoor
open Go.RowKit
set_option linter.unusedVariables false
set_option linter.unusedSimpArgs false

theorem fnGetFloat32_num {num ext : Int} {t : ByteArray} {ks : List Pk} (hf : (Pk.mk 4 num t ext ks).fits) : num < 4294967296 := by
  obtain ⟨hf1, hf2⟩ : FitN 4 num t.size ext ks.length ∧ Pk.fitsL ks := hf
  exact hf1.2.2.2.1 rfl
theorem dF32_nil : dF32 [] = none := by simp [dF32]
theorem dF32_kind (k z : Int) (r : List Int) (hk : ¬ k = 4) (h : HdOf k z) : dF32 (z :: r) = none := by
  unfold HdOf at h
  unfold dF32
  split
  · rfl
  · rw [if_neg (by simp; omega)]
theorem f32_all {num ext : Int} (num' : Int) {t : ByteArray} {ks : List Pk} {x : List Int} (h1 : num < 18446744073709551616) (h2 : num < 4294967296) (hx : (Pk.mk 4 num t ext ks).Enc x) : 0 ≤ num → (∀ l, dF32 (x ++ l) = some (num, x.length)) ∧ ∀ q, q < x.length → dF32 (x.take q) = none := by
  intro h0
  have h := enc_leaf (by omega) hx
  have hh : x = 202 :: beL num 4 := by
    rcases h with ⟨h, _⟩ | ⟨h, _⟩ | ⟨h, _⟩ | ⟨h, _⟩ | ⟨_, h⟩ | ⟨h, _⟩ | ⟨h, _⟩ | ⟨h, _⟩ | ⟨h, _⟩ | ⟨h, _⟩ | ⟨h, _⟩
    all_goals first | exact h | omega
  subst hh
  refine ⟨fun l => ?_, fun q hq => ?_⟩
  · rw [beL_4]
    unfold dF32
    rw [if_neg (by simp), if_pos (by simp)]
    have := beN_4 num
    simp [this]
    omega
  · unfold dF32
    rw [if_pos (by rw [List.length_take]; simp [beL_len] at hq ⊢; omega)]
theorem fnGetFloat32_no {k num ext : Int} {t : ByteArray} {ks : List Pk} {x : List Int} (hf : (Pk.mk k num t ext ks).fits) (h0 : 0 ≤ num) (h1 : num < 18446744073709551616) (hk : ¬ k = 4) (hx : (Pk.mk k num t ext ks).Enc x) (l : List Int) : dF32 (x ++ l) = none := by
  obtain ⟨z, r, rfl, hz⟩ := enc_hd hf h0 h1 hx
  exact dF32_kind k z _ hk hz
theorem fnGetFloat32_cut {k num ext : Int} {t : ByteArray} {ks : List Pk} {x : List Int} (hf : (Pk.mk k num t ext ks).fits) (h0 : 0 ≤ num) (h1 : num < 18446744073709551616) (hx : (Pk.mk k num t ext ks).Enc x) (q : Nat) (hq : q < x.length) : dF32 (x.take q) = none := by
  by_cases hk : k = 4
  · subst hk
    exact (f32_all num h1 (fnGetFloat32_num hf) hx h0).2 q hq
  · obtain ⟨z, r, rfl, hz⟩ := enc_hd hf h0 h1 hx
    cases q with
    | zero => exact dF32_nil
    | succ q => exact dF32_kind k z _ hk hz
set_option maxRecDepth 100000 in
set_option maxHeartbeats 8000000 in
theorem fnGetFloat32_walk {p : Pk} {k num ext : Int} {t : ByteArray} {a : Option Addr} {n c : Nat} (s : Int) (hs0 : 0 ≤ s) (hs1 : s < 18446744073709551616) (sh : Bool) (a0 : Option Addr) (m0 c0 : Nat) (l : List Int) (cut : Int) (hc0 : -9223372036854775808 ≤ cut) (hc1 : cut < 9223372036854775808)
    (w : World) (h : PkAt w p (pkV k num t ext a n c)) (hv : Vw w a0 m0 c0 l) (hg : Gl w) :
    Calls Tryd.prog 3 #[gvV k num t ext a n c s sh a0 m0 c0 cut] w fun e w' => e = .returned (.bool true) ∧ Below w.heap.size w w' := by
  have HW := Lib.hid h
  have HV := Lib.hid hv
  have HG := Lib.hid hg
  have hfz := fits16_any k num t ext a n c s sh a0 m0 c0 cut
  have HFZ := Lib.hid hfz
  have hml := hv.len
  clear h hv hg hfz
  unfold gvV at *
  go_enter Tryd.func3, Tryd.ntmps3
  go_wp2_with fail
  refine (HFZ.out _).mono ?_
  rintro e w1 ⟨rfl, hb1⟩
  have hbw1 : Below w.heap.size w w1 := Below.trans (b := _) (by (repeat (first | with_reducible exact Below.refl _ _ | with_reducible assumption | with_reducible refine below_drewN ?_ _ | with_reducible refine Below.drew ?_ | with_reducible refine below_row ?_ (by first | omega | (simp; done) | (simp; omega)) _ | with_reducible refine Below.alloc ?_ (by first | omega | (simp; done) | (simp; omega)) _ | with_reducible refine Below.setCell ?_ (by first | omega | (simp; done) | (simp; omega)) _))) (hb1.mono (by (first | omega | (simp; done) | (simp; omega))))
  have hBg1 := (Blk.new w 28 #[.int .i64 k, .int .u64 num, .string t, .int .i64 ext, .slice a n c, .int .u64 s, .bool sh, .slice a0 m0 c0, .int .i64 cut]).below hb1 (by simp)
  have hs1' : w.heap.size + 1 ≤ w1.heap.size := by have := hb1.size; simpa using this
  clear hb1
  by_cases hbig : ¬ m0 ≤ 2147483647
  · have e1 : decide (m0 ≤ 2147483647) = false := by simpa using hbig
    rw [e1]
    clear hbig e1
    go_wp2_with fail
    go_ret
    exact ⟨rfl, hbw1⟩
  have hbig2 : m0 ≤ 2147483647 := by omega
  have e1 : decide (m0 ≤ 2147483647) = true := by simpa using hbig2
  rw [e1]
  clear e1 hbig
  have hl := Own.lit 5 w1 [202, 0, 0, 0, 7] (by simp) (by simp)
  go_wp2_with fail
  refine (getF32_good _ 5 5 [202, 0, 0, 0, 7] (by simp) 7 5 (by decide) _ hl.vw).mono ?_
  rintro e w2 ⟨a2, c2, rfl, hv2, hb2⟩
  have hbq2 : Below w1.heap.size w1 w2 := Below.trans (b := _) (by (repeat (first | with_reducible exact Below.refl _ _ | with_reducible assumption | with_reducible refine below_drewN ?_ _ | with_reducible refine Below.drew ?_ | with_reducible refine below_row ?_ (by first | omega | (simp; done) | (simp; omega)) _ | with_reducible refine Below.alloc ?_ (by first | omega | (simp; done) | (simp; omega)) _ | with_reducible refine Below.setCell ?_ (by first | omega | (simp; done) | (simp; omega)) _))) (hb2.mono (by (first | omega | (simp; done) | (simp; omega))))
  have hbw2 : Below w.heap.size w w2 := hbw1.trans (hbq2.mono (by omega))
  have hBg2 := hBg1.below hbq2 (by omega)
  have hs2' := hbq2.size
  have q0 := hBg2.cell (i := 0) rfl
  have q1 := hBg2.cell (i := 1) rfl
  have q2 := hBg2.cell (i := 2) rfl
  have q3 := hBg2.cell (i := 3) rfl
  have q4 := hBg2.cell (i := 4) rfl
  have q5 := hBg2.cell (i := 5) rfl
  have q6 := hBg2.cell (i := 6) rfl
  have q7 := hBg2.cell (i := 7) rfl
  have q8 := hBg2.cell (i := 8) rfl
  clear hl hv2 hb2 hbq2
  go_wp2_with fail
  refine (data_any HW.out s hs0 hs1 sh a0 m0 c0 l HV.out cut hc0 hc1 _ hbw2).mono ?_
  rintro e w3 ⟨hb3, hres⟩
  have hbw3 : Below w.heap.size w w3 := hbw2.trans (hb3.mono (by omega))
  have hBg3 := hBg2.below hb3 (by omega)
  have hs3' := hb3.size
  clear q0 q1 q2 q3 q4 q5 q6 q7 q8 hb3
  have q0 := hBg3.cell (i := 0) rfl
  have q1 := hBg3.cell (i := 1) rfl
  have q2 := hBg3.cell (i := 2) rfl
  have q3 := hBg3.cell (i := 3) rfl
  have q4 := hBg3.cell (i := 4) rfl
  have q5 := hBg3.cell (i := 5) rfl
  have q6 := hBg3.cell (i := 6) rfl
  have q7 := hBg3.cell (i := 7) rfl
  have q8 := hBg3.cell (i := 8) rfl
  obtain ⟨ks, rfl, hnk, hn0, hn1⟩ := pkAt_inv HW.out
  have HNK := Lib.hid hnk
  clear hnk
  rcases hres with ⟨v2, v3, b, rfl⟩ | ⟨hft, hm1, y, v, b, a3, n3, c3, hdue, rfl, hv3, hn3⟩
  · go_wp2_with fail
    go_ret
    exact ⟨rfl, hbw3⟩
  · have hy3 := hv3.len
    cases hdue with
    | cut x q hx hq =>
      have hbad := getF32_bad a3 n3 c3 _ (fnGetFloat32_cut hft hn0 hn1 hx q hq) w3 hv3 (HG.out.keep hbw3 (Nat.le_refl _))
      have HB := Lib.hid hbad
      clear hbad hy3 hft hx hv3
      go_wp2_with fail
      refine HB.out.mono ?_
      rintro e w4 ⟨rfl, hb4⟩
      have hbw4 : Below w.heap.size w w4 := hbw3.trans (hb4.mono (by omega))
      have hBg4 := hBg3.below hb4 (by omega)
      have hs4' := hb4.size
      clear q0 q1 q2 q3 q4 q5 q6 q7 q8 hb4
      have q0 := hBg4.cell (i := 0) rfl
      have q1 := hBg4.cell (i := 1) rfl
      have q2 := hBg4.cell (i := 2) rfl
      have q3 := hBg4.cell (i := 3) rfl
      have q4 := hBg4.cell (i := 4) rfl
      go_wp2_with fail
      go_ret
      exact ⟨rfl, by (repeat (first | with_reducible exact Below.refl _ _ | with_reducible assumption | with_reducible refine below_drewN ?_ _ | with_reducible refine Below.drew ?_ | with_reducible refine below_row ?_ (by first | omega | (simp; done) | (simp; omega)) _ | with_reducible refine Below.alloc ?_ (by first | omega | (simp; done) | (simp; omega)) _ | with_reducible refine Below.setCell ?_ (by first | omega | (simp; done) | (simp; omega)) _))⟩
    | whole x hx =>
      obtain ⟨bf, hbf⟩ : ∃ bf, bf = decide (k = 4) := ⟨_, rfl⟩
      cases bf with
      | false =>
        have hk7 : ¬ k = 4 := by simpa using hbf.symm
        have dk : (k == 4) = false := by simpa using hk7
        have hbad := getF32_bad a3 n3 c3 _ (fnGetFloat32_no hft hn0 hn1 hk7 hx l) w3 hv3 (HG.out.keep hbw3 (Nat.le_refl _))
        have HB := Lib.hid hbad
        clear hbad hy3 hft hx hv3 hbf hk7
        go_wp2_with fail
        refine HB.out.mono ?_
        rintro e w4 ⟨rfl, hb4⟩
        have hbw4 : Below w.heap.size w w4 := hbw3.trans (hb4.mono (by omega))
        have hBg4 := hBg3.below hb4 (by omega)
        have hs4' := hb4.size
        clear q0 q1 q2 q3 q4 q5 q6 q7 q8 hb4
        have q0 := hBg4.cell (i := 0) rfl
        have q1 := hBg4.cell (i := 1) rfl
        have q2 := hBg4.cell (i := 2) rfl
        have q3 := hBg4.cell (i := 3) rfl
        have q4 := hBg4.cell (i := 4) rfl
        go_wp2_with fail
        go_ret
        exact ⟨rfl, by (repeat (first | with_reducible exact Below.refl _ _ | with_reducible assumption | with_reducible refine below_drewN ?_ _ | with_reducible refine Below.drew ?_ | with_reducible refine below_row ?_ (by first | omega | (simp; done) | (simp; omega)) _ | with_reducible refine Below.alloc ?_ (by first | omega | (simp; done) | (simp; omega)) _ | with_reducible refine Below.setCell ?_ (by first | omega | (simp; done) | (simp; omega)) _))⟩
      | true =>
        obtain rfl : k = 4 := by simpa using hbf.symm
        have hlen : (x ++ l).length ≤ 1099511627776 := by omega
        have hgd := f32_all num hn1 (fnGetFloat32_num hft) hx hn0
        have hgood := getF32_good a3 n3 c3 (x ++ l) hlen num x.length (hgd.1 l) w3 hv3
        rw [List.drop_left' rfl, show n3 - x.length = m0 by rw [List.length_append] at hy3; omega] at hgood
        have HB := Lib.hid hgood
        have hnlt := fnGetFloat32_num hft
        clear hgood hgd hy3 hft hx hv3 hbf hlen
        go_wp2_with fail
        refine HB.out.mono ?_
        rintro e w4 ⟨a4, c4, rfl, hv4, hb4⟩
        have hbw4 : Below w.heap.size w w4 := hbw3.trans (hb4.mono (by omega))
        have hBg4 := hBg3.below hb4 (by omega)
        have hs4' := hb4.size
        clear q0 q1 q2 q3 q4 q5 q6 q7 q8 hb4
        have q0 := hBg4.cell (i := 0) rfl
        have q1 := hBg4.cell (i := 1) rfl
        have q2 := hBg4.cell (i := 2) rfl
        have q3 := hBg4.cell (i := 3) rfl
        have q4 := hBg4.cell (i := 4) rfl
        have hv5 := hv4.alloc (.cells #[.int .i64 4, .int .u64 num, .string t, .int .i64 ext, .slice a n c] 25)
        have hbw5 : Below w.heap.size w (w4.alloc (.cells #[.int .i64 4, .int .u64 num, .string t, .int .i64 ext, .slice a n c] 25)) := by (repeat (first | with_reducible exact Below.refl _ _ | with_reducible assumption | with_reducible refine below_drewN ?_ _ | with_reducible refine Below.drew ?_ | with_reducible refine below_row ?_ (by first | omega | (simp; done) | (simp; omega)) _ | with_reducible refine Below.alloc ?_ (by first | omega | (simp; done) | (simp; omega)) _ | with_reducible refine Below.setCell ?_ (by first | omega | (simp; done) | (simp; omega)) _))
        clear hv4
        go_wp2_with fail
        refine (left_any a4 a0 m0 m0 c4 c0 l _ hv5 (Vw.below hbw5 (Nat.le_refl _) HV.out)).mono ?_
        rintro e w6 ⟨rfl, rfl⟩
        go_wp2_with fail
        go_ret
        exact ⟨rfl, hbw5⟩
end Go.Proofs.YtnahohkfkkemfaaDoor
