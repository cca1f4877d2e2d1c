/- THE WALK of laws.FnGetBinZC. -/
import Derived.Test.YtnahohkfkkemfaaDoorGetNum
import Derived.Test.YtnahohkfkkemfaaDoorBzP
namespace Go.Proofs.YtnahohkfkkemfaaDoor
open Go.RowKit
set_option linter.unusedVariables false
set_option linter.unusedSimpArgs false

theorem fnGetBinZC_enc {num ext : Int} {t : ByteArray} {ks : List Pk} {x : List Int} (hx : (Pk.mk 7 num t ext ks).Enc x) : ∃ h, HeadL t.size (-1) 0 formsB h ∧ x = h ++ btL t := by
  have h := enc_leaf (by omega) hx
  rcases h with ⟨h, _⟩ | ⟨h, _⟩ | ⟨h, _⟩ | ⟨h, _⟩ | ⟨h, _⟩ | ⟨h, _⟩ | ⟨h, _⟩ | ⟨_, h⟩ | ⟨h, _⟩ | ⟨h, _⟩ | ⟨h, _⟩
  all_goals first | exact h | omega
theorem fnGetBinZC_no {k num ext : Int} {t : ByteArray} {ks : List Pk} {x : List Int} (hf : (Pk.mk k num t ext ks).fits) (h0 : 0 ≤ num) (h1 : num < 18446744073709551616) (hk : ¬ k = 7) (hx : (Pk.mk k num t ext ks).Enc x) (l : List Int) : dBz (x ++ l) = none := by
  obtain ⟨z, r, rfl, hz⟩ := enc_hd hf h0 h1 hx
  exact dBz_kind k z _ hk hz
theorem fnGetBinZC_cut {k num ext : Int} {t : ByteArray} {ks : List Pk} {x : List Int} (hf : (Pk.mk k num t ext ks).fits) (h0 : 0 ≤ num) (h1 : num < 18446744073709551616) (hx : (Pk.mk k num t ext ks).Enc x) (q : Nat) (hq : q < x.length) : dBz (x.take q) = none := by
  by_cases hk : k = 7
  · subst hk
    obtain ⟨h, hh, rfl⟩ := fnGetBinZC_enc hx
    exact (bz_all hh (btL_len t)).2 q hq
  · obtain ⟨z, r, rfl, hz⟩ := enc_hd hf h0 h1 hx
    cases q with
    | zero => exact dBz_nil
    | succ q => exact dBz_kind k z _ hk hz
set_option maxRecDepth 100000 in
set_option maxHeartbeats 8000000 in
theorem fnGetBinZC_walk {p : Pk} {k num ext : Int} {t : ByteArray} {a : Option Addr} {n c : Nat} (s : Int) (hs0 : 0 ≤ s) (hs1 : s < 18446744073709551616) (sh : Bool) (a0 : Option Addr) (m0 c0 : Nat) (l : List Int) (cut : Int) (hc0 : -9223372036854775808 ≤ cut) (hc1 : cut < 9223372036854775808)
    (w : World) (h : PkAt w p (pkV k num t ext a n c)) (hv : Vw w a0 m0 c0 l) (hg : Gl w) :
    Calls Tryd.prog 5 #[gvV k num t ext a n c s sh a0 m0 c0 cut] w fun e w' => e = .returned (.bool true) ∧ Below w.heap.size w w' := by
  have HW := Lib.hid h
  have HV := Lib.hid hv
  have HG := Lib.hid hg
  have hfz := fits16_any k num t ext a n c s sh a0 m0 c0 cut
  have HFZ := Lib.hid hfz
  have hml := hv.len
  clear h hv hg hfz
  unfold gvV at *
  go_enter Tryd.func5, Tryd.ntmps5
  go_wp2_with fail
  refine (HFZ.out _).mono ?_
  rintro e w1 ⟨rfl, hb1⟩
  have hbw1 : Below w.heap.size w w1 := Below.trans (b := _) (by (repeat (first | with_reducible exact Below.refl _ _ | with_reducible assumption | with_reducible refine below_drewN ?_ _ | with_reducible refine Below.drew ?_ | with_reducible refine below_row ?_ (by first | omega | (simp; done) | (simp; omega)) _ | with_reducible refine Below.alloc ?_ (by first | omega | (simp; done) | (simp; omega)) _ | with_reducible refine Below.setCell ?_ (by first | omega | (simp; done) | (simp; omega)) _))) (hb1.mono (by (first | omega | (simp; done) | (simp; omega))))
  have hBg1 := (Blk.new w 28 #[.int .i64 k, .int .u64 num, .string t, .int .i64 ext, .slice a n c, .int .u64 s, .bool sh, .slice a0 m0 c0, .int .i64 cut]).below hb1 (by simp)
  have hs1' : w.heap.size + 1 ≤ w1.heap.size := by have := hb1.size; simpa using this
  clear hb1
  by_cases hbig : ¬ m0 ≤ 2147483647
  · have e1 : decide (m0 ≤ 2147483647) = false := by simpa using hbig
    rw [e1]
    clear hbig e1
    go_wp2_with fail
    go_ret
    exact ⟨rfl, hbw1⟩
  have hbig2 : m0 ≤ 2147483647 := by omega
  have e1 : decide (m0 ≤ 2147483647) = true := by simpa using hbig2
  rw [e1]
  clear e1 hbig
  have hl := Own.lit 5 w1 [196, 1, 97] (by simp) (by simp)
  go_wp2_with fail
  refine (getBinZC_good _ 3 3 [196, 1, 97] (by simp) 2 1 (by simp [dBz, isBin]) _ hl.vw).mono ?_
  rintro e w2 ⟨a1, c1, a2, c2, rfl, hv1, hv2, hb2⟩
  have hst := hv1.string Tryd.prog 26 5 9 Tryd.underlying26 Tryd.underlying5 Tryd.underlying9
  have hsx : strOfNums (([196, 1, 97].drop 2).take 1) = ⟨#[97]⟩ := by decide
  rw [hsx] at hst
  clear hv1 hsx
  have hbq2 : Below w1.heap.size w1 w2 := Below.trans (b := _) (by (repeat (first | with_reducible exact Below.refl _ _ | with_reducible assumption | with_reducible refine below_drewN ?_ _ | with_reducible refine Below.drew ?_ | with_reducible refine below_row ?_ (by first | omega | (simp; done) | (simp; omega)) _ | with_reducible refine Below.alloc ?_ (by first | omega | (simp; done) | (simp; omega)) _ | with_reducible refine Below.setCell ?_ (by first | omega | (simp; done) | (simp; omega)) _))) (hb2.mono (by (first | omega | (simp; done) | (simp; omega))))
  have hbw2 : Below w.heap.size w w2 := hbw1.trans (hbq2.mono (by omega))
  have hBg2 := hBg1.below hbq2 (by omega)
  have hs2' := hbq2.size
  have q0 := hBg2.cell (i := 0) rfl
  have q1 := hBg2.cell (i := 1) rfl
  have q2 := hBg2.cell (i := 2) rfl
  have q3 := hBg2.cell (i := 3) rfl
  have q4 := hBg2.cell (i := 4) rfl
  have q5 := hBg2.cell (i := 5) rfl
  have q6 := hBg2.cell (i := 6) rfl
  have q7 := hBg2.cell (i := 7) rfl
  have q8 := hBg2.cell (i := 8) rfl
  clear hl hv2 hb2 hbq2
  go_wp2_with fail
  refine (data_any HW.out s hs0 hs1 sh a0 m0 c0 l HV.out cut hc0 hc1 _ hbw2).mono ?_
  rintro e w3 ⟨hb3, hres⟩
  have hbw3 : Below w.heap.size w w3 := hbw2.trans (hb3.mono (by omega))
  have hBg3 := hBg2.below hb3 (by omega)
  have hs3' := hb3.size
  clear q0 q1 q2 q3 q4 q5 q6 q7 q8 hb3
  have q0 := hBg3.cell (i := 0) rfl
  have q1 := hBg3.cell (i := 1) rfl
  have q2 := hBg3.cell (i := 2) rfl
  have q3 := hBg3.cell (i := 3) rfl
  have q4 := hBg3.cell (i := 4) rfl
  have q5 := hBg3.cell (i := 5) rfl
  have q6 := hBg3.cell (i := 6) rfl
  have q7 := hBg3.cell (i := 7) rfl
  have q8 := hBg3.cell (i := 8) rfl
  obtain ⟨ks, rfl, hnk, hn0, hn1⟩ := pkAt_inv HW.out
  have HNK := Lib.hid hnk
  clear hnk
  rcases hres with ⟨v2, v3, b, rfl⟩ | ⟨hft, hm1, y, v, b, a3, n3, c3, hdue, rfl, hv3, hn3⟩
  · go_wp2_with fail
    go_ret
    exact ⟨rfl, hbw3⟩
  · have hy3 := hv3.len
    cases hdue with
    | cut x q hx hq =>
      have hbad := getBinZC_bad a3 n3 c3 _ (fnGetBinZC_cut hft hn0 hn1 hx q hq) w3 hv3 (HG.out.keep hbw3 (Nat.le_refl _))
      have HB := Lib.hid hbad
      clear hbad hy3 hft hx hv3
      go_wp2_with fail
      refine HB.out.mono ?_
      rintro e w4 ⟨rfl, hb4⟩
      have hbw4 : Below w.heap.size w w4 := hbw3.trans (hb4.mono (by omega))
      have hBg4 := hBg3.below hb4 (by omega)
      have hs4' := hb4.size
      clear q0 q1 q2 q3 q4 q5 q6 q7 q8 hb4
      have q0 := hBg4.cell (i := 0) rfl
      have q1 := hBg4.cell (i := 1) rfl
      have q2 := hBg4.cell (i := 2) rfl
      have q3 := hBg4.cell (i := 3) rfl
      have q4 := hBg4.cell (i := 4) rfl
      go_wp2_with fail
      go_ret
      exact ⟨rfl, by (repeat (first | with_reducible exact Below.refl _ _ | with_reducible assumption | with_reducible refine below_drewN ?_ _ | with_reducible refine Below.drew ?_ | with_reducible refine below_row ?_ (by first | omega | (simp; done) | (simp; omega)) _ | with_reducible refine Below.alloc ?_ (by first | omega | (simp; done) | (simp; omega)) _ | with_reducible refine Below.setCell ?_ (by first | omega | (simp; done) | (simp; omega)) _))⟩
    | whole x hx =>
      obtain ⟨bf, hbf⟩ : ∃ bf, bf = decide (k = 7) := ⟨_, rfl⟩
      cases bf with
      | false =>
        have hk7 : ¬ k = 7 := by simpa using hbf.symm
        have dk : (k == 7) = false := by simpa using hk7
        have hbad := getBinZC_bad a3 n3 c3 _ (fnGetBinZC_no hft hn0 hn1 hk7 hx l) w3 hv3 (HG.out.keep hbw3 (Nat.le_refl _))
        have HB := Lib.hid hbad
        clear hbad hy3 hft hx hv3 hbf hk7
        go_wp2_with fail
        refine HB.out.mono ?_
        rintro e w4 ⟨rfl, hb4⟩
        have hbw4 : Below w.heap.size w w4 := hbw3.trans (hb4.mono (by omega))
        have hBg4 := hBg3.below hb4 (by omega)
        have hs4' := hb4.size
        clear q0 q1 q2 q3 q4 q5 q6 q7 q8 hb4
        have q0 := hBg4.cell (i := 0) rfl
        have q1 := hBg4.cell (i := 1) rfl
        have q2 := hBg4.cell (i := 2) rfl
        have q3 := hBg4.cell (i := 3) rfl
        have q4 := hBg4.cell (i := 4) rfl
        go_wp2_with fail
        go_ret
        exact ⟨rfl, by (repeat (first | with_reducible exact Below.refl _ _ | with_reducible assumption | with_reducible refine below_drewN ?_ _ | with_reducible refine Below.drew ?_ | with_reducible refine below_row ?_ (by first | omega | (simp; done) | (simp; omega)) _ | with_reducible refine Below.alloc ?_ (by first | omega | (simp; done) | (simp; omega)) _ | with_reducible refine Below.setCell ?_ (by first | omega | (simp; done) | (simp; omega)) _))⟩
      | true =>
        obtain rfl : k = 7 := by simpa using hbf.symm
        have hlen : (x ++ l).length ≤ 1099511627776 := by omega
        obtain ⟨h, hh, rfl⟩ := fnGetBinZC_enc hx
        have hbz := bz_all hh (btL_len t)
        have hlh : (h ++ btL t).length = h.length + t.size := by simp [btL_len]
        have hgood := getBinZC_good a3 n3 c3 ((h ++ btL t) ++ l) hlen h.length t.size (hbz.1 l) w3 hv3
        rw [show n3 - (h.length + t.size) = m0 by rw [List.length_append] at hy3; omega, List.append_assoc, List.drop_left' rfl, List.take_left' (btL_len t), ← List.append_assoc, List.drop_left' (by simp [btL_len])] at hgood
        have HB := Lib.hid hgood
        clear hgood hy3 hft hx hv3 hbf hbz hlh hlen hh
        go_wp2_with fail
        refine HB.out.mono ?_
        rintro e w4 ⟨a5, c5, a4, c4, rfl, hv6, hv4, hb4⟩
        have hst := (hv6.alloc (.cells #[.int .i64 7, .int .u64 num, .string t, .int .i64 ext, .slice a n c] 25)).string Tryd.prog 26 5 9 Tryd.underlying26 Tryd.underlying5 Tryd.underlying9
        rw [strOfNums_btL] at hst
        clear hv6
        have hbw4 : Below w.heap.size w w4 := hbw3.trans (hb4.mono (by omega))
        have hBg4 := hBg3.below hb4 (by omega)
        have hs4' := hb4.size
        clear q0 q1 q2 q3 q4 q5 q6 q7 q8 hb4
        have q0 := hBg4.cell (i := 0) rfl
        have q1 := hBg4.cell (i := 1) rfl
        have q2 := hBg4.cell (i := 2) rfl
        have q3 := hBg4.cell (i := 3) rfl
        have q4 := hBg4.cell (i := 4) rfl
        have hv5 := hv4.alloc (.cells #[.int .i64 7, .int .u64 num, .string t, .int .i64 ext, .slice a n c] 25)
        have hbw5 : Below w.heap.size w (w4.alloc (.cells #[.int .i64 7, .int .u64 num, .string t, .int .i64 ext, .slice a n c] 25)) := by (repeat (first | with_reducible exact Below.refl _ _ | with_reducible assumption | with_reducible refine below_drewN ?_ _ | with_reducible refine Below.drew ?_ | with_reducible refine below_row ?_ (by first | omega | (simp; done) | (simp; omega)) _ | with_reducible refine Below.alloc ?_ (by first | omega | (simp; done) | (simp; omega)) _ | with_reducible refine Below.setCell ?_ (by first | omega | (simp; done) | (simp; omega)) _))
        clear hv4
        go_wp2_with fail
        refine (left_any a4 a0 m0 m0 c4 c0 l _ hv5 (Vw.below hbw5 (Nat.le_refl _) HV.out)).mono ?_
        rintro e w6 ⟨rfl, rfl⟩
        go_wp2_with fail
        go_ret
        exact ⟨rfl, hbw5⟩
end Go.Proofs.YtnahohkfkkemfaaDoor
