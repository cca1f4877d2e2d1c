/- laws.zzFits16 and laws.Given.data. -/
import Derived.Test.YtnahohkfkkemfaaDoorPutPk3
namespace Go.Proofs.YtnahohkfkkemfaaDoor
open Go.RowKit
set_option linter.unusedVariables false
set_option linter.unusedSimpArgs false

abbrev gvV (k num : Int) (t : ByteArray) (ext : Int) (a : Option Addr) (n c : Nat) (s : Int) (sh : Bool) (a0 : Option Addr) (m0 c0 : Nat) (cut : Int) : Value :=
  .agg #[.int .i64 k, .int .u64 num, .string t, .int .i64 ext, .slice a n c, .int .u64 s, .bool sh, .slice a0 m0 c0, .int .i64 cut]

/-- What is read: bytes l as they are due, cut or with what stands behind. -/
inductive Due (p : Pk) (a0 : Option Addr) (m0 c0 : Nat) (l : List Int) : List Int → Value → Bool → Prop
  | cut (x : List Int) (q : Nat) (hx : p.Enc x) (hq : q < x.length) : Due p a0 m0 c0 l (x.take q) (.slice none 0 0) true
  | whole (x : List Int) (hx : p.Enc x) : Due p a0 m0 c0 l (x ++ l) (.slice a0 m0 c0) false

def DataRes (p : Pk) (a0 : Option Addr) (m0 c0 : Nat) (l : List Int) (w : World) (e : Ending) (w' : World) : Prop :=
  Below w.heap.size w w' ∧ ((∃ v2 v3 b, e = .returned (.tuple #[v2, v3, .bool b, .bool false])) ∨
    (p.fits ∧ m0 ≤ 100 ∧ ∃ y v b a n c, Due p a0 m0 c0 l y v b ∧ e = .returned (.tuple #[.slice a n c, v, .bool b, .bool true]) ∧ Vw w' a n c y ∧ n ≤ 1000000000))

set_option maxRecDepth 100000 in
set_option maxHeartbeats 8000000 in
theorem data_any {w0 : World} {p : Pk} {k num ext : Int} {t : ByteArray} {a : Option Addr} {n c : Nat} (h : PkAt w0 p (pkV k num t ext a n c)) (s : Int) (hs0 : 0 ≤ s) (hs1 : s < 18446744073709551616) (sh : Bool)
    (a0 : Option Addr) (m0 c0 : Nat) (l : List Int) (hv : Vw w0 a0 m0 c0 l) (cut : Int) (hc0 : -9223372036854775808 ≤ cut) (hc1 : cut < 9223372036854775808) (w : World) (hx : Below w0.heap.size w0 w) :
    Calls Tryd.prog 11 #[gvV k num t ext a n c s sh a0 m0 c0 cut] w (DataRes p a0 m0 c0 l w) := by
  have HW := Lib.hid h
  have HX := Lib.hid hx
  have HV := Lib.hid hv
  have hxs := hx.size
  have hml := hv.len
  have hmb := hv.cap
  have hmc := hv.big
  clear h hx hv
  unfold gvV
  go_enter Tryd.func11, Tryd.ntmps11
  go_wp2_with fail
  refine (packFits_any HW.out 6 (by omega) (by omega) _ (HX.out.alloc hxs _)).mono ?_
  rintro e w1 ⟨b, rfl, hfit, hb1⟩
  have hbw1 : Below w.heap.size w w1 := Below.trans (b := _) (by (repeat (first | with_reducible exact Below.refl _ _ | with_reducible assumption | with_reducible refine below_drewN ?_ _ | with_reducible refine Below.drew ?_ | with_reducible refine below_row ?_ (by first | omega | (simp; done) | (simp; omega)) _ | with_reducible refine Below.alloc ?_ (by first | omega | (simp; done) | (simp; omega)) _ | with_reducible refine Below.setCell ?_ (by first | omega | (simp; done) | (simp; omega)) _))) (hb1.mono (by (first | omega | (simp; done) | (simp; omega))))
  have hBg := (Blk.new w 28 #[.int .i64 k, .int .u64 num, .string t, .int .i64 ext, .slice a n c, .int .u64 s, .bool sh, .slice a0 m0 c0, .int .i64 cut]).below hb1 (by simp)
  have hs1 : w.heap.size + 1 ≤ w1.heap.size := by have := hb1.size; simpa using this
  have q0 := hBg.cell (i := 0) rfl
  have q1 := hBg.cell (i := 1) rfl
  have q2 := hBg.cell (i := 2) rfl
  have q3 := hBg.cell (i := 3) rfl
  have q4 := hBg.cell (i := 4) rfl
  have q5 := hBg.cell (i := 5) rfl
  have q6 := hBg.cell (i := 6) rfl
  have q7 := hBg.cell (i := 7) rfl
  have q8 := hBg.cell (i := 8) rfl
  clear hb1
  have none_ : ∀ (w2 : World) (v2 v3 : Value) (b : Bool), Below w.heap.size w w2 → DataRes p a0 m0 c0 l w (.returned (.tuple #[v2, v3, .bool b, .bool false])) w2 := fun w2 v2 v3 b hb => ⟨hb, .inl ⟨v2, v3, b, rfl⟩⟩
  have HNO := Lib.hid none_
  clear none_
  cases b with
  | false =>
    clear hfit
    go_wp2_with fail
    refine bodyPost_ret (v := .tuple #[.slice none 0 0, .slice none 0 0, .bool false, .bool false]) (by simp [results, Tryd.results11, go_sem]) rfl (HNO.out _ _ _ _ hbw1)
  | true =>
    obtain ⟨hnd, hft⟩ := hfit rfl
    have HFT := Lib.hid hft
    clear hfit hft
    obtain ⟨nd, hnd2⟩ : ∃ nd, nd = p.nodes := ⟨_, rfl⟩
    have hpk := packs_any HW.out hnd w1 (HX.out.trans (hbw1.mono hxs))
    rw [← hnd2] at hpk hnd
    have HND := Lib.hid hnd2
    have HPK := Lib.hid hpk
    clear hnd2 hpk
    go_wp2_with fail
    refine HPK.out.mono ?_
    rintro e w2 ⟨rfl, hb2⟩
    have hBg2 := hBg.below hb2 (by omega)
    have hbw2 : Below w.heap.size w w2 := hbw1.trans (hb2.mono (by omega))
    have hs2 : w.heap.size + 1 ≤ w2.heap.size := by have := hb2.size; omega
    clear q0 q1 q2 q3 q4 q5 q6 q7 q8
    have q0 := hBg2.cell (i := 0) rfl
    have q1 := hBg2.cell (i := 1) rfl
    have q2 := hBg2.cell (i := 2) rfl
    have q3 := hBg2.cell (i := 3) rfl
    have q4 := hBg2.cell (i := 4) rfl
    have q5 := hBg2.cell (i := 5) rfl
    have q6 := hBg2.cell (i := 6) rfl
    have q7 := hBg2.cell (i := 7) rfl
    have q8 := hBg2.cell (i := 8) rfl
    by_cases hok : nd ≤ 500 ∧ m0 ≤ 100
    · obtain ⟨hn5, hm1⟩ := hok
      have d1 : decide ((nd : Int) > 500) = false := by simp; omega
      have d2 : decide ((m0 : Int) > 100) = false := by simp; omega
      have hFB : FB (w2.alloc (.cells #[.int .u64 s, .bool sh] 39)) w2.heap.size sh := ⟨s, hs0, by assumption, Blk.new _ _ _⟩
      have hput := putPack_any HW.out HFT.out (by have := HND.out; omega) w2.heap.size sh _ (by have := HX.out.size; omega) ((HX.out.trans (hbw2.mono hxs)).alloc (by omega) _) hFB
      have HP := Lib.hid hput
      clear hput hFB
      go_wp2_with fail
      refine HP.out.mono ?_
      rintro e w3 ⟨a3, n3, c3, x, rfl, ho3, hx3, hB3, hk3⟩
      have hb3 : Below w2.heap.size w2 w3 := Below.trans (b := _) ((Below.refl _ _).alloc (Nat.le_refl _) _) (hk3.below (by simp) (Nat.le_refl _))
      have hs3 : w2.heap.size + 1 ≤ w3.heap.size := by have := hk3.size; simpa using this
      have hBg3 := hBg2.below hb3 (by omega)
      have hbw3 : Below w.heap.size w w3 := hbw2.trans (hb3.mono (by omega))
      have hx0 := enc_len _ _ HFT.out hx3
      have hn3 := ho3.vw.len
      have hcap3 := ho3.vw.cap
      have hbig3 := ho3.vw.big
      have hn3b : n3 ≤ 100000000 := by have := HND.out; omega
      have hn30 : 1 ≤ n3 := by omega
      have ho3m := ho3.mono (B' := w2.heap.size + 1) (by simp)
      have HX3 := Lib.hid hx3
      have HN3 := Lib.hid hn3
      clear q0 q1 q2 q3 q4 q5 q6 q7 q8 hk3 hx0 hx3 hn3 ho3
      have q0 := hBg3.cell (i := 0) rfl
      have q1 := hBg3.cell (i := 1) rfl
      have q2 := hBg3.cell (i := 2) rfl
      have q3 := hBg3.cell (i := 3) rfl
      have q4 := hBg3.cell (i := 4) rfl
      have q5 := hBg3.cell (i := 5) rfl
      have q6 := hBg3.cell (i := 6) rfl
      have q7 := hBg3.cell (i := 7) rfl
      have q8 := hBg3.cell (i := 8) rfl
      by_cases hcu : 0 < cut
      · have dc : decide (cut > 0) = true := by simpa using hcu
        have fin : ∀ (q : Nat), q < n3 → DataRes p a0 m0 c0 l w (.returned (.tuple #[.slice a3 q c3, .slice none 0 0, .bool true, .bool true])) w3 := fun q hq =>
          ⟨hbw3, .inr ⟨HFT.out, hm1, _, _, _, _, _, _, .cut x q HX3.out (by have := HN3.out; omega), rfl, ho3m.vw.take (by omega), by omega⟩⟩
        have FIN := Lib.hid fin
        clear fin
        by_cases hcn : cut ≤ n3
        · obtain ⟨q, rfl⟩ : ∃ q : Nat, cut = (n3 : Int) - q := ⟨(n3 - cut).toNat, by omega⟩
          have hmin : min ((n3 : Int) - q) (n3 : Int) = (n3 : Int) - q := by omega
          go_wp2_with fail
          have hnq : n3 - (n3 - q) = q := by omega
          rw [hnq]
          refine bodyPost_ret (v := .tuple #[.slice a3 q c3, .slice none 0 0, .bool true, .bool true]) (by simp [results, Tryd.results11, go_sem]) rfl (FIN.out q (by omega))
        · have hmin : min cut (n3 : Int) = n3 := by omega
          go_wp2_with fail
          refine bodyPost_ret (v := .tuple #[.slice a3 0 c3, .slice none 0 0, .bool true, .bool true]) (by simp [results, Tryd.results11, go_sem]) rfl (FIN.out 0 (by omega))
      · have dc : decide (cut > 0) = false := by simp; omega
        have hv3 := Vw.below (HX.out.trans (hbw3.mono hxs)) (Nat.le_refl _) HV.out
        have K : ∀ W, Blk W w.heap.size 28 #[.int .i64 k, .int .u64 num, .string t, .int .i64 ext, .slice a n c, .int .u64 s, .bool sh, .slice a0 m0 c0, .int .i64 cut] → (fun W => W.cell? ⟨w.heap.size, 7, none⟩ = some (.slice a0 m0 c0)) W := fun W h => h.cell rfl
        go_wp2_with fail
        clear q0 q1 q2 q3 q4 q5 q6 q7 q8
        refine wp_region_held_drew (S := fun W => W.cell? ⟨w.heap.size, 7, none⟩ = some (.slice a0 m0 c0)) (by kernel_rfl) ?hS0 (fun hHeld => ?hR0)
        case hS0 => (exact K _ (by first | (repeat (first | with_reducible exact Blk.new _ _ _ | with_reducible assumption | with_reducible refine Blk.newAt (by first | rfl | (simp; done) | (simp; omega)) _ _ | with_reducible refine Blk.alloc ?_ _ | with_reducible refine Blk.drewN ?_ _ | with_reducible refine Blk.drew ?_ | with_reducible refine Blk.other ?_ (by first | omega | (simp; done) | (simp; omega)) _)) | assumption))
        refine wpAnyH_take (i := 0) (v := ?_) (by simp only [List.getElem?_toArray, List.getElem?_cons_succ, List.getElem?_cons_zero]; rfl) (by kernel_rfl) (by kernel_rfl) (by kernel_rfl) (by intro _ _ _ h; exact h) (Or.inl ⟨by rfl, ?h0_1⟩) (by assumption) ?r0_1
        case h0_1 => (intro w hSw; (try dsimp only at hSw); go_simp; try with_reducible rfl)
        try simp only [Act.put, List.setIfInBounds_toArray, List.set_cons_zero, List.set_cons_succ]
        refine wpAnyH_take (i := 1) (v := ?_) (by simp only [List.getElem?_toArray, List.getElem?_cons_succ, List.getElem?_cons_zero]; rfl) (by kernel_rfl) (by kernel_rfl) (by kernel_rfl) (by intro _ _ _ h; exact h) (Or.inl ⟨by rfl, ?h1_2⟩) (by assumption) ?r1_2
        case h1_2 => (intro w hSw; (try dsimp only at hSw); go_simp; try with_reducible rfl)
        try simp only [Act.put, List.setIfInBounds_toArray, List.set_cons_zero, List.set_cons_succ]
        refine wpAnyH_take (i := 2) (v := ?_) (by simp only [List.getElem?_toArray, List.getElem?_cons_succ, List.getElem?_cons_zero]; rfl) (by kernel_rfl) (by kernel_rfl) (by kernel_rfl) (by intro _ _ _ h; exact h) (Or.inl ⟨by rfl, ?h2_3⟩) (by assumption) ?r2_3
        case h2_3 => (intro w hSw; (try dsimp only at hSw); go_simp; try with_reducible rfl)
        try simp only [Act.put, List.setIfInBounds_toArray, List.set_cons_zero, List.set_cons_succ]
        refine wpAnyH_take (i := 4) (v := ?_) (by simp only [List.getElem?_toArray, List.getElem?_cons_succ, List.getElem?_cons_zero]; rfl) (by kernel_rfl) (by kernel_rfl) (by kernel_rfl) (by intro _ _ _ h; exact h) (Or.inl ⟨by rfl, ?h4_4⟩) (by assumption) ?r4_4
        case h4_4 => (intro w hSw; (try dsimp only at hSw); go_simp; try with_reducible rfl)
        try simp only [Act.put, List.setIfInBounds_toArray, List.set_cons_zero, List.set_cons_succ]
        refine wpAnyH_take (i := 5) (v := ?_) (by simp only [List.getElem?_toArray, List.getElem?_cons_succ, List.getElem?_cons_zero]; rfl) (by kernel_rfl) (by kernel_rfl) (by kernel_rfl) (by intro _ _ _ h; exact h) (Or.inl ⟨by rfl, ?h5_5⟩) (by assumption) ?r5_5
        case h5_5 => (intro w hSw; (try dsimp only at hSw); go_simp; try with_reducible rfl)
        try simp only [Act.put, List.setIfInBounds_toArray, List.set_cons_zero, List.set_cons_succ]
        refine wpAnyH_ready (rs := [3]) (by kernel_rfl) (by simp) ?_
        refine AllReadyH.cons (by simp only [List.getElem?_toArray, List.getElem?_cons_succ, List.getElem?_cons_zero]; rfl) (fun Kr hKr => ?_) AllReadyH.nil
        refine step_app8 (by rfl) _ _ (by rfl) (w2.heap.size + 1) a3 n3 c3 x (by rfl) ho3m.drew a0 m0 c0 l (by rfl) hv3.drew (by omega) (by simp; omega) ?_; intro a5 c5 w5 ho5 hg5; have hb5 := below_of_grown (B := w2.heap.size + 1) hg5 (by simp; omega) ho3m.ge; have hB5 := Blk.below hBg3.drew hb5 (by omega)
        refine hKr.out _ _ ?hS3_6 (fun hHeld => ?hR3_6)
        case hS3_6 => (exact K _ (by first | (repeat (first | with_reducible exact Blk.new _ _ _ | with_reducible assumption | with_reducible refine Blk.newAt (by first | rfl | (simp; done) | (simp; omega)) _ _ | with_reducible refine Blk.alloc ?_ _ | with_reducible refine Blk.drewN ?_ _ | with_reducible refine Blk.drew ?_ | with_reducible refine Blk.other ?_ (by first | omega | (simp; done) | (simp; omega)) _)) | assumption))
        clear hKr Kr
        try simp only [Act.put, List.setIfInBounds_toArray, List.set_cons_zero, List.set_cons_succ]
        refine wpAnyH_take (i := 6) (v := ?_) (by simp only [List.getElem?_toArray, List.getElem?_cons_succ, List.getElem?_cons_zero]; rfl) (by kernel_rfl) (by kernel_rfl) (by kernel_rfl) (by intro _ _ _ h; exact h) (Or.inl ⟨by rfl, ?h6_7⟩) (by assumption) ?r6_7
        case h6_7 => (intro w hSw; (try dsimp only at hSw); go_simp; try with_reducible rfl)
        try simp only [Act.put, List.setIfInBounds_toArray, List.set_cons_zero, List.set_cons_succ]
        refine wpAnyH_take (i := 7) (v := ?_) (by simp only [List.getElem?_toArray, List.getElem?_cons_succ, List.getElem?_cons_zero]; rfl) (by kernel_rfl) (by kernel_rfl) (by kernel_rfl) (by intro _ _ _ h; exact h) (Or.inl ⟨by rfl, ?h7_8⟩) (by assumption) ?r7_8
        case h7_8 => (intro w hSw; (try dsimp only at hSw); go_simp; try with_reducible rfl)
        try simp only [Act.put, List.setIfInBounds_toArray, List.set_cons_zero, List.set_cons_succ]
        refine wpAnyH_take (i := 8) (v := ?_) (by simp only [List.getElem?_toArray, List.getElem?_cons_succ, List.getElem?_cons_zero]; rfl) (by kernel_rfl) (by kernel_rfl) (by kernel_rfl) (by intro _ _ _ h; exact h) (Or.inl ⟨by rfl, ?h8_9⟩) (by assumption) ?r8_9
        case h8_9 => (intro w hSw; (try dsimp only at hSw); go_simp; try with_reducible rfl)
        try simp only [Act.put, List.setIfInBounds_toArray, List.set_cons_zero, List.set_cons_succ]
        refine wpAnyH_take (i := 9) (v := ?_) (by simp only [List.getElem?_toArray, List.getElem?_cons_succ, List.getElem?_cons_zero]; rfl) (by kernel_rfl) (by kernel_rfl) (by kernel_rfl) (by intro _ _ _ h; exact h) (Or.inl ⟨by rfl, ?h9_10⟩) (by assumption) ?r9_10
        case h9_10 => (intro w hSw; (try dsimp only at hSw); go_simp; try with_reducible rfl)
        try simp only [Act.put, List.setIfInBounds_toArray, List.set_cons_zero, List.set_cons_succ]
        refine wpAnyH_done (by kernel_rfl) ?_ _
        go_wp2_with fail
        refine bodyPost_ret (v := .tuple #[.slice a5 (n3 + m0) c5, .slice a0 m0 c0, .bool false, .bool true]) (by simp [results, Tryd.results11, go_sem]) rfl ⟨Below.trans (b := _) hbw3.drew (hb5.mono (by omega)), .inr ⟨HFT.out, hm1, _, _, _, _, _, _, .whole x HX3.out, rfl, ho5.vw, by omega⟩⟩
    · have HOK := Lib.hid hok
      clear hok
      by_cases hn5 : nd ≤ 500
      · have d1 : decide ((nd : Int) > 500) = false := by simp; omega
        have d2 : decide ((m0 : Int) > 100) = true := by have := HOK.out; simp; omega
        go_wp2_with fail
        refine bodyPost_ret (v := .tuple #[.slice none 0 0, .slice none 0 0, .bool false, .bool false]) (by simp [results, Tryd.results11, go_sem]) rfl (HNO.out _ _ _ _ hbw2)
      · have d1 : decide ((nd : Int) > 500) = true := by simp; omega
        go_wp2_with fail
        refine bodyPost_ret (v := .tuple #[.slice none 0 0, .slice none 0 0, .bool false, .bool false]) (by simp [results, Tryd.results11, go_sem]) rfl (HNO.out _ _ _ _ hbw2)
end Go.Proofs.YtnahohkfkkemfaaDoor
