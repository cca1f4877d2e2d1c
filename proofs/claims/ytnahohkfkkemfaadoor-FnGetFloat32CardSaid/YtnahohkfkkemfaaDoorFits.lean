/- spec.packFits. -/
import Derived.Test.YtnahohkfkkemfaaDoorFew
namespace Go.Proofs.YtnahohkfkkemfaaDoor
open Go.RowKit
set_option linter.unusedVariables false
set_option linter.unusedSimpArgs false

/-- What a node must meet. -/
def FitN (k num : Int) (ts : Nat) (ext : Int) (n : Nat) : Prop :=
  0 ≤ k ∧ k ≤ 10 ∧ (k = 1 → num ≤ 1) ∧ (k = 4 → num < 4294967296) ∧ -128 ≤ ext ∧ ext ≤ 127 ∧ n ≤ 2000 ∧ ts ≤ 131072

mutual
def Pk.fits : Pk → Prop
  | .mk k num t ext ks => FitN k num t.size ext ks.length ∧ Pk.fitsL ks
def Pk.fitsL : List Pk → Prop
  | [] => True
  | k :: ks => k.fits ∧ Pk.fitsL ks
end
theorem fitsL_snoc (ks : List Pk) (j : Nat) (h : j < ks.length) (h1 : Pk.fitsL (ks.take j)) (h2 : ks[j].fits) : Pk.fitsL (ks.take (j + 1)) := by
  induction ks generalizing j with
  | nil => simp at h
  | cons k ks ih =>
    cases j with
    | zero => exact ⟨by simpa using h2, trivial⟩
    | succ j =>
      have h1' : k.fits ∧ Pk.fitsL (ks.take j) := by simpa [Pk.fitsL] using h1
      exact ⟨h1'.1, ih j (by simpa using h) h1'.2 (by simpa using h2)⟩
theorem fitsL_at (ks : List Pk) (j : Nat) (h : j < ks.length) (h1 : Pk.fitsL ks) : ks[j].fits := by
  induction ks generalizing j with
  | nil => simp at h
  | cons k ks ih =>
    have h1' : k.fits ∧ Pk.fitsL ks := h1
    cases j with
    | zero => exact h1'.1
    | succ j => simpa using ih j (by simpa using h) h1'.2

/-- What packFits tells. -/
def FitRes (P : Prop) (w : World) (e : Ending) (w' : World) : Prop := ∃ b : Bool, e = .returned (.bool b) ∧ (b = true → P) ∧ Below w.heap.size w w'

set_option maxRecDepth 100000 in
set_option maxHeartbeats 40000000 in
theorem fits_any {w0 : World} {t : Pk} {v : Value} (h : PkAt w0 t v) : ∀ (lv : Int) (w : World), lv ≤ 100 → -100 ≤ lv → Below w0.heap.size w0 w →
    Calls Tryd.prog 46 #[v, .int .i64 lv] w (FitRes t.fits w) := by
  induction h with
  | mk k num ext t kids a c vs hr hc hk ih =>
    intro lv w hlv hlv2 hx
    obtain ⟨hr1, hr2, hr3, hr4, hr5, hr6⟩ := hr
    obtain ⟨m, hm⟩ : ∃ m, m = kids.length := ⟨_, rfl⟩
    rw [← hm] at hr5 ⊢
    have HM := Lib.hid hm
    have HI := Lib.hid ih
    have HK := Lib.hid hk
    have HC := Lib.hid hc
    have HX := Lib.hid hx
    clear hm ih hk hc hx
    unfold pkV
    by_cases hk0 : k < 0
    · go_enter Tryd.func46, Tryd.ntmps46
      go_wp2_with fail
      all_goals (go_ret; exact ⟨false, rfl, (fun h => by cases h), by (repeat (first | with_reducible exact Below.refl _ _ | with_reducible assumption | with_reducible refine below_drewN ?_ _ | with_reducible refine Below.drew ?_ | with_reducible refine below_row ?_ (by first | omega | (simp; done) | (simp; omega)) _ | with_reducible refine Below.alloc ?_ (by first | omega | (simp; done) | (simp; omega)) _ | with_reducible refine Below.setCell ?_ (by first | omega | (simp; done) | (simp; omega)) _))⟩)
    by_cases hk1 : 11 ≤ k
    · go_enter Tryd.func46, Tryd.ntmps46
      go_wp2_with fail
      all_goals (go_ret; exact ⟨false, rfl, (fun h => by cases h), by (repeat (first | with_reducible exact Below.refl _ _ | with_reducible assumption | with_reducible refine below_drewN ?_ _ | with_reducible refine Below.drew ?_ | with_reducible refine below_row ?_ (by first | omega | (simp; done) | (simp; omega)) _ | with_reducible refine Below.alloc ?_ (by first | omega | (simp; done) | (simp; omega)) _ | with_reducible refine Below.setCell ?_ (by first | omega | (simp; done) | (simp; omega)) _))⟩)
    obtain rfl | rfl | rfl | rfl | rfl | rfl | rfl | rfl | rfl | rfl | rfl : k = 0 ∨ k = 1 ∨ k = 2 ∨ k = 3 ∨ k = 4 ∨ k = 5 ∨ k = 6 ∨ k = 7 ∨ k = 8 ∨ k = 9 ∨ k = 10 := by omega
    all_goals clear hk0 hk1 hr1
    · go_enter Tryd.func46, Tryd.ntmps46
      go_wp2_with fail
      all_goals first | (go_ret; exact ⟨false, rfl, (fun h => by cases h), by (repeat (first | with_reducible exact Below.refl _ _ | with_reducible assumption | with_reducible refine below_drewN ?_ _ | with_reducible refine Below.drew ?_ | with_reducible refine below_row ?_ (by first | omega | (simp; done) | (simp; omega)) _ | with_reducible refine Below.alloc ?_ (by first | omega | (simp; done) | (simp; omega)) _ | with_reducible refine Below.setCell ?_ (by first | omega | (simp; done) | (simp; omega)) _))⟩) | skip
      all_goals
        have hm0 : kids.length = 0 := by have := HM.out; omega
        have hN : FitN 0 num t.size ext kids.length := by
          rw [hm0]; unfold FitN; omega
        have hF : (Pk.mk 0 num t ext kids).fits := ⟨hN, by rw [List.length_eq_zero_iff.mp hm0]; trivial⟩
        go_loopw [145] (fun i wr => i = .int .i64 0 ∧ Below w.heap.size w wr) (fun _ _ => 0)
        case atStart => exact ⟨rfl, by (repeat (first | with_reducible exact Below.refl _ _ | with_reducible assumption | with_reducible refine below_drewN ?_ _ | with_reducible refine Below.drew ?_ | with_reducible refine below_row ?_ (by first | omega | (simp; done) | (simp; omega)) _ | with_reducible refine Below.alloc ?_ (by first | omega | (simp; done) | (simp; omega)) _ | with_reducible refine Below.setCell ?_ (by first | omega | (simp; done) | (simp; omega)) _))⟩
        case round =>
          obtain ⟨rfl, hbw⟩ := hrel
          go_wp2_with fail
          go_ret
          exact ⟨true, rfl, fun _ => hF, hbw⟩
    · go_enter Tryd.func46, Tryd.ntmps46
      go_wp2_with fail
      all_goals first | (go_ret; exact ⟨false, rfl, (fun h => by cases h), by (repeat (first | with_reducible exact Below.refl _ _ | with_reducible assumption | with_reducible refine below_drewN ?_ _ | with_reducible refine Below.drew ?_ | with_reducible refine below_row ?_ (by first | omega | (simp; done) | (simp; omega)) _ | with_reducible refine Below.alloc ?_ (by first | omega | (simp; done) | (simp; omega)) _ | with_reducible refine Below.setCell ?_ (by first | omega | (simp; done) | (simp; omega)) _))⟩) | skip
      all_goals
        have hm0 : kids.length = 0 := by have := HM.out; omega
        have hN : FitN 1 num t.size ext kids.length := by
          rw [hm0]; unfold FitN; omega
        have hF : (Pk.mk 1 num t ext kids).fits := ⟨hN, by rw [List.length_eq_zero_iff.mp hm0]; trivial⟩
        go_loopw [145] (fun i wr => i = .int .i64 0 ∧ Below w.heap.size w wr) (fun _ _ => 0)
        case atStart => exact ⟨rfl, by (repeat (first | with_reducible exact Below.refl _ _ | with_reducible assumption | with_reducible refine below_drewN ?_ _ | with_reducible refine Below.drew ?_ | with_reducible refine below_row ?_ (by first | omega | (simp; done) | (simp; omega)) _ | with_reducible refine Below.alloc ?_ (by first | omega | (simp; done) | (simp; omega)) _ | with_reducible refine Below.setCell ?_ (by first | omega | (simp; done) | (simp; omega)) _))⟩
        case round =>
          obtain ⟨rfl, hbw⟩ := hrel
          go_wp2_with fail
          go_ret
          exact ⟨true, rfl, fun _ => hF, hbw⟩
    · go_enter Tryd.func46, Tryd.ntmps46
      go_wp2_with fail
      all_goals first | (go_ret; exact ⟨false, rfl, (fun h => by cases h), by (repeat (first | with_reducible exact Below.refl _ _ | with_reducible assumption | with_reducible refine below_drewN ?_ _ | with_reducible refine Below.drew ?_ | with_reducible refine below_row ?_ (by first | omega | (simp; done) | (simp; omega)) _ | with_reducible refine Below.alloc ?_ (by first | omega | (simp; done) | (simp; omega)) _ | with_reducible refine Below.setCell ?_ (by first | omega | (simp; done) | (simp; omega)) _))⟩) | skip
      all_goals
        have hm0 : kids.length = 0 := by have := HM.out; omega
        have hN : FitN 2 num t.size ext kids.length := by
          rw [hm0]; unfold FitN; omega
        have hF : (Pk.mk 2 num t ext kids).fits := ⟨hN, by rw [List.length_eq_zero_iff.mp hm0]; trivial⟩
        go_loopw [145] (fun i wr => i = .int .i64 0 ∧ Below w.heap.size w wr) (fun _ _ => 0)
        case atStart => exact ⟨rfl, by (repeat (first | with_reducible exact Below.refl _ _ | with_reducible assumption | with_reducible refine below_drewN ?_ _ | with_reducible refine Below.drew ?_ | with_reducible refine below_row ?_ (by first | omega | (simp; done) | (simp; omega)) _ | with_reducible refine Below.alloc ?_ (by first | omega | (simp; done) | (simp; omega)) _ | with_reducible refine Below.setCell ?_ (by first | omega | (simp; done) | (simp; omega)) _))⟩
        case round =>
          obtain ⟨rfl, hbw⟩ := hrel
          go_wp2_with fail
          go_ret
          exact ⟨true, rfl, fun _ => hF, hbw⟩
    · go_enter Tryd.func46, Tryd.ntmps46
      go_wp2_with fail
      all_goals first | (go_ret; exact ⟨false, rfl, (fun h => by cases h), by (repeat (first | with_reducible exact Below.refl _ _ | with_reducible assumption | with_reducible refine below_drewN ?_ _ | with_reducible refine Below.drew ?_ | with_reducible refine below_row ?_ (by first | omega | (simp; done) | (simp; omega)) _ | with_reducible refine Below.alloc ?_ (by first | omega | (simp; done) | (simp; omega)) _ | with_reducible refine Below.setCell ?_ (by first | omega | (simp; done) | (simp; omega)) _))⟩) | skip
      all_goals
        have hm0 : kids.length = 0 := by have := HM.out; omega
        have hN : FitN 3 num t.size ext kids.length := by
          rw [hm0]; unfold FitN; omega
        have hF : (Pk.mk 3 num t ext kids).fits := ⟨hN, by rw [List.length_eq_zero_iff.mp hm0]; trivial⟩
        go_loopw [145] (fun i wr => i = .int .i64 0 ∧ Below w.heap.size w wr) (fun _ _ => 0)
        case atStart => exact ⟨rfl, by (repeat (first | with_reducible exact Below.refl _ _ | with_reducible assumption | with_reducible refine below_drewN ?_ _ | with_reducible refine Below.drew ?_ | with_reducible refine below_row ?_ (by first | omega | (simp; done) | (simp; omega)) _ | with_reducible refine Below.alloc ?_ (by first | omega | (simp; done) | (simp; omega)) _ | with_reducible refine Below.setCell ?_ (by first | omega | (simp; done) | (simp; omega)) _))⟩
        case round =>
          obtain ⟨rfl, hbw⟩ := hrel
          go_wp2_with fail
          go_ret
          exact ⟨true, rfl, fun _ => hF, hbw⟩
    · go_enter Tryd.func46, Tryd.ntmps46
      go_wp2_with fail
      all_goals first | (go_ret; exact ⟨false, rfl, (fun h => by cases h), by (repeat (first | with_reducible exact Below.refl _ _ | with_reducible assumption | with_reducible refine below_drewN ?_ _ | with_reducible refine Below.drew ?_ | with_reducible refine below_row ?_ (by first | omega | (simp; done) | (simp; omega)) _ | with_reducible refine Below.alloc ?_ (by first | omega | (simp; done) | (simp; omega)) _ | with_reducible refine Below.setCell ?_ (by first | omega | (simp; done) | (simp; omega)) _))⟩) | skip
      all_goals
        have hm0 : kids.length = 0 := by have := HM.out; omega
        have hN : FitN 4 num t.size ext kids.length := by
          rw [hm0]; unfold FitN; omega
        have hF : (Pk.mk 4 num t ext kids).fits := ⟨hN, by rw [List.length_eq_zero_iff.mp hm0]; trivial⟩
        go_loopw [145] (fun i wr => i = .int .i64 0 ∧ Below w.heap.size w wr) (fun _ _ => 0)
        case atStart => exact ⟨rfl, by (repeat (first | with_reducible exact Below.refl _ _ | with_reducible assumption | with_reducible refine below_drewN ?_ _ | with_reducible refine Below.drew ?_ | with_reducible refine below_row ?_ (by first | omega | (simp; done) | (simp; omega)) _ | with_reducible refine Below.alloc ?_ (by first | omega | (simp; done) | (simp; omega)) _ | with_reducible refine Below.setCell ?_ (by first | omega | (simp; done) | (simp; omega)) _))⟩
        case round =>
          obtain ⟨rfl, hbw⟩ := hrel
          go_wp2_with fail
          go_ret
          exact ⟨true, rfl, fun _ => hF, hbw⟩
    · go_enter Tryd.func46, Tryd.ntmps46
      go_wp2_with fail
      all_goals first | (go_ret; exact ⟨false, rfl, (fun h => by cases h), by (repeat (first | with_reducible exact Below.refl _ _ | with_reducible assumption | with_reducible refine below_drewN ?_ _ | with_reducible refine Below.drew ?_ | with_reducible refine below_row ?_ (by first | omega | (simp; done) | (simp; omega)) _ | with_reducible refine Below.alloc ?_ (by first | omega | (simp; done) | (simp; omega)) _ | with_reducible refine Below.setCell ?_ (by first | omega | (simp; done) | (simp; omega)) _))⟩) | skip
      all_goals
        have hm0 : kids.length = 0 := by have := HM.out; omega
        have hN : FitN 5 num t.size ext kids.length := by
          rw [hm0]; unfold FitN; omega
        have hF : (Pk.mk 5 num t ext kids).fits := ⟨hN, by rw [List.length_eq_zero_iff.mp hm0]; trivial⟩
        go_loopw [145] (fun i wr => i = .int .i64 0 ∧ Below w.heap.size w wr) (fun _ _ => 0)
        case atStart => exact ⟨rfl, by (repeat (first | with_reducible exact Below.refl _ _ | with_reducible assumption | with_reducible refine below_drewN ?_ _ | with_reducible refine Below.drew ?_ | with_reducible refine below_row ?_ (by first | omega | (simp; done) | (simp; omega)) _ | with_reducible refine Below.alloc ?_ (by first | omega | (simp; done) | (simp; omega)) _ | with_reducible refine Below.setCell ?_ (by first | omega | (simp; done) | (simp; omega)) _))⟩
        case round =>
          obtain ⟨rfl, hbw⟩ := hrel
          go_wp2_with fail
          go_ret
          exact ⟨true, rfl, fun _ => hF, hbw⟩
    · go_enter Tryd.func46, Tryd.ntmps46
      go_wp2_with fail
      all_goals first | (go_ret; exact ⟨false, rfl, (fun h => by cases h), by (repeat (first | with_reducible exact Below.refl _ _ | with_reducible assumption | with_reducible refine below_drewN ?_ _ | with_reducible refine Below.drew ?_ | with_reducible refine below_row ?_ (by first | omega | (simp; done) | (simp; omega)) _ | with_reducible refine Below.alloc ?_ (by first | omega | (simp; done) | (simp; omega)) _ | with_reducible refine Below.setCell ?_ (by first | omega | (simp; done) | (simp; omega)) _))⟩) | skip
      all_goals
        have hm0 : kids.length = 0 := by have := HM.out; omega
        have hN : FitN 6 num t.size ext kids.length := by
          rw [hm0]; unfold FitN; omega
        have hF : (Pk.mk 6 num t ext kids).fits := ⟨hN, by rw [List.length_eq_zero_iff.mp hm0]; trivial⟩
        go_loopw [145] (fun i wr => i = .int .i64 0 ∧ Below w.heap.size w wr) (fun _ _ => 0)
        case atStart => exact ⟨rfl, by (repeat (first | with_reducible exact Below.refl _ _ | with_reducible assumption | with_reducible refine below_drewN ?_ _ | with_reducible refine Below.drew ?_ | with_reducible refine below_row ?_ (by first | omega | (simp; done) | (simp; omega)) _ | with_reducible refine Below.alloc ?_ (by first | omega | (simp; done) | (simp; omega)) _ | with_reducible refine Below.setCell ?_ (by first | omega | (simp; done) | (simp; omega)) _))⟩
        case round =>
          obtain ⟨rfl, hbw⟩ := hrel
          go_wp2_with fail
          go_ret
          exact ⟨true, rfl, fun _ => hF, hbw⟩
    · go_enter Tryd.func46, Tryd.ntmps46
      go_wp2_with fail
      all_goals first | (go_ret; exact ⟨false, rfl, (fun h => by cases h), by (repeat (first | with_reducible exact Below.refl _ _ | with_reducible assumption | with_reducible refine below_drewN ?_ _ | with_reducible refine Below.drew ?_ | with_reducible refine below_row ?_ (by first | omega | (simp; done) | (simp; omega)) _ | with_reducible refine Below.alloc ?_ (by first | omega | (simp; done) | (simp; omega)) _ | with_reducible refine Below.setCell ?_ (by first | omega | (simp; done) | (simp; omega)) _))⟩) | skip
      all_goals
        have hm0 : kids.length = 0 := by have := HM.out; omega
        have hN : FitN 7 num t.size ext kids.length := by
          rw [hm0]; unfold FitN; omega
        have hF : (Pk.mk 7 num t ext kids).fits := ⟨hN, by rw [List.length_eq_zero_iff.mp hm0]; trivial⟩
        go_loopw [145] (fun i wr => i = .int .i64 0 ∧ Below w.heap.size w wr) (fun _ _ => 0)
        case atStart => exact ⟨rfl, by (repeat (first | with_reducible exact Below.refl _ _ | with_reducible assumption | with_reducible refine below_drewN ?_ _ | with_reducible refine Below.drew ?_ | with_reducible refine below_row ?_ (by first | omega | (simp; done) | (simp; omega)) _ | with_reducible refine Below.alloc ?_ (by first | omega | (simp; done) | (simp; omega)) _ | with_reducible refine Below.setCell ?_ (by first | omega | (simp; done) | (simp; omega)) _))⟩
        case round =>
          obtain ⟨rfl, hbw⟩ := hrel
          go_wp2_with fail
          go_ret
          exact ⟨true, rfl, fun _ => hF, hbw⟩
    · go_enter Tryd.func46, Tryd.ntmps46
      go_wp2_with fail
      all_goals first | (go_ret; exact ⟨false, rfl, (fun h => by cases h), by (repeat (first | with_reducible exact Below.refl _ _ | with_reducible assumption | with_reducible refine below_drewN ?_ _ | with_reducible refine Below.drew ?_ | with_reducible refine below_row ?_ (by first | omega | (simp; done) | (simp; omega)) _ | with_reducible refine Below.alloc ?_ (by first | omega | (simp; done) | (simp; omega)) _ | with_reducible refine Below.setCell ?_ (by first | omega | (simp; done) | (simp; omega)) _))⟩) | skip
      all_goals
        have hN : FitN 8 num t.size ext kids.length := by
          rw [← HM.out]; unfold FitN; omega
        go_loopw [145] (fun i wr => ∃ j, j ≤ m ∧ i = .int .i64 j ∧ Pk.fitsL (kids.take j) ∧ Below w.heap.size w wr) (fun i _ => m - (intOf i).toNat)
        case atStart => exact ⟨0, Nat.zero_le _, rfl, trivial, by (repeat (first | with_reducible exact Below.refl _ _ | with_reducible assumption | with_reducible refine below_drewN ?_ _ | with_reducible refine Below.drew ?_ | with_reducible refine below_row ?_ (by first | omega | (simp; done) | (simp; omega)) _ | with_reducible refine Below.alloc ?_ (by first | omega | (simp; done) | (simp; omega)) _ | with_reducible refine Below.setCell ?_ (by first | omega | (simp; done) | (simp; omega)) _))⟩
        case round =>
          obtain ⟨j, hj, rfl, hfl, hbw⟩ := hrel
          have hsz := hbw.size
          by_cases hlt : j < m
          · have hje : j < kids.length := by rw [← HM.out]; exact hlt
            have hxr : Below w0.heap.size w0 wr := HX.out.trans (hbw.mono HX.out.size)
            obtain ⟨b, off, k', num', t', ext', a', n', c', rfl, hvs, q0, q1, q2, q3, q4⟩ := kid_cells HC.out hxr j hje (HK.out j hje)
            have hcall := HI.out j hje (lv - 1)
            rw [hvs] at hcall
            have HA := Lib.hid hcall
            have HVS := Lib.hid hvs
            clear hcall hvs
            go_wp2_with fail
            refine (HA.out _ (by omega) (by omega) (HX.out.trans ((Below.trans (b := _) hbw (by (repeat (first | with_reducible exact Below.refl _ _ | with_reducible assumption | with_reducible refine below_drewN ?_ _ | with_reducible refine Below.drew ?_ | with_reducible refine below_row ?_ (by first | omega | (simp; done) | (simp; omega)) _ | with_reducible refine Below.alloc ?_ (by first | omega | (simp; done) | (simp; omega)) _ | with_reducible refine Below.setCell ?_ (by first | omega | (simp; done) | (simp; omega)) _)))).mono HX.out.size))).mono ?_
            rintro e w1 ⟨b1, rfl, hb1, hbl⟩
            cases b1 with
            | false =>
              clear hb1
              go_wp2_with fail
              go_ret
              exact ⟨false, rfl, (fun h => by cases h), Below.trans (b := _) (by (repeat (first | with_reducible exact Below.refl _ _ | with_reducible assumption | with_reducible refine below_drewN ?_ _ | with_reducible refine Below.drew ?_ | with_reducible refine below_row ?_ (by first | omega | (simp; done) | (simp; omega)) _ | with_reducible refine Below.alloc ?_ (by first | omega | (simp; done) | (simp; omega)) _ | with_reducible refine Below.setCell ?_ (by first | omega | (simp; done) | (simp; omega)) _))) (hbl.mono (by (first | omega | (simp; done) | (simp; omega))))⟩
            | true =>
              have HB1 := Lib.hid (hb1 rfl)
              clear hb1
              go_wp2_with fail
              go_roundw
              case rel => exact ⟨j + 1, by omega, by go_num, fitsL_snoc kids j hje hfl HB1.out, Below.trans (b := _) (by (repeat (first | with_reducible exact Below.refl _ _ | with_reducible assumption | with_reducible refine below_drewN ?_ _ | with_reducible refine Below.drew ?_ | with_reducible refine below_row ?_ (by first | omega | (simp; done) | (simp; omega)) _ | with_reducible refine Below.alloc ?_ (by first | omega | (simp; done) | (simp; omega)) _ | with_reducible refine Below.setCell ?_ (by first | omega | (simp; done) | (simp; omega)) _))) (hbl.mono (by (first | omega | (simp; done) | (simp; omega))))⟩
              case measure => simp [intOf]; omega
          · obtain rfl : j = m := by omega
            have et : kids.take j = kids := List.take_of_length_le (by rw [← HM.out]; exact Nat.le_refl _)
            rw [et] at hfl
            clear et
            go_wp2_with fail
            go_ret
            exact ⟨true, rfl, fun _ => ⟨hN, hfl⟩, hbw⟩
    · by_cases hm2 : ((m : Int) % 2 == 1) = true
      · go_enter Tryd.func46, Tryd.ntmps46
        go_wp2_with fail
        all_goals (go_ret; exact ⟨false, rfl, (fun h => by cases h), by (repeat (first | with_reducible exact Below.refl _ _ | with_reducible assumption | with_reducible refine below_drewN ?_ _ | with_reducible refine Below.drew ?_ | with_reducible refine below_row ?_ (by first | omega | (simp; done) | (simp; omega)) _ | with_reducible refine Below.alloc ?_ (by first | omega | (simp; done) | (simp; omega)) _ | with_reducible refine Below.setCell ?_ (by first | omega | (simp; done) | (simp; omega)) _))⟩)
      have hm2' : ((m : Int) % 2 == 1) = false := by simpa using hm2
      clear hm2
      go_enter Tryd.func46, Tryd.ntmps46
      go_wp2_with fail
      all_goals first | (go_ret; exact ⟨false, rfl, (fun h => by cases h), by (repeat (first | with_reducible exact Below.refl _ _ | with_reducible assumption | with_reducible refine below_drewN ?_ _ | with_reducible refine Below.drew ?_ | with_reducible refine below_row ?_ (by first | omega | (simp; done) | (simp; omega)) _ | with_reducible refine Below.alloc ?_ (by first | omega | (simp; done) | (simp; omega)) _ | with_reducible refine Below.setCell ?_ (by first | omega | (simp; done) | (simp; omega)) _))⟩) | skip
      all_goals
        have hN : FitN 9 num t.size ext kids.length := by
          rw [← HM.out]; unfold FitN; omega
        go_loopw [145] (fun i wr => ∃ j, j ≤ m ∧ i = .int .i64 j ∧ Pk.fitsL (kids.take j) ∧ Below w.heap.size w wr) (fun i _ => m - (intOf i).toNat)
        case atStart => exact ⟨0, Nat.zero_le _, rfl, trivial, by (repeat (first | with_reducible exact Below.refl _ _ | with_reducible assumption | with_reducible refine below_drewN ?_ _ | with_reducible refine Below.drew ?_ | with_reducible refine below_row ?_ (by first | omega | (simp; done) | (simp; omega)) _ | with_reducible refine Below.alloc ?_ (by first | omega | (simp; done) | (simp; omega)) _ | with_reducible refine Below.setCell ?_ (by first | omega | (simp; done) | (simp; omega)) _))⟩
        case round =>
          obtain ⟨j, hj, rfl, hfl, hbw⟩ := hrel
          have hsz := hbw.size
          by_cases hlt : j < m
          · have hje : j < kids.length := by rw [← HM.out]; exact hlt
            have hxr : Below w0.heap.size w0 wr := HX.out.trans (hbw.mono HX.out.size)
            obtain ⟨b, off, k', num', t', ext', a', n', c', rfl, hvs, q0, q1, q2, q3, q4⟩ := kid_cells HC.out hxr j hje (HK.out j hje)
            have hcall := HI.out j hje (lv - 1)
            rw [hvs] at hcall
            have HA := Lib.hid hcall
            have HVS := Lib.hid hvs
            clear hcall hvs
            go_wp2_with fail
            refine (HA.out _ (by omega) (by omega) (HX.out.trans ((Below.trans (b := _) hbw (by (repeat (first | with_reducible exact Below.refl _ _ | with_reducible assumption | with_reducible refine below_drewN ?_ _ | with_reducible refine Below.drew ?_ | with_reducible refine below_row ?_ (by first | omega | (simp; done) | (simp; omega)) _ | with_reducible refine Below.alloc ?_ (by first | omega | (simp; done) | (simp; omega)) _ | with_reducible refine Below.setCell ?_ (by first | omega | (simp; done) | (simp; omega)) _)))).mono HX.out.size))).mono ?_
            rintro e w1 ⟨b1, rfl, hb1, hbl⟩
            cases b1 with
            | false =>
              clear hb1
              go_wp2_with fail
              go_ret
              exact ⟨false, rfl, (fun h => by cases h), Below.trans (b := _) (by (repeat (first | with_reducible exact Below.refl _ _ | with_reducible assumption | with_reducible refine below_drewN ?_ _ | with_reducible refine Below.drew ?_ | with_reducible refine below_row ?_ (by first | omega | (simp; done) | (simp; omega)) _ | with_reducible refine Below.alloc ?_ (by first | omega | (simp; done) | (simp; omega)) _ | with_reducible refine Below.setCell ?_ (by first | omega | (simp; done) | (simp; omega)) _))) (hbl.mono (by (first | omega | (simp; done) | (simp; omega))))⟩
            | true =>
              have HB1 := Lib.hid (hb1 rfl)
              clear hb1
              go_wp2_with fail
              go_roundw
              case rel => exact ⟨j + 1, by omega, by go_num, fitsL_snoc kids j hje hfl HB1.out, Below.trans (b := _) (by (repeat (first | with_reducible exact Below.refl _ _ | with_reducible assumption | with_reducible refine below_drewN ?_ _ | with_reducible refine Below.drew ?_ | with_reducible refine below_row ?_ (by first | omega | (simp; done) | (simp; omega)) _ | with_reducible refine Below.alloc ?_ (by first | omega | (simp; done) | (simp; omega)) _ | with_reducible refine Below.setCell ?_ (by first | omega | (simp; done) | (simp; omega)) _))) (hbl.mono (by (first | omega | (simp; done) | (simp; omega))))⟩
              case measure => simp [intOf]; omega
          · obtain rfl : j = m := by omega
            have et : kids.take j = kids := List.take_of_length_le (by rw [← HM.out]; exact Nat.le_refl _)
            rw [et] at hfl
            clear et
            go_wp2_with fail
            go_ret
            exact ⟨true, rfl, fun _ => ⟨hN, hfl⟩, hbw⟩
    · go_enter Tryd.func46, Tryd.ntmps46
      go_wp2_with fail
      all_goals first | (go_ret; exact ⟨false, rfl, (fun h => by cases h), by (repeat (first | with_reducible exact Below.refl _ _ | with_reducible assumption | with_reducible refine below_drewN ?_ _ | with_reducible refine Below.drew ?_ | with_reducible refine below_row ?_ (by first | omega | (simp; done) | (simp; omega)) _ | with_reducible refine Below.alloc ?_ (by first | omega | (simp; done) | (simp; omega)) _ | with_reducible refine Below.setCell ?_ (by first | omega | (simp; done) | (simp; omega)) _))⟩) | skip
      all_goals
        have hm0 : kids.length = 0 := by have := HM.out; omega
        have hN : FitN 10 num t.size ext kids.length := by
          rw [hm0]; unfold FitN; omega
        have hF : (Pk.mk 10 num t ext kids).fits := ⟨hN, by rw [List.length_eq_zero_iff.mp hm0]; trivial⟩
        go_loopw [145] (fun i wr => i = .int .i64 0 ∧ Below w.heap.size w wr) (fun _ _ => 0)
        case atStart => exact ⟨rfl, by (repeat (first | with_reducible exact Below.refl _ _ | with_reducible assumption | with_reducible refine below_drewN ?_ _ | with_reducible refine Below.drew ?_ | with_reducible refine below_row ?_ (by first | omega | (simp; done) | (simp; omega)) _ | with_reducible refine Below.alloc ?_ (by first | omega | (simp; done) | (simp; omega)) _ | with_reducible refine Below.setCell ?_ (by first | omega | (simp; done) | (simp; omega)) _))⟩
        case round =>
          obtain ⟨rfl, hbw⟩ := hrel
          go_wp2_with fail
          go_ret
          exact ⟨true, rfl, fun _ => hF, hbw⟩
end Go.Proofs.YtnahohkfkkemfaaDoor
