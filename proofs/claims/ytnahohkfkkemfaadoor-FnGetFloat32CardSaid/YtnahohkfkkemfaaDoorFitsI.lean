/- spec.Integer, spec.FitsInt and spec.FitsUint of 64 bits. -/
import Derived.Test.YtnahohkfkkemfaaDoorGiven
import Derived.Test.YtnahohkfkkemfaaDoorIntP
namespace Go.Proofs.YtnahohkfkkemfaaDoor
open Go.RowKit
set_option linter.unusedVariables false
set_option linter.unusedSimpArgs false

set_option maxRecDepth 100000 in
theorem integer_any (k num : Int) (t : ByteArray) (ext : Int) (a : Option Addr) (n c : Nat) (w : World) :
    Calls Tryd.prog 33 #[pkV k num t ext a n c] w fun e w' => e = .returned (.bool (decide (k = 2 ∨ k = 3))) ∧ Below w.heap.size w w' := by
  unfold pkV
  by_cases h2 : k = 2
  · subst h2
    go_enter Tryd.func33, Tryd.ntmps33
    go_wp2_with fail
    go_ret
    exact ⟨rfl, by (repeat (first | with_reducible exact Below.refl _ _ | with_reducible assumption | with_reducible refine below_drewN ?_ _ | with_reducible refine Below.drew ?_ | with_reducible refine below_row ?_ (by first | omega | (simp; done) | (simp; omega)) _ | with_reducible refine Below.alloc ?_ (by first | omega | (simp; done) | (simp; omega)) _ | with_reducible refine Below.setCell ?_ (by first | omega | (simp; done) | (simp; omega)) _))⟩
  · have d2 : (k == 2) = false := by simpa using h2
    by_cases h3 : k = 3
    · subst h3
      go_enter Tryd.func33, Tryd.ntmps33
      go_wp2_with fail
      go_ret
      exact ⟨rfl, by (repeat (first | with_reducible exact Below.refl _ _ | with_reducible assumption | with_reducible refine below_drewN ?_ _ | with_reducible refine Below.drew ?_ | with_reducible refine below_row ?_ (by first | omega | (simp; done) | (simp; omega)) _ | with_reducible refine Below.alloc ?_ (by first | omega | (simp; done) | (simp; omega)) _ | with_reducible refine Below.setCell ?_ (by first | omega | (simp; done) | (simp; omega)) _))⟩
    · have d3 : (k == 3) = false := by simpa using h3
      have hd : decide (k = 2 ∨ k = 3) = false := by simp; omega
      rw [hd]
      clear hd h2 h3
      go_enter Tryd.func33, Tryd.ntmps33
      go_wp2_with fail
      go_ret
      exact ⟨rfl, by (repeat (first | with_reducible exact Below.refl _ _ | with_reducible assumption | with_reducible refine below_drewN ?_ _ | with_reducible refine Below.drew ?_ | with_reducible refine below_row ?_ (by first | omega | (simp; done) | (simp; omega)) _ | with_reducible refine Below.alloc ?_ (by first | omega | (simp; done) | (simp; omega)) _ | with_reducible refine Below.setCell ?_ (by first | omega | (simp; done) | (simp; omega)) _))⟩
def fitI (k num : Int) : Bool := decide ((k = 2 ∨ k = 3) ∧ ¬ (k = 3 ∧ 9223372036854775808 ≤ num))
def fitU (k num : Int) : Bool := decide ((k = 2 ∨ k = 3) ∧ ¬ (k = 2 ∧ 9223372036854775808 ≤ num))

set_option maxRecDepth 100000 in
set_option maxHeartbeats 4000000 in
theorem fitsInt_any (k num : Int) (h0 : 0 ≤ num) (h1 : num < 18446744073709551616) (t : ByteArray) (ext : Int) (a : Option Addr) (n c : Nat) (w : World) :
    Calls Tryd.prog 17 #[pkV k num t ext a n c, .int .i64 64] w fun e w' => e = .returned (.bool (fitI k num)) ∧ Below w.heap.size w w' := by
  have hI := integer_any k num t ext a n c
  unfold pkV at *
  by_cases hbad : k = 3 ∧ 9223372036854775808 ≤ num
  · obtain ⟨rfl, hb⟩ := hbad
    have hw : IntKind.i64.wrap num = num - 18446744073709551616 := by rw [IntKind.wrap_i64]; omega
    have hf : fitI 3 num = false := by unfold fitI; simp; omega
    have hneg : num - 18446744073709551616 < 0 := by omega
    rw [hf]
    clear hf hI
    go_enter Tryd.func17, Tryd.ntmps17
    go_wp2_with fail
    go_ret
    exact ⟨rfl, by (repeat (first | with_reducible exact Below.refl _ _ | with_reducible assumption | with_reducible refine below_drewN ?_ _ | with_reducible refine Below.drew ?_ | with_reducible refine below_row ?_ (by first | omega | (simp; done) | (simp; omega)) _ | with_reducible refine Below.alloc ?_ (by first | omega | (simp; done) | (simp; omega)) _ | with_reducible refine Below.setCell ?_ (by first | omega | (simp; done) | (simp; omega)) _))⟩
  · have HI := Lib.hid hI
    clear hI
    have HB := Lib.hid hbad
    clear hbad
    by_cases hk3 : k = 3
    · subst hk3
      have hlt : num < 9223372036854775808 := by have := HB.out; simp at this; omega
      have hw : IntKind.i64.wrap num = num := by rw [IntKind.wrap_i64]; omega
      have hf : fitI 3 num = true := by unfold fitI; simp; omega
      rw [hf]
      clear hf
      go_enter Tryd.func17, Tryd.ntmps17
      go_wp2_with fail
      refine (HI.out _).mono ?_
      rintro e w1 ⟨rfl, hb1⟩
      have hB1 := (Blk.new w 25 #[.int .i64 3, .int .u64 num, .string t, .int .i64 ext, .slice a n c]).below hb1 (by simp)
      go_wp2_with fail
      go_ret
      exact ⟨rfl, Below.trans (b := _) (by (repeat (first | with_reducible exact Below.refl _ _ | with_reducible assumption | with_reducible refine below_drewN ?_ _ | with_reducible refine Below.drew ?_ | with_reducible refine below_row ?_ (by first | omega | (simp; done) | (simp; omega)) _ | with_reducible refine Below.alloc ?_ (by first | omega | (simp; done) | (simp; omega)) _ | with_reducible refine Below.setCell ?_ (by first | omega | (simp; done) | (simp; omega)) _))) (hb1.mono (by (first | omega | (simp; done) | (simp; omega))))⟩
    · have d3 : (k == 3) = false := by simpa using hk3
      have hf : fitI k num = decide (k = 2 ∨ k = 3) := by unfold fitI; simp [hk3]
      rw [hf]
      obtain ⟨b, hb⟩ : ∃ b, b = decide (k = 2 ∨ k = 3) := ⟨_, rfl⟩
      obtain ⟨v, hw⟩ : ∃ v, IntKind.i64.wrap num = v := ⟨_, rfl⟩
      have hv : -9223372036854775808 ≤ v ∧ v ≤ 9223372036854775807 := by rw [← hw, IntKind.wrap_i64]; omega
      obtain ⟨hv0, hv1⟩ := hv
      have HI2 := Lib.hid (fun w => hb ▸ HI.out w)
      rw [← hb]
      clear hf hb hk3
      cases b with
      | true =>
        go_enter Tryd.func17, Tryd.ntmps17
        go_wp2_with fail
        refine (HI2.out _).mono ?_
        rintro e w1 ⟨rfl, hb1⟩
        have hB1 := (Blk.new w 25 #[.int .i64 k, .int .u64 num, .string t, .int .i64 ext, .slice a n c]).below hb1 (by simp)
        go_wp2_with fail
        go_ret
        exact ⟨rfl, Below.trans (b := _) (by (repeat (first | with_reducible exact Below.refl _ _ | with_reducible assumption | with_reducible refine below_drewN ?_ _ | with_reducible refine Below.drew ?_ | with_reducible refine below_row ?_ (by first | omega | (simp; done) | (simp; omega)) _ | with_reducible refine Below.alloc ?_ (by first | omega | (simp; done) | (simp; omega)) _ | with_reducible refine Below.setCell ?_ (by first | omega | (simp; done) | (simp; omega)) _))) (hb1.mono (by (first | omega | (simp; done) | (simp; omega))))⟩
      | false =>
        go_enter Tryd.func17, Tryd.ntmps17
        go_wp2_with fail
        refine (HI2.out _).mono ?_
        rintro e w1 ⟨rfl, hb1⟩
        have hB1 := (Blk.new w 25 #[.int .i64 k, .int .u64 num, .string t, .int .i64 ext, .slice a n c]).below hb1 (by simp)
        go_wp2_with fail
        go_ret
        exact ⟨rfl, Below.trans (b := _) (by (repeat (first | with_reducible exact Below.refl _ _ | with_reducible assumption | with_reducible refine below_drewN ?_ _ | with_reducible refine Below.drew ?_ | with_reducible refine below_row ?_ (by first | omega | (simp; done) | (simp; omega)) _ | with_reducible refine Below.alloc ?_ (by first | omega | (simp; done) | (simp; omega)) _ | with_reducible refine Below.setCell ?_ (by first | omega | (simp; done) | (simp; omega)) _))) (hb1.mono (by (first | omega | (simp; done) | (simp; omega))))⟩

set_option maxRecDepth 100000 in
set_option maxHeartbeats 4000000 in
theorem fitsUint_any (k num : Int) (h0 : 0 ≤ num) (h1 : num < 18446744073709551616) (t : ByteArray) (ext : Int) (a : Option Addr) (n c : Nat) (w : World) :
    Calls Tryd.prog 19 #[pkV k num t ext a n c, .int .i64 64] w fun e w' => e = .returned (.bool (fitU k num)) ∧ Below w.heap.size w w' := by
  have hI := integer_any k num t ext a n c
  unfold pkV at *
  by_cases hbad : k = 2 ∧ 9223372036854775808 ≤ num
  · obtain ⟨rfl, hb⟩ := hbad
    have hw : IntKind.i64.wrap num = num - 18446744073709551616 := by rw [IntKind.wrap_i64]; omega
    have hf : fitU 2 num = false := by unfold fitU; simp; omega
    have hneg : num - 18446744073709551616 < 0 := by omega
    rw [hf]
    clear hf hI
    go_enter Tryd.func19, Tryd.ntmps19
    go_wp2_with fail
    go_ret
    exact ⟨rfl, by (repeat (first | with_reducible exact Below.refl _ _ | with_reducible assumption | with_reducible refine below_drewN ?_ _ | with_reducible refine Below.drew ?_ | with_reducible refine below_row ?_ (by first | omega | (simp; done) | (simp; omega)) _ | with_reducible refine Below.alloc ?_ (by first | omega | (simp; done) | (simp; omega)) _ | with_reducible refine Below.setCell ?_ (by first | omega | (simp; done) | (simp; omega)) _))⟩
  · have HI := Lib.hid hI
    clear hI
    have hf : fitU k num = decide (k = 2 ∨ k = 3) := by
      unfold fitU
      by_cases hk2 : k = 2
      · have : ¬ 9223372036854775808 ≤ num := fun h => hbad ⟨hk2, h⟩
        simp [hk2]; omega
      · simp [hk2]
    rw [hf]
    have HB := Lib.hid hbad
    obtain ⟨b, hb⟩ : ∃ b, b = decide (k = 2 ∨ k = 3) := ⟨_, rfl⟩
    have HI2 := Lib.hid (fun w => hb ▸ HI.out w)
    rw [← hb]
    clear hf hbad hb
    have K : ∀ W, Blk W w.heap.size 25 #[.int .i64 k, .int .u64 num, .string t, .int .i64 ext, .slice a n c] → (fun W => W.cell? ⟨w.heap.size, 0, none⟩ = some (.int .i64 k) ∧ W.cell? ⟨w.heap.size, 1, none⟩ = some (.int .u64 num) ∧ W.cell? ⟨w.heap.size, 2, none⟩ = some (.string t) ∧ W.cell? ⟨w.heap.size, 3, none⟩ = some (.int .i64 ext) ∧ W.cell? ⟨w.heap.size, 4, none⟩ = some (.slice a n c)) W := fun W h => ⟨h.cell rfl, h.cell rfl, h.cell rfl, h.cell rfl, h.cell rfl⟩
    obtain ⟨v, hw⟩ : ∃ v, IntKind.i64.wrap num = v := ⟨_, rfl⟩
    have hneg : k = 2 → decide (v < 0) = false := fun h => by
      have h2 : ¬ 9223372036854775808 ≤ num := fun h3 => HB.out ⟨h, h3⟩
      rw [← hw, IntKind.wrap_i64]; simp; omega
    have HV := Lib.hid hneg
    have hwu : IntKind.u64.wrap num = num := by rw [IntKind.wrap_u64]; omega
    have hz0 : IntKind.i64.wrap (0 : Int) = 0 := by decide
    clear hneg
    cases b with
    | true =>
      by_cases hk2 : k = 2
      · have hn := HV.out hk2
        have d2 : (k == 2) = true := by simpa using hk2
        have HK2 := Lib.hid hk2
        clear hk2
        go_enter Tryd.func19, Tryd.ntmps19
        go_wp2_with fail
        refine wp_region_held_drew (S := fun W => W.cell? ⟨w.heap.size, 0, none⟩ = some (.int .i64 k) ∧ W.cell? ⟨w.heap.size, 1, none⟩ = some (.int .u64 num) ∧ W.cell? ⟨w.heap.size, 2, none⟩ = some (.string t) ∧ W.cell? ⟨w.heap.size, 3, none⟩ = some (.int .i64 ext) ∧ W.cell? ⟨w.heap.size, 4, none⟩ = some (.slice a n c)) (by kernel_rfl) ?hSz1 (fun hHeld => ?hRz1)
        case hSz1 => (exact K _ (by first | (repeat (first | with_reducible exact Blk.new _ _ _ | with_reducible assumption | with_reducible refine Blk.newAt (by first | rfl | (simp; done) | (simp; omega)) _ _ | with_reducible refine Blk.alloc ?_ _ | with_reducible refine Blk.drewN ?_ _ | with_reducible refine Blk.drew ?_ | with_reducible refine Blk.other ?_ (by first | omega | (simp; done) | (simp; omega)) _)) | assumption))
        refine wpAnyH_take (i := 0) (v := ?_) (by simp only [List.getElem?_toArray, List.getElem?_cons_succ, List.getElem?_cons_zero]; rfl) (by kernel_rfl) (by kernel_rfl) (by kernel_rfl) (by intro _ _ _ h; exact h) (Or.inl ⟨by rfl, ?h0_2⟩) (by assumption) ?r0_2
        case h0_2 => (intro w hSw; (try dsimp only at hSw); go_simp; try with_reducible rfl)
        try simp only [Act.put, List.setIfInBounds_toArray, List.set_cons_zero, List.set_cons_succ]
        refine wpAnyH_ready (rs := [1]) (by kernel_rfl) (by simp) ?_
        refine AllReadyH.cons (by simp only [List.getElem?_toArray, List.getElem?_cons_succ, List.getElem?_cons_zero]; rfl) (fun Kr hKr => ?_) AllReadyH.nil
        go_simp
        (refine (HI2.out _).mono ?_; rintro e w1 ⟨rfl, hb1⟩; have hB1 := (Blk.new w 25 #[.int .i64 k, .int .u64 num, .string t, .int .i64 ext, .slice a n c]).drew.below hb1 (by simp))
        refine hKr.out _ _ ?hS1_3 (fun hHeld => ?hR1_3)
        case hS1_3 => (exact K _ (by first | (repeat (first | with_reducible exact Blk.new _ _ _ | with_reducible assumption | with_reducible refine Blk.newAt (by first | rfl | (simp; done) | (simp; omega)) _ _ | with_reducible refine Blk.alloc ?_ _ | with_reducible refine Blk.drewN ?_ _ | with_reducible refine Blk.drew ?_ | with_reducible refine Blk.other ?_ (by first | omega | (simp; done) | (simp; omega)) _)) | assumption))
        clear hKr Kr
        try simp only [Act.put, List.setIfInBounds_toArray, List.set_cons_zero, List.set_cons_succ]
        refine wpAnyH_take (i := 2) (v := ?_) (by simp only [List.getElem?_toArray, List.getElem?_cons_succ, List.getElem?_cons_zero]; rfl) (by kernel_rfl) (by kernel_rfl) (by kernel_rfl) (by intro _ _ _ h; exact h) (Or.inl ⟨by rfl, ?h2_4⟩) (by assumption) ?r2_4
        case h2_4 => (intro w hSw; (try dsimp only at hSw); go_simp; try with_reducible rfl)
        try simp only [Act.put, List.setIfInBounds_toArray, List.set_cons_zero, List.set_cons_succ]
        refine wpAnyH_take (i := 3) (v := ?_) (by simp only [List.getElem?_toArray, List.getElem?_cons_succ, List.getElem?_cons_zero]; rfl) (by kernel_rfl) (by kernel_rfl) (by kernel_rfl) (by intro _ _ _ h; exact h) (Or.inl ⟨by rfl, ?h3_5⟩) (by assumption) ?r3_5
        case h3_5 => (intro w hSw; (try dsimp only at hSw); go_simp; try with_reducible rfl)
        try simp only [Act.put, List.setIfInBounds_toArray, List.set_cons_zero, List.set_cons_succ]
        refine wpAnyH_take (i := 4) (v := ?_) (by simp only [List.getElem?_toArray, List.getElem?_cons_succ, List.getElem?_cons_zero]; rfl) (by kernel_rfl) (by kernel_rfl) (by kernel_rfl) (by intro _ _ _ h; exact h) (Or.inl ⟨by rfl, ?h4_6⟩) (by assumption) ?r4_6
        case h4_6 => (intro w hSw; (try dsimp only at hSw); go_simp; try with_reducible rfl)
        try simp only [Act.put, List.setIfInBounds_toArray, List.set_cons_zero, List.set_cons_succ]
        refine wpAnyH_take (i := 5) (v := ?_) (by simp only [List.getElem?_toArray, List.getElem?_cons_succ, List.getElem?_cons_zero]; rfl) (by kernel_rfl) (by kernel_rfl) (by kernel_rfl) (by intro _ _ _ h; exact h) (Or.inl ⟨by rfl, ?h5_7⟩) (by assumption) ?r5_7
        case h5_7 => (intro w hSw; (try dsimp only at hSw); go_simp; try with_reducible rfl)
        try simp only [Act.put, List.setIfInBounds_toArray, List.set_cons_zero, List.set_cons_succ]
        refine wpAnyH_take (i := 6) (v := ?_) (by simp only [List.getElem?_toArray, List.getElem?_cons_succ, List.getElem?_cons_zero]; rfl) (by kernel_rfl) (by kernel_rfl) (by kernel_rfl) (by intro _ _ _ h; exact h) (Or.inl ⟨by rfl, ?h6_8⟩) (by assumption) ?r6_8
        case h6_8 => (intro w hSw; (try dsimp only at hSw); go_simp; try with_reducible rfl)
        try simp only [Act.put, List.setIfInBounds_toArray, List.set_cons_zero, List.set_cons_succ]
        refine wpAnyH_take (i := 7) (v := ?_) (by simp only [List.getElem?_toArray, List.getElem?_cons_succ, List.getElem?_cons_zero]; rfl) (by kernel_rfl) (by kernel_rfl) (by kernel_rfl) (by intro _ _ _ h; exact h) (Or.inl ⟨by rfl, ?h7_9⟩) (by assumption) ?r7_9
        case h7_9 => (intro w hSw; (try dsimp only at hSw); go_simp; try with_reducible rfl)
        try simp only [Act.put, List.setIfInBounds_toArray, List.set_cons_zero, List.set_cons_succ]
        refine wpAnyH_take (i := 8) (v := ?_) (by simp only [List.getElem?_toArray, List.getElem?_cons_succ, List.getElem?_cons_zero]; rfl) (by kernel_rfl) (by kernel_rfl) (by kernel_rfl) (by intro _ _ _ h; exact h) (Or.inl ⟨by rfl, ?h8_10⟩) (by assumption) ?r8_10
        case h8_10 => (intro w hSw; (try dsimp only at hSw); go_simp; try with_reducible rfl)
        try simp only [Act.put, List.setIfInBounds_toArray, List.set_cons_zero, List.set_cons_succ]
        refine wpAnyH_take (i := 9) (v := ?_) (by simp only [List.getElem?_toArray, List.getElem?_cons_succ, List.getElem?_cons_zero]; rfl) (by kernel_rfl) (by kernel_rfl) (by kernel_rfl) (by intro _ _ _ h; exact h) (Or.inl ⟨by rfl, ?h9_11⟩) (by assumption) ?r9_11
        case h9_11 => (intro w hSw; (try dsimp only at hSw); go_simp; try with_reducible rfl)
        try simp only [Act.put, List.setIfInBounds_toArray, List.set_cons_zero, List.set_cons_succ]
        refine wpAnyH_take (i := 10) (v := ?_) (by simp only [List.getElem?_toArray, List.getElem?_cons_succ, List.getElem?_cons_zero]; rfl) (by kernel_rfl) (by kernel_rfl) (by kernel_rfl) (by intro _ _ _ h; exact h) (Or.inl ⟨by rfl, ?h10_12⟩) (by assumption) ?r10_12
        case h10_12 => (intro w hSw; (try dsimp only at hSw); go_simp; try with_reducible rfl)
        try simp only [Act.put, List.setIfInBounds_toArray, List.set_cons_zero, List.set_cons_succ]
        refine wpAnyH_take (i := 11) (v := ?_) (by simp only [List.getElem?_toArray, List.getElem?_cons_succ, List.getElem?_cons_zero]; rfl) (by kernel_rfl) (by kernel_rfl) (by kernel_rfl) (by intro _ _ _ h; exact h) (Or.inl ⟨by rfl, ?h11_13⟩) (by assumption) ?r11_13
        case h11_13 => (intro w hSw; (try dsimp only at hSw); go_simp; try with_reducible rfl)
        try simp only [Act.put, List.setIfInBounds_toArray, List.set_cons_zero, List.set_cons_succ]
        refine wpAnyH_take (i := 12) (v := ?_) (by simp only [List.getElem?_toArray, List.getElem?_cons_succ, List.getElem?_cons_zero]; rfl) (by kernel_rfl) (by kernel_rfl) (by kernel_rfl) (by intro _ _ _ h; exact h) (Or.inl ⟨by rfl, ?h12_14⟩) (by assumption) ?r12_14
        case h12_14 => (intro w hSw; (try dsimp only at hSw); go_simp; try with_reducible rfl)
        try simp only [Act.put, List.setIfInBounds_toArray, List.set_cons_zero, List.set_cons_succ]
        refine wpAnyH_take (i := 13) (v := ?_) (by simp only [List.getElem?_toArray, List.getElem?_cons_succ, List.getElem?_cons_zero]; rfl) (by kernel_rfl) (by kernel_rfl) (by kernel_rfl) (by intro _ _ _ h; exact h) (Or.inl ⟨by rfl, ?h13_15⟩) (by assumption) ?r13_15
        case h13_15 => (intro w hSw; (try dsimp only at hSw); go_simp; try with_reducible rfl)
        try simp only [Act.put, List.setIfInBounds_toArray, List.set_cons_zero, List.set_cons_succ]
        refine wpAnyH_take (i := 14) (v := ?_) (by simp only [List.getElem?_toArray, List.getElem?_cons_succ, List.getElem?_cons_zero]; rfl) (by kernel_rfl) (by kernel_rfl) (by kernel_rfl) (by intro _ _ _ h; exact h) (Or.inl ⟨by rfl, ?h14_16⟩) (by assumption) ?r14_16
        case h14_16 => (intro w hSw; (try dsimp only at hSw); go_simp; try with_reducible rfl)
        try simp only [Act.put, List.setIfInBounds_toArray, List.set_cons_zero, List.set_cons_succ]
        refine wpAnyH_take (i := 15) (v := ?_) (by simp only [List.getElem?_toArray, List.getElem?_cons_succ, List.getElem?_cons_zero]; rfl) (by kernel_rfl) (by kernel_rfl) (by kernel_rfl) (by intro _ _ _ h; exact h) (Or.inl ⟨by rfl, ?h15_17⟩) (by assumption) ?r15_17
        case h15_17 => (intro w hSw; (try dsimp only at hSw); go_simp; try with_reducible rfl)
        try simp only [Act.put, List.setIfInBounds_toArray, List.set_cons_zero, List.set_cons_succ]
        refine wpAnyH_done (by kernel_rfl) ?_ _
        go_wp2_with fail
        go_ret
        exact ⟨rfl, Below.trans (b := _) (Below.drew (Below.alloc (Below.refl _ _) (Nat.le_refl _) _)) (hb1.mono (by simp))⟩
      · have d2 : (k == 2) = false := by simpa using hk2
        have HK2 := Lib.hid hk2
        clear hk2
        go_enter Tryd.func19, Tryd.ntmps19
        go_wp2_with fail
        refine wp_region_held_drew (S := fun W => W.cell? ⟨w.heap.size, 0, none⟩ = some (.int .i64 k) ∧ W.cell? ⟨w.heap.size, 1, none⟩ = some (.int .u64 num) ∧ W.cell? ⟨w.heap.size, 2, none⟩ = some (.string t) ∧ W.cell? ⟨w.heap.size, 3, none⟩ = some (.int .i64 ext) ∧ W.cell? ⟨w.heap.size, 4, none⟩ = some (.slice a n c)) (by kernel_rfl) ?hSz18 (fun hHeld => ?hRz18)
        case hSz18 => (exact K _ (by first | (repeat (first | with_reducible exact Blk.new _ _ _ | with_reducible assumption | with_reducible refine Blk.newAt (by first | rfl | (simp; done) | (simp; omega)) _ _ | with_reducible refine Blk.alloc ?_ _ | with_reducible refine Blk.drewN ?_ _ | with_reducible refine Blk.drew ?_ | with_reducible refine Blk.other ?_ (by first | omega | (simp; done) | (simp; omega)) _)) | assumption))
        refine wpAnyH_take (i := 0) (v := ?_) (by simp only [List.getElem?_toArray, List.getElem?_cons_succ, List.getElem?_cons_zero]; rfl) (by kernel_rfl) (by kernel_rfl) (by kernel_rfl) (by intro _ _ _ h; exact h) (Or.inl ⟨by rfl, ?h0_19⟩) (by assumption) ?r0_19
        case h0_19 => (intro w hSw; (try dsimp only at hSw); go_simp; try with_reducible rfl)
        try simp only [Act.put, List.setIfInBounds_toArray, List.set_cons_zero, List.set_cons_succ]
        refine wpAnyH_ready (rs := [1]) (by kernel_rfl) (by simp) ?_
        refine AllReadyH.cons (by simp only [List.getElem?_toArray, List.getElem?_cons_succ, List.getElem?_cons_zero]; rfl) (fun Kr hKr => ?_) AllReadyH.nil
        go_simp
        (refine (HI2.out _).mono ?_; rintro e w1 ⟨rfl, hb1⟩; have hB1 := (Blk.new w 25 #[.int .i64 k, .int .u64 num, .string t, .int .i64 ext, .slice a n c]).drew.below hb1 (by simp))
        refine hKr.out _ _ ?hS1_20 (fun hHeld => ?hR1_20)
        case hS1_20 => (exact K _ (by first | (repeat (first | with_reducible exact Blk.new _ _ _ | with_reducible assumption | with_reducible refine Blk.newAt (by first | rfl | (simp; done) | (simp; omega)) _ _ | with_reducible refine Blk.alloc ?_ _ | with_reducible refine Blk.drewN ?_ _ | with_reducible refine Blk.drew ?_ | with_reducible refine Blk.other ?_ (by first | omega | (simp; done) | (simp; omega)) _)) | assumption))
        clear hKr Kr
        try simp only [Act.put, List.setIfInBounds_toArray, List.set_cons_zero, List.set_cons_succ]
        refine wpAnyH_take (i := 2) (v := ?_) (by simp only [List.getElem?_toArray, List.getElem?_cons_succ, List.getElem?_cons_zero]; rfl) (by kernel_rfl) (by kernel_rfl) (by kernel_rfl) (by intro _ _ _ h; exact h) (Or.inl ⟨by rfl, ?h2_21⟩) (by assumption) ?r2_21
        case h2_21 => (intro w hSw; (try dsimp only at hSw); go_simp; try with_reducible rfl)
        try simp only [Act.put, List.setIfInBounds_toArray, List.set_cons_zero, List.set_cons_succ]
        refine wpAnyH_take (i := 3) (v := ?_) (by simp only [List.getElem?_toArray, List.getElem?_cons_succ, List.getElem?_cons_zero]; rfl) (by kernel_rfl) (by kernel_rfl) (by kernel_rfl) (by intro _ _ _ h; exact h) (Or.inl ⟨by rfl, ?h3_22⟩) (by assumption) ?r3_22
        case h3_22 => (intro w hSw; (try dsimp only at hSw); go_simp; try with_reducible rfl)
        try simp only [Act.put, List.setIfInBounds_toArray, List.set_cons_zero, List.set_cons_succ]
        refine wpAnyH_take (i := 4) (v := ?_) (by simp only [List.getElem?_toArray, List.getElem?_cons_succ, List.getElem?_cons_zero]; rfl) (by kernel_rfl) (by kernel_rfl) (by kernel_rfl) (by intro _ _ _ h; exact h) (Or.inl ⟨by rfl, ?h4_23⟩) (by assumption) ?r4_23
        case h4_23 => (intro w hSw; (try dsimp only at hSw); go_simp; try with_reducible rfl)
        try simp only [Act.put, List.setIfInBounds_toArray, List.set_cons_zero, List.set_cons_succ]
        refine wpAnyH_take (i := 5) (v := ?_) (by simp only [List.getElem?_toArray, List.getElem?_cons_succ, List.getElem?_cons_zero]; rfl) (by kernel_rfl) (by kernel_rfl) (by kernel_rfl) (by intro _ _ _ h; exact h) (Or.inl ⟨by rfl, ?h5_24⟩) (by assumption) ?r5_24
        case h5_24 => (intro w hSw; (try dsimp only at hSw); go_simp; try with_reducible rfl)
        try simp only [Act.put, List.setIfInBounds_toArray, List.set_cons_zero, List.set_cons_succ]
        refine wpAnyH_take (i := 6) (v := ?_) (by simp only [List.getElem?_toArray, List.getElem?_cons_succ, List.getElem?_cons_zero]; rfl) (by kernel_rfl) (by kernel_rfl) (by kernel_rfl) (by intro _ _ _ h; exact h) (Or.inl ⟨by rfl, ?h6_25⟩) (by assumption) ?r6_25
        case h6_25 => (intro w hSw; (try dsimp only at hSw); go_simp; try with_reducible rfl)
        try simp only [Act.put, List.setIfInBounds_toArray, List.set_cons_zero, List.set_cons_succ]
        refine wpAnyH_take (i := 7) (v := ?_) (by simp only [List.getElem?_toArray, List.getElem?_cons_succ, List.getElem?_cons_zero]; rfl) (by kernel_rfl) (by kernel_rfl) (by kernel_rfl) (by intro _ _ _ h; exact h) (Or.inl ⟨by rfl, ?h7_26⟩) (by assumption) ?r7_26
        case h7_26 => (intro w hSw; (try dsimp only at hSw); go_simp; try with_reducible rfl)
        try simp only [Act.put, List.setIfInBounds_toArray, List.set_cons_zero, List.set_cons_succ]
        refine wpAnyH_take (i := 8) (v := ?_) (by simp only [List.getElem?_toArray, List.getElem?_cons_succ, List.getElem?_cons_zero]; rfl) (by kernel_rfl) (by kernel_rfl) (by kernel_rfl) (by intro _ _ _ h; exact h) (Or.inl ⟨by rfl, ?h8_27⟩) (by assumption) ?r8_27
        case h8_27 => (intro w hSw; (try dsimp only at hSw); go_simp; try with_reducible rfl)
        try simp only [Act.put, List.setIfInBounds_toArray, List.set_cons_zero, List.set_cons_succ]
        refine wpAnyH_take (i := 9) (v := ?_) (by simp only [List.getElem?_toArray, List.getElem?_cons_succ, List.getElem?_cons_zero]; rfl) (by kernel_rfl) (by kernel_rfl) (by kernel_rfl) (by intro _ _ _ h; exact h) (Or.inl ⟨by rfl, ?h9_28⟩) (by assumption) ?r9_28
        case h9_28 => (intro w hSw; (try dsimp only at hSw); go_simp; try with_reducible rfl)
        try simp only [Act.put, List.setIfInBounds_toArray, List.set_cons_zero, List.set_cons_succ]
        refine wpAnyH_take (i := 10) (v := ?_) (by simp only [List.getElem?_toArray, List.getElem?_cons_succ, List.getElem?_cons_zero]; rfl) (by kernel_rfl) (by kernel_rfl) (by kernel_rfl) (by intro _ _ _ h; exact h) (Or.inl ⟨by rfl, ?h10_29⟩) (by assumption) ?r10_29
        case h10_29 => (intro w hSw; (try dsimp only at hSw); go_simp; try with_reducible rfl)
        try simp only [Act.put, List.setIfInBounds_toArray, List.set_cons_zero, List.set_cons_succ]
        refine wpAnyH_take (i := 11) (v := ?_) (by simp only [List.getElem?_toArray, List.getElem?_cons_succ, List.getElem?_cons_zero]; rfl) (by kernel_rfl) (by kernel_rfl) (by kernel_rfl) (by intro _ _ _ h; exact h) (Or.inl ⟨by rfl, ?h11_30⟩) (by assumption) ?r11_30
        case h11_30 => (intro w hSw; (try dsimp only at hSw); go_simp; try with_reducible rfl)
        try simp only [Act.put, List.setIfInBounds_toArray, List.set_cons_zero, List.set_cons_succ]
        refine wpAnyH_take (i := 12) (v := ?_) (by simp only [List.getElem?_toArray, List.getElem?_cons_succ, List.getElem?_cons_zero]; rfl) (by kernel_rfl) (by kernel_rfl) (by kernel_rfl) (by intro _ _ _ h; exact h) (Or.inl ⟨by rfl, ?h12_31⟩) (by assumption) ?r12_31
        case h12_31 => (intro w hSw; (try dsimp only at hSw); go_simp; try with_reducible rfl)
        try simp only [Act.put, List.setIfInBounds_toArray, List.set_cons_zero, List.set_cons_succ]
        refine wpAnyH_take (i := 13) (v := ?_) (by simp only [List.getElem?_toArray, List.getElem?_cons_succ, List.getElem?_cons_zero]; rfl) (by kernel_rfl) (by kernel_rfl) (by kernel_rfl) (by intro _ _ _ h; exact h) (Or.inl ⟨by rfl, ?h13_32⟩) (by assumption) ?r13_32
        case h13_32 => (intro w hSw; (try dsimp only at hSw); go_simp; try with_reducible rfl)
        try simp only [Act.put, List.setIfInBounds_toArray, List.set_cons_zero, List.set_cons_succ]
        refine wpAnyH_take (i := 14) (v := ?_) (by simp only [List.getElem?_toArray, List.getElem?_cons_succ, List.getElem?_cons_zero]; rfl) (by kernel_rfl) (by kernel_rfl) (by kernel_rfl) (by intro _ _ _ h; exact h) (Or.inl ⟨by rfl, ?h14_33⟩) (by assumption) ?r14_33
        case h14_33 => (intro w hSw; (try dsimp only at hSw); go_simp; try with_reducible rfl)
        try simp only [Act.put, List.setIfInBounds_toArray, List.set_cons_zero, List.set_cons_succ]
        refine wpAnyH_take (i := 15) (v := ?_) (by simp only [List.getElem?_toArray, List.getElem?_cons_succ, List.getElem?_cons_zero]; rfl) (by kernel_rfl) (by kernel_rfl) (by kernel_rfl) (by intro _ _ _ h; exact h) (Or.inl ⟨by rfl, ?h15_34⟩) (by assumption) ?r15_34
        case h15_34 => (intro w hSw; (try dsimp only at hSw); go_simp; try with_reducible rfl)
        try simp only [Act.put, List.setIfInBounds_toArray, List.set_cons_zero, List.set_cons_succ]
        refine wpAnyH_done (by kernel_rfl) ?_ _
        go_wp2_with fail
        go_ret
        exact ⟨rfl, Below.trans (b := _) (Below.drew (Below.alloc (Below.refl _ _) (Nat.le_refl _) _)) (hb1.mono (by simp))⟩
    | false =>
      by_cases hk2 : k = 2
      · have hn := HV.out hk2
        have d2 : (k == 2) = true := by simpa using hk2
        have HK2 := Lib.hid hk2
        clear hk2
        go_enter Tryd.func19, Tryd.ntmps19
        go_wp2_with fail
        refine wp_region_held_drew (S := fun W => W.cell? ⟨w.heap.size, 0, none⟩ = some (.int .i64 k) ∧ W.cell? ⟨w.heap.size, 1, none⟩ = some (.int .u64 num) ∧ W.cell? ⟨w.heap.size, 2, none⟩ = some (.string t) ∧ W.cell? ⟨w.heap.size, 3, none⟩ = some (.int .i64 ext) ∧ W.cell? ⟨w.heap.size, 4, none⟩ = some (.slice a n c)) (by kernel_rfl) ?hSz35 (fun hHeld => ?hRz35)
        case hSz35 => (exact K _ (by first | (repeat (first | with_reducible exact Blk.new _ _ _ | with_reducible assumption | with_reducible refine Blk.newAt (by first | rfl | (simp; done) | (simp; omega)) _ _ | with_reducible refine Blk.alloc ?_ _ | with_reducible refine Blk.drewN ?_ _ | with_reducible refine Blk.drew ?_ | with_reducible refine Blk.other ?_ (by first | omega | (simp; done) | (simp; omega)) _)) | assumption))
        refine wpAnyH_take (i := 0) (v := ?_) (by simp only [List.getElem?_toArray, List.getElem?_cons_succ, List.getElem?_cons_zero]; rfl) (by kernel_rfl) (by kernel_rfl) (by kernel_rfl) (by intro _ _ _ h; exact h) (Or.inl ⟨by rfl, ?h0_36⟩) (by assumption) ?r0_36
        case h0_36 => (intro w hSw; (try dsimp only at hSw); go_simp; try with_reducible rfl)
        try simp only [Act.put, List.setIfInBounds_toArray, List.set_cons_zero, List.set_cons_succ]
        refine wpAnyH_ready (rs := [1]) (by kernel_rfl) (by simp) ?_
        refine AllReadyH.cons (by simp only [List.getElem?_toArray, List.getElem?_cons_succ, List.getElem?_cons_zero]; rfl) (fun Kr hKr => ?_) AllReadyH.nil
        go_simp
        (refine (HI2.out _).mono ?_; rintro e w1 ⟨rfl, hb1⟩; have hB1 := (Blk.new w 25 #[.int .i64 k, .int .u64 num, .string t, .int .i64 ext, .slice a n c]).drew.below hb1 (by simp))
        refine hKr.out _ _ ?hS1_37 (fun hHeld => ?hR1_37)
        case hS1_37 => (exact K _ (by first | (repeat (first | with_reducible exact Blk.new _ _ _ | with_reducible assumption | with_reducible refine Blk.newAt (by first | rfl | (simp; done) | (simp; omega)) _ _ | with_reducible refine Blk.alloc ?_ _ | with_reducible refine Blk.drewN ?_ _ | with_reducible refine Blk.drew ?_ | with_reducible refine Blk.other ?_ (by first | omega | (simp; done) | (simp; omega)) _)) | assumption))
        clear hKr Kr
        try simp only [Act.put, List.setIfInBounds_toArray, List.set_cons_zero, List.set_cons_succ]
        refine wpAnyH_take (i := 2) (v := ?_) (by simp only [List.getElem?_toArray, List.getElem?_cons_succ, List.getElem?_cons_zero]; rfl) (by kernel_rfl) (by kernel_rfl) (by kernel_rfl) (by intro _ _ _ h; exact h) (Or.inl ⟨by rfl, ?h2_38⟩) (by assumption) ?r2_38
        case h2_38 => (intro w hSw; (try dsimp only at hSw); go_simp; try with_reducible rfl)
        try simp only [Act.put, List.setIfInBounds_toArray, List.set_cons_zero, List.set_cons_succ]
        refine wpAnyH_take (i := 3) (v := undef) (by simp only [List.getElem?_toArray, List.getElem?_cons_succ, List.getElem?_cons_zero]; rfl) (by kernel_rfl) (by kernel_rfl) (by kernel_rfl) (by intro _ _ _ h; exact h) (Or.inr ⟨by rfl, rfl⟩) (by assumption) ?r3_39
        try simp only [Act.put, List.setIfInBounds_toArray, List.set_cons_zero, List.set_cons_succ]
        refine wpAnyH_take (i := 4) (v := undef) (by simp only [List.getElem?_toArray, List.getElem?_cons_succ, List.getElem?_cons_zero]; rfl) (by kernel_rfl) (by kernel_rfl) (by kernel_rfl) (by intro _ _ _ h; exact h) (Or.inr ⟨by rfl, rfl⟩) (by assumption) ?r4_40
        try simp only [Act.put, List.setIfInBounds_toArray, List.set_cons_zero, List.set_cons_succ]
        refine wpAnyH_take (i := 5) (v := undef) (by simp only [List.getElem?_toArray, List.getElem?_cons_succ, List.getElem?_cons_zero]; rfl) (by kernel_rfl) (by kernel_rfl) (by kernel_rfl) (by intro _ _ _ h; exact h) (Or.inr ⟨by rfl, rfl⟩) (by assumption) ?r5_41
        try simp only [Act.put, List.setIfInBounds_toArray, List.set_cons_zero, List.set_cons_succ]
        refine wpAnyH_take (i := 6) (v := undef) (by simp only [List.getElem?_toArray, List.getElem?_cons_succ, List.getElem?_cons_zero]; rfl) (by kernel_rfl) (by kernel_rfl) (by kernel_rfl) (by intro _ _ _ h; exact h) (Or.inr ⟨by rfl, rfl⟩) (by assumption) ?r6_42
        try simp only [Act.put, List.setIfInBounds_toArray, List.set_cons_zero, List.set_cons_succ]
        refine wpAnyH_take (i := 7) (v := undef) (by simp only [List.getElem?_toArray, List.getElem?_cons_succ, List.getElem?_cons_zero]; rfl) (by kernel_rfl) (by kernel_rfl) (by kernel_rfl) (by intro _ _ _ h; exact h) (Or.inr ⟨by rfl, rfl⟩) (by assumption) ?r7_43
        try simp only [Act.put, List.setIfInBounds_toArray, List.set_cons_zero, List.set_cons_succ]
        refine wpAnyH_take (i := 8) (v := undef) (by simp only [List.getElem?_toArray, List.getElem?_cons_succ, List.getElem?_cons_zero]; rfl) (by kernel_rfl) (by kernel_rfl) (by kernel_rfl) (by intro _ _ _ h; exact h) (Or.inr ⟨by rfl, rfl⟩) (by assumption) ?r8_44
        try simp only [Act.put, List.setIfInBounds_toArray, List.set_cons_zero, List.set_cons_succ]
        refine wpAnyH_take (i := 9) (v := undef) (by simp only [List.getElem?_toArray, List.getElem?_cons_succ, List.getElem?_cons_zero]; rfl) (by kernel_rfl) (by kernel_rfl) (by kernel_rfl) (by intro _ _ _ h; exact h) (Or.inr ⟨by rfl, rfl⟩) (by assumption) ?r9_45
        try simp only [Act.put, List.setIfInBounds_toArray, List.set_cons_zero, List.set_cons_succ]
        refine wpAnyH_take (i := 10) (v := undef) (by simp only [List.getElem?_toArray, List.getElem?_cons_succ, List.getElem?_cons_zero]; rfl) (by kernel_rfl) (by kernel_rfl) (by kernel_rfl) (by intro _ _ _ h; exact h) (Or.inr ⟨by rfl, rfl⟩) (by assumption) ?r10_46
        try simp only [Act.put, List.setIfInBounds_toArray, List.set_cons_zero, List.set_cons_succ]
        refine wpAnyH_take (i := 11) (v := undef) (by simp only [List.getElem?_toArray, List.getElem?_cons_succ, List.getElem?_cons_zero]; rfl) (by kernel_rfl) (by kernel_rfl) (by kernel_rfl) (by intro _ _ _ h; exact h) (Or.inr ⟨by rfl, rfl⟩) (by assumption) ?r11_47
        try simp only [Act.put, List.setIfInBounds_toArray, List.set_cons_zero, List.set_cons_succ]
        refine wpAnyH_take (i := 12) (v := undef) (by simp only [List.getElem?_toArray, List.getElem?_cons_succ, List.getElem?_cons_zero]; rfl) (by kernel_rfl) (by kernel_rfl) (by kernel_rfl) (by intro _ _ _ h; exact h) (Or.inr ⟨by rfl, rfl⟩) (by assumption) ?r12_48
        try simp only [Act.put, List.setIfInBounds_toArray, List.set_cons_zero, List.set_cons_succ]
        refine wpAnyH_take (i := 13) (v := undef) (by simp only [List.getElem?_toArray, List.getElem?_cons_succ, List.getElem?_cons_zero]; rfl) (by kernel_rfl) (by kernel_rfl) (by kernel_rfl) (by intro _ _ _ h; exact h) (Or.inr ⟨by rfl, rfl⟩) (by assumption) ?r13_49
        try simp only [Act.put, List.setIfInBounds_toArray, List.set_cons_zero, List.set_cons_succ]
        refine wpAnyH_take (i := 14) (v := ?_) (by simp only [List.getElem?_toArray, List.getElem?_cons_succ, List.getElem?_cons_zero]; rfl) (by kernel_rfl) (by kernel_rfl) (by kernel_rfl) (by intro _ _ _ h; exact h) (Or.inl ⟨by rfl, ?h14_50⟩) (by assumption) ?r14_50
        case h14_50 => (intro w hSw; (try dsimp only at hSw); go_simp; try with_reducible rfl)
        try simp only [Act.put, List.setIfInBounds_toArray, List.set_cons_zero, List.set_cons_succ]
        refine wpAnyH_take (i := 15) (v := ?_) (by simp only [List.getElem?_toArray, List.getElem?_cons_succ, List.getElem?_cons_zero]; rfl) (by kernel_rfl) (by kernel_rfl) (by kernel_rfl) (by intro _ _ _ h; exact h) (Or.inl ⟨by rfl, ?h15_51⟩) (by assumption) ?r15_51
        case h15_51 => (intro w hSw; (try dsimp only at hSw); go_simp; try with_reducible rfl)
        try simp only [Act.put, List.setIfInBounds_toArray, List.set_cons_zero, List.set_cons_succ]
        refine wpAnyH_done (by kernel_rfl) ?_ _
        go_wp2_with fail
        go_ret
        exact ⟨rfl, Below.trans (b := _) (Below.drew (Below.alloc (Below.refl _ _) (Nat.le_refl _) _)) (hb1.mono (by simp))⟩
      · have d2 : (k == 2) = false := by simpa using hk2
        have HK2 := Lib.hid hk2
        clear hk2
        go_enter Tryd.func19, Tryd.ntmps19
        go_wp2_with fail
        refine wp_region_held_drew (S := fun W => W.cell? ⟨w.heap.size, 0, none⟩ = some (.int .i64 k) ∧ W.cell? ⟨w.heap.size, 1, none⟩ = some (.int .u64 num) ∧ W.cell? ⟨w.heap.size, 2, none⟩ = some (.string t) ∧ W.cell? ⟨w.heap.size, 3, none⟩ = some (.int .i64 ext) ∧ W.cell? ⟨w.heap.size, 4, none⟩ = some (.slice a n c)) (by kernel_rfl) ?hSz52 (fun hHeld => ?hRz52)
        case hSz52 => (exact K _ (by first | (repeat (first | with_reducible exact Blk.new _ _ _ | with_reducible assumption | with_reducible refine Blk.newAt (by first | rfl | (simp; done) | (simp; omega)) _ _ | with_reducible refine Blk.alloc ?_ _ | with_reducible refine Blk.drewN ?_ _ | with_reducible refine Blk.drew ?_ | with_reducible refine Blk.other ?_ (by first | omega | (simp; done) | (simp; omega)) _)) | assumption))
        refine wpAnyH_take (i := 0) (v := ?_) (by simp only [List.getElem?_toArray, List.getElem?_cons_succ, List.getElem?_cons_zero]; rfl) (by kernel_rfl) (by kernel_rfl) (by kernel_rfl) (by intro _ _ _ h; exact h) (Or.inl ⟨by rfl, ?h0_53⟩) (by assumption) ?r0_53
        case h0_53 => (intro w hSw; (try dsimp only at hSw); go_simp; try with_reducible rfl)
        try simp only [Act.put, List.setIfInBounds_toArray, List.set_cons_zero, List.set_cons_succ]
        refine wpAnyH_ready (rs := [1]) (by kernel_rfl) (by simp) ?_
        refine AllReadyH.cons (by simp only [List.getElem?_toArray, List.getElem?_cons_succ, List.getElem?_cons_zero]; rfl) (fun Kr hKr => ?_) AllReadyH.nil
        go_simp
        (refine (HI2.out _).mono ?_; rintro e w1 ⟨rfl, hb1⟩; have hB1 := (Blk.new w 25 #[.int .i64 k, .int .u64 num, .string t, .int .i64 ext, .slice a n c]).drew.below hb1 (by simp))
        refine hKr.out _ _ ?hS1_54 (fun hHeld => ?hR1_54)
        case hS1_54 => (exact K _ (by first | (repeat (first | with_reducible exact Blk.new _ _ _ | with_reducible assumption | with_reducible refine Blk.newAt (by first | rfl | (simp; done) | (simp; omega)) _ _ | with_reducible refine Blk.alloc ?_ _ | with_reducible refine Blk.drewN ?_ _ | with_reducible refine Blk.drew ?_ | with_reducible refine Blk.other ?_ (by first | omega | (simp; done) | (simp; omega)) _)) | assumption))
        clear hKr Kr
        try simp only [Act.put, List.setIfInBounds_toArray, List.set_cons_zero, List.set_cons_succ]
        refine wpAnyH_take (i := 2) (v := ?_) (by simp only [List.getElem?_toArray, List.getElem?_cons_succ, List.getElem?_cons_zero]; rfl) (by kernel_rfl) (by kernel_rfl) (by kernel_rfl) (by intro _ _ _ h; exact h) (Or.inl ⟨by rfl, ?h2_55⟩) (by assumption) ?r2_55
        case h2_55 => (intro w hSw; (try dsimp only at hSw); go_simp; try with_reducible rfl)
        try simp only [Act.put, List.setIfInBounds_toArray, List.set_cons_zero, List.set_cons_succ]
        refine wpAnyH_take (i := 3) (v := undef) (by simp only [List.getElem?_toArray, List.getElem?_cons_succ, List.getElem?_cons_zero]; rfl) (by kernel_rfl) (by kernel_rfl) (by kernel_rfl) (by intro _ _ _ h; exact h) (Or.inr ⟨by rfl, rfl⟩) (by assumption) ?r3_56
        try simp only [Act.put, List.setIfInBounds_toArray, List.set_cons_zero, List.set_cons_succ]
        refine wpAnyH_take (i := 4) (v := undef) (by simp only [List.getElem?_toArray, List.getElem?_cons_succ, List.getElem?_cons_zero]; rfl) (by kernel_rfl) (by kernel_rfl) (by kernel_rfl) (by intro _ _ _ h; exact h) (Or.inr ⟨by rfl, rfl⟩) (by assumption) ?r4_57
        try simp only [Act.put, List.setIfInBounds_toArray, List.set_cons_zero, List.set_cons_succ]
        refine wpAnyH_take (i := 5) (v := undef) (by simp only [List.getElem?_toArray, List.getElem?_cons_succ, List.getElem?_cons_zero]; rfl) (by kernel_rfl) (by kernel_rfl) (by kernel_rfl) (by intro _ _ _ h; exact h) (Or.inr ⟨by rfl, rfl⟩) (by assumption) ?r5_58
        try simp only [Act.put, List.setIfInBounds_toArray, List.set_cons_zero, List.set_cons_succ]
        refine wpAnyH_take (i := 6) (v := undef) (by simp only [List.getElem?_toArray, List.getElem?_cons_succ, List.getElem?_cons_zero]; rfl) (by kernel_rfl) (by kernel_rfl) (by kernel_rfl) (by intro _ _ _ h; exact h) (Or.inr ⟨by rfl, rfl⟩) (by assumption) ?r6_59
        try simp only [Act.put, List.setIfInBounds_toArray, List.set_cons_zero, List.set_cons_succ]
        refine wpAnyH_take (i := 7) (v := undef) (by simp only [List.getElem?_toArray, List.getElem?_cons_succ, List.getElem?_cons_zero]; rfl) (by kernel_rfl) (by kernel_rfl) (by kernel_rfl) (by intro _ _ _ h; exact h) (Or.inr ⟨by rfl, rfl⟩) (by assumption) ?r7_60
        try simp only [Act.put, List.setIfInBounds_toArray, List.set_cons_zero, List.set_cons_succ]
        refine wpAnyH_take (i := 8) (v := undef) (by simp only [List.getElem?_toArray, List.getElem?_cons_succ, List.getElem?_cons_zero]; rfl) (by kernel_rfl) (by kernel_rfl) (by kernel_rfl) (by intro _ _ _ h; exact h) (Or.inr ⟨by rfl, rfl⟩) (by assumption) ?r8_61
        try simp only [Act.put, List.setIfInBounds_toArray, List.set_cons_zero, List.set_cons_succ]
        refine wpAnyH_take (i := 9) (v := undef) (by simp only [List.getElem?_toArray, List.getElem?_cons_succ, List.getElem?_cons_zero]; rfl) (by kernel_rfl) (by kernel_rfl) (by kernel_rfl) (by intro _ _ _ h; exact h) (Or.inr ⟨by rfl, rfl⟩) (by assumption) ?r9_62
        try simp only [Act.put, List.setIfInBounds_toArray, List.set_cons_zero, List.set_cons_succ]
        refine wpAnyH_take (i := 10) (v := undef) (by simp only [List.getElem?_toArray, List.getElem?_cons_succ, List.getElem?_cons_zero]; rfl) (by kernel_rfl) (by kernel_rfl) (by kernel_rfl) (by intro _ _ _ h; exact h) (Or.inr ⟨by rfl, rfl⟩) (by assumption) ?r10_63
        try simp only [Act.put, List.setIfInBounds_toArray, List.set_cons_zero, List.set_cons_succ]
        refine wpAnyH_take (i := 11) (v := undef) (by simp only [List.getElem?_toArray, List.getElem?_cons_succ, List.getElem?_cons_zero]; rfl) (by kernel_rfl) (by kernel_rfl) (by kernel_rfl) (by intro _ _ _ h; exact h) (Or.inr ⟨by rfl, rfl⟩) (by assumption) ?r11_64
        try simp only [Act.put, List.setIfInBounds_toArray, List.set_cons_zero, List.set_cons_succ]
        refine wpAnyH_take (i := 12) (v := undef) (by simp only [List.getElem?_toArray, List.getElem?_cons_succ, List.getElem?_cons_zero]; rfl) (by kernel_rfl) (by kernel_rfl) (by kernel_rfl) (by intro _ _ _ h; exact h) (Or.inr ⟨by rfl, rfl⟩) (by assumption) ?r12_65
        try simp only [Act.put, List.setIfInBounds_toArray, List.set_cons_zero, List.set_cons_succ]
        refine wpAnyH_take (i := 13) (v := undef) (by simp only [List.getElem?_toArray, List.getElem?_cons_succ, List.getElem?_cons_zero]; rfl) (by kernel_rfl) (by kernel_rfl) (by kernel_rfl) (by intro _ _ _ h; exact h) (Or.inr ⟨by rfl, rfl⟩) (by assumption) ?r13_66
        try simp only [Act.put, List.setIfInBounds_toArray, List.set_cons_zero, List.set_cons_succ]
        refine wpAnyH_take (i := 14) (v := ?_) (by simp only [List.getElem?_toArray, List.getElem?_cons_succ, List.getElem?_cons_zero]; rfl) (by kernel_rfl) (by kernel_rfl) (by kernel_rfl) (by intro _ _ _ h; exact h) (Or.inl ⟨by rfl, ?h14_67⟩) (by assumption) ?r14_67
        case h14_67 => (intro w hSw; (try dsimp only at hSw); go_simp; try with_reducible rfl)
        try simp only [Act.put, List.setIfInBounds_toArray, List.set_cons_zero, List.set_cons_succ]
        refine wpAnyH_take (i := 15) (v := ?_) (by simp only [List.getElem?_toArray, List.getElem?_cons_succ, List.getElem?_cons_zero]; rfl) (by kernel_rfl) (by kernel_rfl) (by kernel_rfl) (by intro _ _ _ h; exact h) (Or.inl ⟨by rfl, ?h15_68⟩) (by assumption) ?r15_68
        case h15_68 => (intro w hSw; (try dsimp only at hSw); go_simp; try with_reducible rfl)
        try simp only [Act.put, List.setIfInBounds_toArray, List.set_cons_zero, List.set_cons_succ]
        refine wpAnyH_done (by kernel_rfl) ?_ _
        go_wp2_with fail
        go_ret
        exact ⟨rfl, Below.trans (b := _) (Below.drew (Below.alloc (Below.refl _ _) (Nat.le_refl _) _)) (hb1.mono (by simp))⟩
end Go.Proofs.YtnahohkfkkemfaaDoor
