/- msgp.Number: isExactInt. -/
import Derived.Test.YtdncfolehkhjhaaDoorRd
import Derived.Test.YtdncfolehkhjhaaDoorNum
import Derived.Test.YtdncfolehkhjhaaDoorFlt
import Derived.Test.YtdncfolehkhjhaaDoorLays
namespace Go.Proofs.YtdncfolehkhjhaaDoor
open Go.RowKit
set_option linter.unusedVariables false
set_option linter.unusedSimpArgs false

theorem tz_any (x : Nat) (hx : x < 18446744073709551616) (w : World) (hT : TabAt 3 Go.Lib.deBruijn64tab w) :
    Calls Tryd.prog 56 #[.int .u64 x] w fun e w' => e = .returned (.int .i64 (Go.Lib.ctz 64 x)) ∧ w' = w :=
  Any7.bits_TrailingZeros64 Tryd.laysTZ x hx w fun _ => hT
theorem tabAt_drewN {g : Nat} {t : List Nat} {w : World} (h : TabAt g t w) (n : Nat) : TabAt g t (w.drewN n) := h
theorem u64_low (k : Nat) (x : Nat) (hx : x < 18446744073709551616) (hk : k ≤ 64) : bits .and .u64 (x : Int) ((2 ^ k - 1 : Nat) : Int) = ((x % 2 ^ k : Nat) : Int) := by
  have h1 : 2 ^ k ≤ 2 ^ 64 := Nat.pow_le_pow_right (by omega) hk
  rw [u64_and_nat x _ hx (by have : (2:Nat) ^ 64 = 18446744073709551616 := by decide
                             have := Nat.two_pow_pos k
                             omega), Nat.and_two_pow_sub_one_eq_mod]

/-- A Number's two cells. -/
abbrev NumAt (w : World) (g : Nat) (x : Nat) (t : Int) : Prop := Blk w g 89 #[.int .u64 x, .int .u8 t]

set_option maxRecDepth 100000 in
set_option maxHeartbeats 4000000 in
theorem exact64 (g x : Nat) (hx : x < 18446744073709551616) (w : World) (hB : NumAt w g x 5) (hT : TabAt 3 Go.Lib.deBruijn64tab w) :
    Calls Tryd.prog 42 #[.pointer (some ⟨g, 0, none⟩)] w fun e w' => e = .returned (.bool (ex64 x)) ∧ Below w.heap.size w w' := by
  have q0 := hB.cell (i := 0) rfl
  have q1 := hB.cell (i := 1) rfl
  have hl := hB.lt
  obtain ⟨E, hEe⟩ : ∃ E, E = x / 4503599627370496 % 2048 := ⟨_, rfl⟩
  obtain ⟨M, hMe⟩ : ∃ M, M = x % 4503599627370496 := ⟨_, rfl⟩
  have hE2 : E < 2048 := by omega
  have hM2 : M < 4503599627370496 := by omega
  have hex : ex64 x = if E = 0 ∧ M = 0 then true else if E < 1023 ∨ E = 2047 then false else if 1075 ≤ E then true else decide (1075 - E ≤ Go.Lib.ctz 64 M) := by unfold ex64; rw [← hEe, ← hMe]
  have hA : bits .and .i64 ((x : Int) / 4503599627370496) 2047 = (E : Int) := by
    have h := i64_mask 11 (by omega) ((x : Int) / 4503599627370496)
    have e1 : ((2 ^ 11 - 1 : Nat) : Int) = 2047 := rfl
    rw [e1] at h
    rw [h, hEe]
    omega
  have hN : bits .and .u64 (x : Int) 4503599627370495 = (M : Int) := by
    have h := u64_low 52 x (by omega) (by omega)
    have e1 : ((2 ^ 52 - 1 : Nat) : Int) = 4503599627370495 := rfl
    rw [e1] at h
    rw [h, hMe]
  clear hEe hMe hB
  rw [hex]
  clear hex
  have HT := Lib.hid hT
  clear hT
  by_cases hE0 : E = 0
  · subst hE0
    have z0 : (((0 : Nat) : Int) == 0) = true := rfl
    by_cases hM0 : M = 0
    · subst hM0
      rw [if_pos (by simp)]
      have z1 : (((0 : Nat) : Int) == 0) = true := rfl
      go_enter Tryd.func42, Tryd.ntmps42
      go_wp2_with fail
      go_quiet (fail)
      go_wp2_with fail
      go_quiet (fail)
      go_wp2_with fail
      go_ret
      exact ⟨rfl, by (repeat (first | with_reducible exact Below.refl _ _ | with_reducible assumption | with_reducible refine below_drewN ?_ _ | with_reducible refine Below.drew ?_ | with_reducible refine below_row ?_ (by first | omega | (simp; done) | (simp; omega)) _ | with_reducible refine Below.alloc ?_ (by first | omega | (simp; done) | (simp; omega)) _ | with_reducible refine Below.setCell ?_ (by first | omega | (simp; done) | (simp; omega)) _))⟩
    · rw [if_neg (by omega), if_pos (by omega)]
      have z1 : ((M : Int) == 0) = false := by simp; omega
      clear hM0
      go_enter Tryd.func42, Tryd.ntmps42
      go_wp2_with fail
      go_quiet (fail)
      go_wp2_with fail
      go_quiet (fail)
      go_wp2_with fail
      go_ret
      exact ⟨rfl, by (repeat (first | with_reducible exact Below.refl _ _ | with_reducible assumption | with_reducible refine below_drewN ?_ _ | with_reducible refine Below.drew ?_ | with_reducible refine below_row ?_ (by first | omega | (simp; done) | (simp; omega)) _ | with_reducible refine Below.alloc ?_ (by first | omega | (simp; done) | (simp; omega)) _ | with_reducible refine Below.setCell ?_ (by first | omega | (simp; done) | (simp; omega)) _))⟩
  · rw [if_neg (by omega)]
    have z0 : ((E : Int) == 0) = false := by simp; omega
    by_cases h1 : E < 1023
    · rw [if_pos (by omega)]
      have z1 : (E : Int) - 1023 < 0 := by omega
      skip
      go_enter Tryd.func42, Tryd.ntmps42
      go_wp2_with fail
      go_quiet (fail)
      go_wp2_with fail
      go_quiet (fail)
      go_wp2_with fail
      go_ret
      exact ⟨rfl, by (repeat (first | with_reducible exact Below.refl _ _ | with_reducible assumption | with_reducible refine below_drewN ?_ _ | with_reducible refine Below.drew ?_ | with_reducible refine below_row ?_ (by first | omega | (simp; done) | (simp; omega)) _ | with_reducible refine Below.alloc ?_ (by first | omega | (simp; done) | (simp; omega)) _ | with_reducible refine Below.setCell ?_ (by first | omega | (simp; done) | (simp; omega)) _))⟩
    · have z1 : ¬ ((E : Int) - 1023 < 0) := by omega
      by_cases h2 : E = 2047
      · rw [if_pos (by omega)]
        have z2 : ((E : Int) - 1023 == 1024) = true := by simp; omega
        clear h2
        go_enter Tryd.func42, Tryd.ntmps42
        go_wp2_with fail
        go_quiet (fail)
        go_wp2_with fail
        go_quiet (fail)
        go_wp2_with fail
        go_ret
        exact ⟨rfl, by (repeat (first | with_reducible exact Below.refl _ _ | with_reducible assumption | with_reducible refine below_drewN ?_ _ | with_reducible refine Below.drew ?_ | with_reducible refine below_row ?_ (by first | omega | (simp; done) | (simp; omega)) _ | with_reducible refine Below.alloc ?_ (by first | omega | (simp; done) | (simp; omega)) _ | with_reducible refine Below.setCell ?_ (by first | omega | (simp; done) | (simp; omega)) _))⟩
      · rw [if_neg (by omega)]
        have z2 : ((E : Int) - 1023 == 1024) = false := by simp; omega
        by_cases h3 : 1075 ≤ E
        · rw [if_pos h3]
          have z3 : 52 ≤ (E : Int) - 1023 := by omega
          clear h2 h3
          go_enter Tryd.func42, Tryd.ntmps42
          go_wp2_with fail
          go_quiet (fail)
          go_wp2_with fail
          go_quiet (fail)
          go_wp2_with fail
          go_ret
          exact ⟨rfl, by (repeat (first | with_reducible exact Below.refl _ _ | with_reducible assumption | with_reducible refine below_drewN ?_ _ | with_reducible refine Below.drew ?_ | with_reducible refine below_row ?_ (by first | omega | (simp; done) | (simp; omega)) _ | with_reducible refine Below.alloc ?_ (by first | omega | (simp; done) | (simp; omega)) _ | with_reducible refine Below.setCell ?_ (by first | omega | (simp; done) | (simp; omega)) _))⟩
        · rw [if_neg h3]
          have z3 : ¬ (52 ≤ (E : Int) - 1023) := by omega
          obtain ⟨c, hc⟩ : ∃ c, c = Go.Lib.ctz 64 M := ⟨_, rfl⟩
          have hfin : decide (1075 - E ≤ c) = decide (52 - ((E : Int) - 1023) ≤ (c : Int)) := by rw [decide_eq_decide]; omega
          rw [← hc, hfin]
          have HTZ := fun W h => tz_any M (by omega) W h
          rw [← hc] at HTZ
          clear h2 h3 hc hfin
          have HZ := Lib.hid HTZ
          clear HTZ
          go_enter Tryd.func42, Tryd.ntmps42
          go_wp2_with fail
          go_quiet (fail)
          go_wp2_with fail
          go_quiet (fail)
          go_wp2_with fail
          refine (HZ.out _ (tabAt_drewN HT.out _)).mono ?_
          rintro e w1 ⟨rfl, rfl⟩
          go_wp2_with fail
          go_ret
          exact ⟨rfl, by (repeat (first | with_reducible exact Below.refl _ _ | with_reducible assumption | with_reducible refine below_drewN ?_ _ | with_reducible refine Below.drew ?_ | with_reducible refine below_row ?_ (by first | omega | (simp; done) | (simp; omega)) _ | with_reducible refine Below.alloc ?_ (by first | omega | (simp; done) | (simp; omega)) _ | with_reducible refine Below.setCell ?_ (by first | omega | (simp; done) | (simp; omega)) _))⟩

set_option maxRecDepth 100000 in
set_option maxHeartbeats 4000000 in
theorem exact32 (g x : Nat) (hx : x < 4294967296) (w : World) (hB : NumAt w g x 6) (hT : TabAt 3 Go.Lib.deBruijn64tab w) :
    Calls Tryd.prog 42 #[.pointer (some ⟨g, 0, none⟩)] w fun e w' => e = .returned (.bool (ex32 x)) ∧ Below w.heap.size w w' := by
  have q0 := hB.cell (i := 0) rfl
  have q1 := hB.cell (i := 1) rfl
  have hl := hB.lt
  obtain ⟨E, hEe⟩ : ∃ E, E = x / 8388608 % 256 := ⟨_, rfl⟩
  obtain ⟨M, hMe⟩ : ∃ M, M = x % 8388608 := ⟨_, rfl⟩
  have hE2 : E < 256 := by omega
  have hM2 : M < 8388608 := by omega
  have hex : ex32 x = if E = 0 ∧ M = 0 then true else if E < 127 ∨ E = 255 then false else if 150 ≤ E then true else decide (150 - E ≤ Go.Lib.ctz 64 M) := by unfold ex32; rw [← hEe, ← hMe]
  have hA : bits .and .i64 ((x : Int) / 8388608) 255 = (E : Int) := by
    have h := i64_mask 8 (by omega) ((x : Int) / 8388608)
    have e1 : ((2 ^ 8 - 1 : Nat) : Int) = 255 := rfl
    rw [e1] at h
    rw [h, hEe]
    omega
  have hN : bits .and .u64 (x : Int) 8388607 = (M : Int) := by
    have h := u64_low 23 x (by omega) (by omega)
    have e1 : ((2 ^ 23 - 1 : Nat) : Int) = 8388607 := rfl
    rw [e1] at h
    rw [h, hMe]
  clear hEe hMe hB
  rw [hex]
  clear hex
  have HT := Lib.hid hT
  clear hT
  by_cases hE0 : E = 0
  · subst hE0
    have z0 : (((0 : Nat) : Int) == 0) = true := rfl
    by_cases hM0 : M = 0
    · subst hM0
      rw [if_pos (by simp)]
      have z1 : (((0 : Nat) : Int) == 0) = true := rfl
      go_enter Tryd.func42, Tryd.ntmps42
      go_wp2_with fail
      go_quiet (fail)
      go_wp2_with fail
      go_quiet (fail)
      go_wp2_with fail
      go_ret
      exact ⟨rfl, by (repeat (first | with_reducible exact Below.refl _ _ | with_reducible assumption | with_reducible refine below_drewN ?_ _ | with_reducible refine Below.drew ?_ | with_reducible refine below_row ?_ (by first | omega | (simp; done) | (simp; omega)) _ | with_reducible refine Below.alloc ?_ (by first | omega | (simp; done) | (simp; omega)) _ | with_reducible refine Below.setCell ?_ (by first | omega | (simp; done) | (simp; omega)) _))⟩
    · rw [if_neg (by omega), if_pos (by omega)]
      have z1 : ((M : Int) == 0) = false := by simp; omega
      clear hM0
      go_enter Tryd.func42, Tryd.ntmps42
      go_wp2_with fail
      go_quiet (fail)
      go_wp2_with fail
      go_quiet (fail)
      go_wp2_with fail
      go_ret
      exact ⟨rfl, by (repeat (first | with_reducible exact Below.refl _ _ | with_reducible assumption | with_reducible refine below_drewN ?_ _ | with_reducible refine Below.drew ?_ | with_reducible refine below_row ?_ (by first | omega | (simp; done) | (simp; omega)) _ | with_reducible refine Below.alloc ?_ (by first | omega | (simp; done) | (simp; omega)) _ | with_reducible refine Below.setCell ?_ (by first | omega | (simp; done) | (simp; omega)) _))⟩
  · rw [if_neg (by omega)]
    have z0 : ((E : Int) == 0) = false := by simp; omega
    by_cases h1 : E < 127
    · rw [if_pos (by omega)]
      have z1 : (E : Int) - 127 < 0 := by omega
      skip
      go_enter Tryd.func42, Tryd.ntmps42
      go_wp2_with fail
      go_quiet (fail)
      go_wp2_with fail
      go_quiet (fail)
      go_wp2_with fail
      go_ret
      exact ⟨rfl, by (repeat (first | with_reducible exact Below.refl _ _ | with_reducible assumption | with_reducible refine below_drewN ?_ _ | with_reducible refine Below.drew ?_ | with_reducible refine below_row ?_ (by first | omega | (simp; done) | (simp; omega)) _ | with_reducible refine Below.alloc ?_ (by first | omega | (simp; done) | (simp; omega)) _ | with_reducible refine Below.setCell ?_ (by first | omega | (simp; done) | (simp; omega)) _))⟩
    · have z1 : ¬ ((E : Int) - 127 < 0) := by omega
      by_cases h2 : E = 255
      · rw [if_pos (by omega)]
        have z2 : ((E : Int) - 127 == 128) = true := by simp; omega
        clear h2
        go_enter Tryd.func42, Tryd.ntmps42
        go_wp2_with fail
        go_quiet (fail)
        go_wp2_with fail
        go_quiet (fail)
        go_wp2_with fail
        go_ret
        exact ⟨rfl, by (repeat (first | with_reducible exact Below.refl _ _ | with_reducible assumption | with_reducible refine below_drewN ?_ _ | with_reducible refine Below.drew ?_ | with_reducible refine below_row ?_ (by first | omega | (simp; done) | (simp; omega)) _ | with_reducible refine Below.alloc ?_ (by first | omega | (simp; done) | (simp; omega)) _ | with_reducible refine Below.setCell ?_ (by first | omega | (simp; done) | (simp; omega)) _))⟩
      · rw [if_neg (by omega)]
        have z2 : ((E : Int) - 127 == 128) = false := by simp; omega
        by_cases h3 : 150 ≤ E
        · rw [if_pos h3]
          have z3 : 23 ≤ (E : Int) - 127 := by omega
          clear h2 h3
          go_enter Tryd.func42, Tryd.ntmps42
          go_wp2_with fail
          go_quiet (fail)
          go_wp2_with fail
          go_quiet (fail)
          go_wp2_with fail
          go_ret
          exact ⟨rfl, by (repeat (first | with_reducible exact Below.refl _ _ | with_reducible assumption | with_reducible refine below_drewN ?_ _ | with_reducible refine Below.drew ?_ | with_reducible refine below_row ?_ (by first | omega | (simp; done) | (simp; omega)) _ | with_reducible refine Below.alloc ?_ (by first | omega | (simp; done) | (simp; omega)) _ | with_reducible refine Below.setCell ?_ (by first | omega | (simp; done) | (simp; omega)) _))⟩
        · rw [if_neg h3]
          have z3 : ¬ (23 ≤ (E : Int) - 127) := by omega
          obtain ⟨c, hc⟩ : ∃ c, c = Go.Lib.ctz 64 M := ⟨_, rfl⟩
          have hfin : decide (150 - E ≤ c) = decide (23 - ((E : Int) - 127) ≤ (c : Int)) := by rw [decide_eq_decide]; omega
          rw [← hc, hfin]
          have HTZ := fun W h => tz_any M (by omega) W h
          rw [← hc] at HTZ
          clear h2 h3 hc hfin
          have HZ := Lib.hid HTZ
          clear HTZ
          go_enter Tryd.func42, Tryd.ntmps42
          go_wp2_with fail
          go_quiet (fail)
          go_wp2_with fail
          go_quiet (fail)
          go_wp2_with fail
          refine (HZ.out _ (tabAt_drewN HT.out _)).mono ?_
          rintro e w1 ⟨rfl, rfl⟩
          go_wp2_with fail
          go_ret
          exact ⟨rfl, by (repeat (first | with_reducible exact Below.refl _ _ | with_reducible assumption | with_reducible refine below_drewN ?_ _ | with_reducible refine Below.drew ?_ | with_reducible refine below_row ?_ (by first | omega | (simp; done) | (simp; omega)) _ | with_reducible refine Below.alloc ?_ (by first | omega | (simp; done) | (simp; omega)) _ | with_reducible refine Below.setCell ?_ (by first | omega | (simp; done) | (simp; omega)) _))⟩
end Go.Proofs.YtdncfolehkhjhaaDoor
