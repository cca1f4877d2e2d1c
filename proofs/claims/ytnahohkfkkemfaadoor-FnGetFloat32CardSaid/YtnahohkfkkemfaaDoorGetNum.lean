/- impl.GetIntN, GetUintN. -/
import Derived.Test.YtnahohkfkkemfaaDoorFitsI
namespace Go.Proofs.YtnahohkfkkemfaaDoor
open Go.RowKit
set_option linter.unusedVariables false
set_option linter.unusedSimpArgs false

/-- A node that reads as a value. -/
theorem pkAt_inv {w : World} {p : Pk} {k num ext : Int} {t : ByteArray} {a : Option Addr} {n c : Nat} (h : PkAt w p (pkV k num t ext a n c)) : ∃ ks, p = .mk k num t ext ks ∧ n = ks.length ∧ 0 ≤ num ∧ num < 18446744073709551616 := by
  cases h with
  | mk k num ext t kids a c vs hr hc hk => exact ⟨kids, rfl, rfl, hr.2.1.1, hr.2.1.2⟩
set_option maxRecDepth 100000 in
set_option maxHeartbeats 8000000 in
theorem fits16_any (k num : Int) (t : ByteArray) (ext : Int) (a : Option Addr) (n c : Nat) (s : Int) (sh : Bool) (a0 : Option Addr) (m0 c0 : Nat) (cut : Int) (w : World) :
    Calls Tryd.prog 9 #[gvV k num t ext a n c s sh a0 m0 c0 cut] w fun e w' => e = .returned (.bool (decide (m0 ≤ 2147483647))) ∧ Below w.heap.size w w' := by
  unfold gvV
  by_cases hb : m0 ≤ 2147483647
  · have e0 : decide ((m0 : Int) > 2147483647) = false := by simp; omega
    have e1 : decide (m0 ≤ 2147483647) = true := by simpa using hb
    rw [e1]
    clear hb e1
    go_enter Tryd.func9, Tryd.ntmps9
    go_wp2_with fail
    go_ret
    exact ⟨rfl, by (repeat (first | with_reducible exact Below.refl _ _ | with_reducible assumption | with_reducible refine below_drewN ?_ _ | with_reducible refine Below.drew ?_ | with_reducible refine below_row ?_ (by first | omega | (simp; done) | (simp; omega)) _ | with_reducible refine Below.alloc ?_ (by first | omega | (simp; done) | (simp; omega)) _ | with_reducible refine Below.setCell ?_ (by first | omega | (simp; done) | (simp; omega)) _))⟩
  · have e0 : decide ((m0 : Int) > 2147483647) = true := by simp; omega
    have e1 : decide (m0 ≤ 2147483647) = false := by simpa using hb
    rw [e1]
    clear hb e1
    go_enter Tryd.func9, Tryd.ntmps9
    go_wp2_with fail
    go_ret
    exact ⟨rfl, by (repeat (first | with_reducible exact Below.refl _ _ | with_reducible assumption | with_reducible refine below_drewN ?_ _ | with_reducible refine Below.drew ?_ | with_reducible refine below_row ?_ (by first | omega | (simp; done) | (simp; omega)) _ | with_reducible refine Below.alloc ?_ (by first | omega | (simp; done) | (simp; omega)) _ | with_reducible refine Below.setCell ?_ (by first | omega | (simp; done) | (simp; omega)) _))⟩
theorem Gl.keep {w w' : World} {B : Nat} (h : Gl w) (hb : Below B w w') (hB : w.heap.size ≤ B) : Gl w' := by
  obtain ⟨T, v, hc⟩ := h
  have := World.block_lt_of_cell? w _ hc
  exact ⟨T, v, by rw [hb.cell (p := ⟨0, 0, none⟩) (by simp at this ⊢; omega)]; exact hc⟩
set_option maxRecDepth 100000 in
set_option maxHeartbeats 8000000 in
theorem rin_good (a : Option Addr) (n c : Nat) (l : List Int) (u : Int) (k : Nat) (hd : dInt l = some (u, k)) (hu : -9223372036854775808 ≤ u ∧ u < 9223372036854775808) (w : World) (hv : Vw w a n c l) :
    ∃ a', Vw w a' (n - k) (c - k) (l.drop k) ∧ Calls Tryd.prog 32 #[.slice a n c] w fun e w' => e = .returned (.tuple #[.int .i64 u, .slice a' (n - k) (c - k), .nilIface]) ∧ Below w.heap.size w w' := by
  obtain ⟨a1, hv1, hc⟩ := ri_good a n c l u k hd w hv
  have HC := Lib.hid hc
  have HD := Lib.hid hd
  clear hc hd
  refine ⟨a1, hv1, ?_⟩
  clear hv1
  go_enter Tryd.func32, Tryd.ntmps32
  go_wp2_with fail
  refine HC.out.mono ?_
  rintro e w1 ⟨rfl, hb1⟩
  go_wp2_with fail
  go_ret3
  exact ⟨rfl, hb1⟩
set_option maxRecDepth 100000 in
set_option maxHeartbeats 8000000 in
theorem rin_bad (a : Option Addr) (n c : Nat) (l : List Int) (hd : dInt l = none) (w : World) (hv : Vw w a n c l) (hg : Gl w) :
    Calls Tryd.prog 32 #[.slice a n c] w (BadRes3 .i64 w) := by
  have hc := ri_bad a n c l hd w hv hg
  have HC := Lib.hid hc
  have HD := Lib.hid hd
  clear hc hd
  go_enter Tryd.func32, Tryd.ntmps32
  go_wp2_with fail
  refine HC.out.mono ?_
  rintro e w1 ⟨z, a1, n1, c1, T, v, rfl, hb1⟩
  go_wp2_with fail
  go_ret3
  exact ⟨_, _, _, _, _, _, rfl, hb1⟩
set_option maxRecDepth 100000 in
set_option maxHeartbeats 8000000 in
theorem run_good (a : Option Addr) (n c : Nat) (l : List Int) (u : Int) (k : Nat) (hd : dUint l = some (u, k)) (hu : 0 ≤ u ∧ u < 18446744073709551616) (w : World) (hv : Vw w a n c l) :
    ∃ a', Vw w a' (n - k) (c - k) (l.drop k) ∧ Calls Tryd.prog 34 #[.slice a n c] w fun e w' => e = .returned (.tuple #[.int .u64 u, .slice a' (n - k) (c - k), .nilIface]) ∧ Below w.heap.size w w' := by
  obtain ⟨a1, hv1, hc⟩ := ru_good a n c l u k hd w hv
  have HC := Lib.hid hc
  have HD := Lib.hid hd
  clear hc hd
  refine ⟨a1, hv1, ?_⟩
  clear hv1
  go_enter Tryd.func34, Tryd.ntmps34
  go_wp2_with fail
  refine HC.out.mono ?_
  rintro e w1 ⟨rfl, hb1⟩
  go_wp2_with fail
  go_ret3
  exact ⟨rfl, hb1⟩
set_option maxRecDepth 100000 in
set_option maxHeartbeats 8000000 in
theorem run_bad (a : Option Addr) (n c : Nat) (l : List Int) (hd : dUint l = none) (w : World) (hv : Vw w a n c l) (hg : Gl w) :
    Calls Tryd.prog 34 #[.slice a n c] w (BadRes3 .u64 w) := by
  have hc := ru_bad a n c l hd w hv hg
  have HC := Lib.hid hc
  have HD := Lib.hid hd
  clear hc hd
  go_enter Tryd.func34, Tryd.ntmps34
  go_wp2_with fail
  refine HC.out.mono ?_
  rintro e w1 ⟨z, a1, n1, c1, T, v, rfl, hb1⟩
  go_wp2_with fail
  go_ret3
  exact ⟨_, _, _, _, _, _, rfl, hb1⟩
set_option maxRecDepth 100000 in
set_option maxHeartbeats 8000000 in
theorem getIntN_good (a : Option Addr) (n c : Nat) (l : List Int) (hl : l.length ≤ 1099511627776) (u : Int) (k : Nat) (hd : dInt l = some (u, k)) (hu : -9223372036854775808 ≤ u ∧ u < 9223372036854775808) (w : World) (hv : Vw w a n c l) :
    Calls Tryd.prog 16 #[.slice a n c] w fun e w' => ∃ a' c', e = .returned (.tuple #[.int .i64 u, .slice a' (n - k) c', .bool true]) ∧ Vw w' a' (n - k) c' (l.drop k) ∧ Below w.heap.size w w' := by
  have hn := hv.len
  obtain ⟨a1, hv1, hc⟩ := rin_good a n c l u k hd hu w hv
  have HC := Lib.hid hc
  have HD := Lib.hid hd
  have HN := Lib.hid hn
  clear hc hd hn
  go_enter Tryd.func16, Tryd.ntmps16
  go_wp2_with fail
  refine HC.out.mono ?_
  rintro e w1 ⟨rfl, hb1⟩
  go_wp2_with fail
  refine (copied_any a1 (n - k) (c - k) _ _ (Vw.below hb1 (Nat.le_refl _) hv1) (by have := HN.out; omega)).mono ?_
  rintro e w2 ⟨a2, c2, rfl, ho2, hb2⟩
  go_wp2_with fail
  go_ret3
  exact ⟨a2, c2, rfl, ho2.vw, hb1.trans (hb2.mono hb1.size)⟩
set_option maxRecDepth 100000 in
set_option maxHeartbeats 8000000 in
theorem getIntN_bad (a : Option Addr) (n c : Nat) (l : List Int) (hd : dInt l = none) (w : World) (hv : Vw w a n c l) (hg : Gl w) :
    Calls Tryd.prog 16 #[.slice a n c] w fun e w' => e = .returned (.tuple #[.int .i64 0, .slice none 0 0, .bool false]) ∧ Below w.heap.size w w' := by
  have hc := rin_bad a n c l hd w hv hg
  have HC := Lib.hid hc
  have HD := Lib.hid hd
  clear hc hd
  go_enter Tryd.func16, Tryd.ntmps16
  go_wp2_with fail
  refine HC.out.mono ?_
  rintro e w1 ⟨z, a1, n1, c1, T, v, rfl, hb1⟩
  go_wp2_with fail
  go_ret3
  exact ⟨rfl, hb1⟩
set_option maxRecDepth 100000 in
set_option maxHeartbeats 8000000 in
theorem getUintN_good (a : Option Addr) (n c : Nat) (l : List Int) (hl : l.length ≤ 1099511627776) (u : Int) (k : Nat) (hd : dUint l = some (u, k)) (hu : 0 ≤ u ∧ u < 18446744073709551616) (w : World) (hv : Vw w a n c l) :
    Calls Tryd.prog 18 #[.slice a n c] w fun e w' => ∃ a' c', e = .returned (.tuple #[.int .u64 u, .slice a' (n - k) c', .bool true]) ∧ Vw w' a' (n - k) c' (l.drop k) ∧ Below w.heap.size w w' := by
  have hn := hv.len
  obtain ⟨a1, hv1, hc⟩ := run_good a n c l u k hd hu w hv
  have HC := Lib.hid hc
  have HD := Lib.hid hd
  have HN := Lib.hid hn
  clear hc hd hn
  go_enter Tryd.func18, Tryd.ntmps18
  go_wp2_with fail
  refine HC.out.mono ?_
  rintro e w1 ⟨rfl, hb1⟩
  go_wp2_with fail
  refine (copied_any a1 (n - k) (c - k) _ _ (Vw.below hb1 (Nat.le_refl _) hv1) (by have := HN.out; omega)).mono ?_
  rintro e w2 ⟨a2, c2, rfl, ho2, hb2⟩
  go_wp2_with fail
  go_ret3
  exact ⟨a2, c2, rfl, ho2.vw, hb1.trans (hb2.mono hb1.size)⟩
set_option maxRecDepth 100000 in
set_option maxHeartbeats 8000000 in
theorem getUintN_bad (a : Option Addr) (n c : Nat) (l : List Int) (hd : dUint l = none) (w : World) (hv : Vw w a n c l) (hg : Gl w) :
    Calls Tryd.prog 18 #[.slice a n c] w fun e w' => e = .returned (.tuple #[.int .u64 0, .slice none 0 0, .bool false]) ∧ Below w.heap.size w w' := by
  have hc := run_bad a n c l hd w hv hg
  have HC := Lib.hid hc
  have HD := Lib.hid hd
  clear hc hd
  go_enter Tryd.func18, Tryd.ntmps18
  go_wp2_with fail
  refine HC.out.mono ?_
  rintro e w1 ⟨z, a1, n1, c1, T, v, rfl, hb1⟩
  go_wp2_with fail
  go_ret3
  exact ⟨rfl, hb1⟩
end Go.Proofs.YtnahohkfkkemfaaDoor
