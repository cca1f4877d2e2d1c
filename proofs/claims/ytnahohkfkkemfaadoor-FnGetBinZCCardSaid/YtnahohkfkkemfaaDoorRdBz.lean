/- msgp.readBytesBytes without a copy, impl.GetBinZC. -/
import Derived.Test.YtnahohkfkkemfaaDoorFixW
namespace Go.Proofs.YtnahohkfkkemfaaDoor
open Go.RowKit
set_option linter.unusedVariables false
set_option linter.unusedSimpArgs false

/-- Bytes behind their head: how long the head is, how many bytes. -/
def dBz (l : List Int) : Option (Nat × Nat) :=
  match isBin l with
  | some (u, k) => if k + u.toNat ≤ l.length then some (k, u.toNat) else none
  | none => none
def BadRes3s (w : World) (e : Ending) (w' : World) : Prop := ∃ (v : Value) (a : Option Addr) (n c : Nat) (T : TypeId) (x : Value), e = .returned (.tuple #[v, .slice a n c, .iface T x]) ∧ Below w.heap.size w w'

set_option maxRecDepth 100000 in
set_option maxHeartbeats 8000000 in
theorem rbz_196 (a : Option Addr) (n c : Nat) (l : List Int) (hz : l.getD 0 0 = 196) (hl : ¬ l.length < 2) (u : Nat) (hu : l.getD 1 0 = (u : Int)) (hlu : 2 + u ≤ l.length) (w : World) (hv : Vw w a n c l) :
    ∃ a1 a2, Vw w a1 u (c - 2) ((l.drop 2).take u) ∧ Vw w a2 (n - (2 + u)) (c - (2 + u)) (l.drop (2 + u)) ∧ Calls Tryd.prog 52 #[.slice a n c, .slice none 0 0, .bool true] w fun e w' => e = .returned (.tuple #[.slice a1 u (c - 2), .slice a2 (n - (2 + u)) (c - (2 + u)), .nilIface]) ∧ Below w.heap.size w w' := by
  have hn := hv.len
  have hcn := hv.cap
  have hcb := hv.big
  rcases hv.cells with h0 | ⟨b, off, rfl, hc⟩
  · omega
  have q0 : w.cell? ⟨b, off, none⟩ = some (.int .u8 196) := by rw [← hz]; simpa using hc 0 (by omega)
  have b0 : (0 : Int) < (n : Int) := by omega
  have d1 : decide ((n : Int) < 1) = false := by simp; omega
  obtain ⟨a1, ho1, hv1⟩ := off_of hv 1 1 rfl (by omega)
  unfold Off at ho1
  have d2 : decide (((n - 1 : Nat) : Int) < 1) = false := by simp; omega
  rcases hv1.cells with h0 | ⟨b1, off1, rfl, hc1⟩
  · omega
  have e1 : (l.drop 1).getD 0 0 = l.getD 1 0 := by simp [List.getD]
  have q1 : w.cell? ⟨b1, off1, none⟩ = some (.int .u8 u) := by rw [← hu, ← e1]; simpa using hc1 0 (by omega)
  have b1' : (0 : Int) < ((n - 1 : Nat) : Int) := by omega
  obtain ⟨a2, ho2, hv2⟩ := off_of hv1 1 1 rfl (by omega)
  unfold Off at ho2
  rw [List.drop_drop, show n - 1 - 1 = n - 2 by omega, show c - 1 - 1 = c - 2 by omega] at hv2
  rw [show n - 1 - 1 = n - 2 by omega, show c - 1 - 1 = c - 2 by omega] at ho2
  obtain ⟨a3, ho3, hv3⟩ := off_of hv2 (u : Int) u rfl (by omega)
  unfold Off at ho3
  rw [List.drop_drop, show n - 2 - u = n - (2 + u) by omega, show c - 2 - u = c - (2 + u) by omega] at hv3
  rw [show n - 2 - u = n - (2 + u) by omega, show c - 2 - u = c - (2 + u) by omega] at ho3
  have hun : u ≤ n - 2 := by omega
  have d3 : decide (((n - 2 : Nat) : Int) < (u : Int)) = false := by simp; omega
  refine ⟨a2, a3, hv2.take hun, hv3, ?_⟩
  have hlu2 : u ≤ 9223372036854775807 := by omega
  clear hz hl hn hc hu hlu hv1 hv2 hv3 hc1 e1
  go_enter Tryd.func52, Tryd.ntmps52
  go_wp2_with fail
  go_ret3
  exact ⟨rfl, Below.refl _ _⟩

set_option maxRecDepth 100000 in
set_option maxHeartbeats 8000000 in
theorem rbz_197 (a : Option Addr) (n c : Nat) (l : List Int) (hz : l.getD 0 0 = 197) (hl : ¬ l.length < 3) (u : Nat) (hu : beN [l.getD 1 0, l.getD 2 0] = (u : Int)) (hlu : 3 + u ≤ l.length) (w : World) (hv : Vw w a n c l) :
    ∃ a1 a2, Vw w a1 u (c - 3) ((l.drop 3).take u) ∧ Vw w a2 (n - (3 + u)) (c - (3 + u)) (l.drop (3 + u)) ∧ Calls Tryd.prog 52 #[.slice a n c, .slice none 0 0, .bool true] w fun e w' => e = .returned (.tuple #[.slice a1 u (c - 3), .slice a2 (n - (3 + u)) (c - (3 + u)), .nilIface]) ∧ Below w.heap.size w w' := by
  have hn := hv.len
  have hcn := hv.cap
  have hcb := hv.big
  rcases hv.cells with h0 | ⟨b, off, rfl, hc⟩
  · omega
  have q0 : w.cell? ⟨b, off, none⟩ = some (.int .u8 197) := by rw [← hz]; simpa using hc 0 (by omega)
  have b0 : (0 : Int) < (n : Int) := by omega
  have d1 : decide ((n : Int) < 1) = false := by simp; omega
  obtain ⟨a1, ho1, hv1⟩ := off_of hv 1 1 rfl (by omega)
  unfold Off at ho1
  have d2 : decide (((n - 1 : Nat) : Int) < 2) = false := by simp; omega
  obtain ⟨r, hr⟩ := drop_cells l 1 2 (by omega)
  have hv1' := hv1
  rw [hr] at hv1'
  have hbe := fun W (h : Vw W a1 (n - 1) (c - 1) _) => be16_any a1 (n - 1) (c - 1) (l.getD 1 0) (l.getD 2 0) r W h
  rw [hu] at hbe
  obtain ⟨a2, ho2, hv2⟩ := off_of hv1 2 2 rfl (by omega)
  unfold Off at ho2
  rw [List.drop_drop, show n - 1 - 2 = n - 3 by omega, show c - 1 - 2 = c - 3 by omega] at hv2
  rw [show n - 1 - 2 = n - 3 by omega, show c - 1 - 2 = c - 3 by omega] at ho2
  obtain ⟨a3, ho3, hv3⟩ := off_of hv2 (u : Int) u rfl (by omega)
  unfold Off at ho3
  rw [List.drop_drop, show n - 3 - u = n - (3 + u) by omega, show c - 3 - u = c - (3 + u) by omega] at hv3
  rw [show n - 3 - u = n - (3 + u) by omega, show c - 3 - u = c - (3 + u) by omega] at ho3
  have hun : u ≤ n - 3 := by omega
  have d3 : decide (((n - 3 : Nat) : Int) < (u : Int)) = false := by simp; omega
  refine ⟨a2, a3, hv2.take hun, hv3, ?_⟩
  have HB := Lib.hid hbe
  have HV := Lib.hid hv1'
  clear hbe hv1' hr
  have hlu2 : u ≤ 9223372036854775807 := by omega
  clear hz hl hn hc hu hlu hv1 hv2 hv3
  go_enter Tryd.func52, Tryd.ntmps52
  go_wp2_with fail
  refine (HB.out _ HV.out).mono ?_
  rintro e w1 ⟨rfl, hb1⟩
  go_wp2_with fail
  go_ret3
  exact ⟨rfl, hb1⟩

set_option maxRecDepth 100000 in
set_option maxHeartbeats 8000000 in
theorem rbz_198 (a : Option Addr) (n c : Nat) (l : List Int) (hz : l.getD 0 0 = 198) (hl : ¬ l.length < 5) (u : Nat) (hu : beN [l.getD 1 0, l.getD 2 0, l.getD 3 0, l.getD 4 0] = (u : Int)) (hlu : 5 + u ≤ l.length) (w : World) (hv : Vw w a n c l) :
    ∃ a1 a2, Vw w a1 u (c - 5) ((l.drop 5).take u) ∧ Vw w a2 (n - (5 + u)) (c - (5 + u)) (l.drop (5 + u)) ∧ Calls Tryd.prog 52 #[.slice a n c, .slice none 0 0, .bool true] w fun e w' => e = .returned (.tuple #[.slice a1 u (c - 5), .slice a2 (n - (5 + u)) (c - (5 + u)), .nilIface]) ∧ Below w.heap.size w w' := by
  have hn := hv.len
  have hcn := hv.cap
  have hcb := hv.big
  rcases hv.cells with h0 | ⟨b, off, rfl, hc⟩
  · omega
  have q0 : w.cell? ⟨b, off, none⟩ = some (.int .u8 198) := by rw [← hz]; simpa using hc 0 (by omega)
  have b0 : (0 : Int) < (n : Int) := by omega
  have d1 : decide ((n : Int) < 1) = false := by simp; omega
  obtain ⟨a1, ho1, hv1⟩ := off_of hv 1 1 rfl (by omega)
  unfold Off at ho1
  have d2 : decide (((n - 1 : Nat) : Int) < 4) = false := by simp; omega
  obtain ⟨r, hr⟩ := drop_cells l 1 4 (by omega)
  have hv1' := hv1
  rw [hr] at hv1'
  have hbe := fun W (h : Vw W a1 (n - 1) (c - 1) _) => be32_any a1 (n - 1) (c - 1) (l.getD 1 0) (l.getD 2 0) (l.getD 3 0) (l.getD 4 0) r W h
  rw [hu] at hbe
  obtain ⟨a2, ho2, hv2⟩ := off_of hv1 4 4 rfl (by omega)
  unfold Off at ho2
  rw [List.drop_drop, show n - 1 - 4 = n - 5 by omega, show c - 1 - 4 = c - 5 by omega] at hv2
  rw [show n - 1 - 4 = n - 5 by omega, show c - 1 - 4 = c - 5 by omega] at ho2
  obtain ⟨a3, ho3, hv3⟩ := off_of hv2 (u : Int) u rfl (by omega)
  unfold Off at ho3
  rw [List.drop_drop, show n - 5 - u = n - (5 + u) by omega, show c - 5 - u = c - (5 + u) by omega] at hv3
  rw [show n - 5 - u = n - (5 + u) by omega, show c - 5 - u = c - (5 + u) by omega] at ho3
  have hun : u ≤ n - 5 := by omega
  have d3 : decide (((n - 5 : Nat) : Int) < (u : Int)) = false := by simp; omega
  refine ⟨a2, a3, hv2.take hun, hv3, ?_⟩
  have HB := Lib.hid hbe
  have HV := Lib.hid hv1'
  clear hbe hv1' hr
  have hlu2 : u ≤ 9223372036854775807 := by omega
  clear hz hl hn hc hu hlu hv1 hv2 hv3
  go_enter Tryd.func52, Tryd.ntmps52
  go_wp2_with fail
  refine (HB.out _ HV.out).mono ?_
  rintro e w1 ⟨rfl, hb1⟩
  go_wp2_with fail
  go_ret3
  exact ⟨rfl, hb1⟩

theorem dBz_cases {l : List Int} {k u : Nat} (hd : dBz l = some (k, u)) : ∃ v, isBin l = some (v, k) ∧ v.toNat = u ∧ k + u ≤ l.length := by
  unfold dBz at hd
  cases h : isBin l with
  | none => rw [h] at hd; cases hd
  | some y =>
    obtain ⟨v, k'⟩ := y
    rw [h] at hd
    simp only at hd
    split at hd
    · injection hd with hd
      injection hd with h1 h2
      subst h1; subst h2
      exact ⟨v, rfl, rfl, by assumption⟩
    · cases hd
set_option maxRecDepth 100000 in
set_option maxHeartbeats 8000000 in
theorem rbz_good (a : Option Addr) (n c : Nat) (l : List Int) (k u : Nat) (hd : dBz l = some (k, u)) (w : World) (hv : Vw w a n c l) :
    ∃ a1 a2, Vw w a1 u (c - k) ((l.drop k).take u) ∧ Vw w a2 (n - (k + u)) (c - (k + u)) (l.drop (k + u)) ∧ Calls Tryd.prog 52 #[.slice a n c, .slice none 0 0, .bool true] w fun e w' => e = .returned (.tuple #[.slice a1 u (c - k), .slice a2 (n - (k + u)) (c - (k + u)), .nilIface]) ∧ Below w.heap.size w w' := by
  obtain ⟨v, hb, rfl, hlu⟩ := dBz_cases hd
  clear hd
  unfold isBin at hb
  by_cases h1 : l.length < 1
  · rw [if_pos h1] at hb; cases hb
  rw [if_neg h1] at hb
  have nn : ∀ m : List Int, (∀ x ∈ m, 0 ≤ x ∧ x ≤ 255) → ((beN m).toNat : Int) = beN m := fun m hm => by have := (beN_bds m hm).1; omega
  by_cases z196 : l.getD 0 0 = 196
  · rw [if_pos z196] at hb
    by_cases h2 : l.length < 2
    · rw [if_pos h2] at hb; cases hb
    rw [if_neg h2] at hb
    injection hb with hb; injection hb with x y; subst x; subst y
    exact rbz_196 a n c l z196 h2 _ (by have := (hv.byt _ (getD_mem l 1 (by omega))).1; omega) hlu w hv
  rw [if_neg z196] at hb
  by_cases z197 : l.getD 0 0 = 197
  · rw [if_pos z197] at hb
    by_cases h2 : l.length < 3
    · rw [if_pos h2] at hb; cases hb
    rw [if_neg h2] at hb
    injection hb with hb; injection hb with x y; subst x; subst y
    exact rbz_197 a n c l z197 h2 _ (nn _ (by intro x hx; simp only [List.mem_cons, List.not_mem_nil, or_false] at hx; rcases hx with rfl | rfl <;> exact hv.byt _ (getD_mem l _ (by omega)))).symm hlu w hv
  rw [if_neg z197] at hb
  by_cases z198 : l.getD 0 0 = 198
  · rw [if_pos z198] at hb
    by_cases h2 : l.length < 5
    · rw [if_pos h2] at hb; cases hb
    rw [if_neg h2] at hb
    injection hb with hb; injection hb with x y; subst x; subst y
    exact rbz_198 a n c l z198 h2 _ (nn _ (by intro x hx; simp only [List.mem_cons, List.not_mem_nil, or_false] at hx; rcases hx with rfl | rfl | rfl | rfl <;> exact hv.byt _ (getD_mem l _ (by omega)))).symm hlu w hv
  rw [if_neg z198] at hb
  cases hb
set_option maxRecDepth 100000 in
set_option maxHeartbeats 8000000 in
theorem rbz_bad (a : Option Addr) (n c : Nat) (l : List Int) (hd : dBz l = none) (w : World) (hv : Vw w a n c l) (hg : Gl w) :
    Calls Tryd.prog 52 #[.slice a n c, .slice none 0 0, .bool true] w (BadRes3s w) := by
  obtain ⟨T, v, hgl⟩ := hg
  have hn := hv.len
  have hcn := hv.cap
  have hcb := hv.big
  by_cases h1 : l.length < 1
  · have d1 : decide ((n : Int) < 1) = true := by simp; omega
    clear hd hn h1
    go_enter Tryd.func52, Tryd.ntmps52
    go_wp2_with fail
    go_quiet (fail)
    go_wp2_with fail
    go_ret3
    exact ⟨_, _, _, _, _, _, rfl, by (repeat (first | with_reducible exact Below.refl _ _ | with_reducible assumption | with_reducible refine below_drewN ?_ _ | with_reducible refine Below.drew ?_ | with_reducible refine below_row ?_ (by first | omega | (simp; done) | (simp; omega)) _ | with_reducible refine Below.alloc ?_ (by first | omega | (simp; done) | (simp; omega)) _ | with_reducible refine Below.setCell ?_ (by first | omega | (simp; done) | (simp; omega)) _))⟩
  have hdb : ∀ u k, isBin l = some (u, k) → ¬ k + u.toNat ≤ l.length := fun u k h h2 => by
    unfold dBz at hd
    rw [h] at hd
    simp only at hd
    rw [if_pos h2] at hd
    cases hd
  unfold isBin at hdb
  rw [if_neg h1] at hdb
  rcases hv.cells with h0 | ⟨b, off, rfl, hc⟩
  · omega
  obtain ⟨z, hz⟩ : ∃ z, z = l.getD 0 0 := ⟨_, rfl⟩
  have q0 : w.cell? ⟨b, off, none⟩ = some (.int .u8 z) := by rw [hz]; simpa using hc 0 (by omega)
  have hzb := hv.byt _ (getD_mem l 0 (by omega))
  rw [← hz] at hzb hdb
  obtain ⟨hz0, hz1⟩ := hzb
  have b0 : (0 : Int) < (n : Int) := by omega
  have d1 : decide ((n : Int) < 1) = false := by simp; omega
  obtain ⟨a1, ho1, hv1⟩ := off_of hv 1 1 rfl (by omega)
  unfold Off at ho1
  by_cases z196 : z = 196
  · by_cases h2 : l.length < 2
    · have d2 : decide (((n - 1 : Nat) : Int) < 1) = true := by simp; omega
      subst z196
      clear hdb hn h1 hc hz hd hv1
      go_enter Tryd.func52, Tryd.ntmps52
      go_wp2_with fail
      go_ret3
      exact ⟨_, _, _, _, _, _, rfl, by (repeat (first | with_reducible exact Below.refl _ _ | with_reducible assumption | with_reducible refine below_drewN ?_ _ | with_reducible refine Below.drew ?_ | with_reducible refine below_row ?_ (by first | omega | (simp; done) | (simp; omega)) _ | with_reducible refine Below.alloc ?_ (by first | omega | (simp; done) | (simp; omega)) _ | with_reducible refine Below.setCell ?_ (by first | omega | (simp; done) | (simp; omega)) _))⟩
    · have d2 : decide (((n - 1 : Nat) : Int) < 1) = false := by simp; omega
      rw [if_pos z196, if_neg h2] at hdb
      have hlu := hdb _ _ rfl
      have hub := hv.byt _ (getD_mem l 1 (by omega))
      obtain ⟨u, hu⟩ : ∃ u : Nat, l.getD 1 0 = (u : Int) := ⟨(l.getD 1 0).toNat, by omega⟩
      rw [hu] at hlu hub
      have hlu2 : u ≤ 4294967295 := by simp at hub; omega
      simp only [Int.toNat_natCast] at hlu
      rcases hv1.cells with h0 | ⟨b1, off1, rfl, hc1⟩
      · omega
      have e1 : (l.drop 1).getD 0 0 = l.getD 1 0 := by simp [List.getD]
      have q1 : w.cell? ⟨b1, off1, none⟩ = some (.int .u8 u) := by rw [← hu, ← e1]; simpa using hc1 0 (by omega)
      have b1' : (0 : Int) < ((n - 1 : Nat) : Int) := by omega
      obtain ⟨a2, ho2, hv2⟩ := off_of hv1 1 1 rfl (by omega)
      unfold Off at ho2
      rw [show n - 1 - 1 = n - 2 by omega, show c - 1 - 1 = c - 2 by omega] at ho2
      have d3 : decide (n - 2 < u) = true := by simp; omega
      have d3' : n - 2 < u := by omega
      subst z196
      clear hd hdb hn h1 hc hz hu hlu hub hv1 hv2 hc1 e1
      go_enter Tryd.func52, Tryd.ntmps52
      go_wp2_with fail
      go_ret3
      exact ⟨_, _, _, _, _, _, rfl, by (repeat (first | with_reducible exact Below.refl _ _ | with_reducible assumption | with_reducible refine below_drewN ?_ _ | with_reducible refine Below.drew ?_ | with_reducible refine below_row ?_ (by first | omega | (simp; done) | (simp; omega)) _ | with_reducible refine Below.alloc ?_ (by first | omega | (simp; done) | (simp; omega)) _ | with_reducible refine Below.setCell ?_ (by first | omega | (simp; done) | (simp; omega)) _))⟩
  rw [if_neg z196] at hdb
  by_cases z197 : z = 197
  · by_cases h2 : l.length < 3
    · have d2 : decide (((n - 1 : Nat) : Int) < 2) = true := by simp; omega
      subst z197
      clear hdb hn h1 hc hz hd hv1
      go_enter Tryd.func52, Tryd.ntmps52
      go_wp2_with fail
      go_ret3
      exact ⟨_, _, _, _, _, _, rfl, by (repeat (first | with_reducible exact Below.refl _ _ | with_reducible assumption | with_reducible refine below_drewN ?_ _ | with_reducible refine Below.drew ?_ | with_reducible refine below_row ?_ (by first | omega | (simp; done) | (simp; omega)) _ | with_reducible refine Below.alloc ?_ (by first | omega | (simp; done) | (simp; omega)) _ | with_reducible refine Below.setCell ?_ (by first | omega | (simp; done) | (simp; omega)) _))⟩
    · have d2 : decide (((n - 1 : Nat) : Int) < 2) = false := by simp; omega
      rw [if_pos z197, if_neg h2] at hdb
      have hlu := hdb _ _ rfl
      have hub := beN_bds [l.getD 1 0, l.getD 2 0] (by intro x hx; simp only [List.mem_cons, List.not_mem_nil, or_false] at hx; rcases hx with rfl | rfl <;> exact hv.byt _ (getD_mem l _ (by omega)))
      obtain ⟨u, hu⟩ : ∃ u : Nat, beN [l.getD 1 0, l.getD 2 0] = (u : Int) := ⟨(beN [l.getD 1 0, l.getD 2 0]).toNat, by omega⟩
      rw [hu] at hlu hub
      have hlu2 : u ≤ 4294967295 := by simp at hub; omega
      simp only [Int.toNat_natCast] at hlu
      obtain ⟨r, hr⟩ := drop_cells l 1 2 (by omega)
      have hv1' := hv1
      rw [hr] at hv1'
      have hbe := fun W (h : Vw W a1 (n - 1) (c - 1) _) => be16_any a1 (n - 1) (c - 1) (l.getD 1 0) (l.getD 2 0) r W h
      rw [hu] at hbe
      obtain ⟨a2, ho2, hv2⟩ := off_of hv1 2 2 rfl (by omega)
      unfold Off at ho2
      rw [show n - 1 - 2 = n - 3 by omega, show c - 1 - 2 = c - 3 by omega] at ho2
      have d3 : decide (n - 3 < u) = true := by simp; omega
      have d3' : n - 3 < u := by omega
      subst z197
      have HB := Lib.hid hbe
      have HV := Lib.hid hv1'
      clear hbe hv1' hr
      clear hd hdb hn h1 hc hz hu hlu hub hv1 hv2
      go_enter Tryd.func52, Tryd.ntmps52
      go_wp2_with fail
      refine (HB.out _ HV.out).mono ?_
      rintro e w1 ⟨rfl, hb1⟩
      have hg1 : w1.cell? ⟨0, 0, none⟩ = some (.iface T v) := by rw [hb1.cell (p := ⟨0, 0, none⟩) (by have := World.block_lt_of_cell? w _ hgl; simpa using this)]; exact hgl
      go_wp2_with fail
      go_ret3
      exact ⟨_, _, _, _, _, _, rfl, by (repeat (first | with_reducible exact Below.refl _ _ | with_reducible assumption | with_reducible refine below_drewN ?_ _ | with_reducible refine Below.drew ?_ | with_reducible refine below_row ?_ (by first | omega | (simp; done) | (simp; omega)) _ | with_reducible refine Below.alloc ?_ (by first | omega | (simp; done) | (simp; omega)) _ | with_reducible refine Below.setCell ?_ (by first | omega | (simp; done) | (simp; omega)) _))⟩
  rw [if_neg z197] at hdb
  by_cases z198 : z = 198
  · by_cases h2 : l.length < 5
    · have d2 : decide (((n - 1 : Nat) : Int) < 4) = true := by simp; omega
      subst z198
      clear hdb hn h1 hc hz hd hv1
      go_enter Tryd.func52, Tryd.ntmps52
      go_wp2_with fail
      go_ret3
      exact ⟨_, _, _, _, _, _, rfl, by (repeat (first | with_reducible exact Below.refl _ _ | with_reducible assumption | with_reducible refine below_drewN ?_ _ | with_reducible refine Below.drew ?_ | with_reducible refine below_row ?_ (by first | omega | (simp; done) | (simp; omega)) _ | with_reducible refine Below.alloc ?_ (by first | omega | (simp; done) | (simp; omega)) _ | with_reducible refine Below.setCell ?_ (by first | omega | (simp; done) | (simp; omega)) _))⟩
    · have d2 : decide (((n - 1 : Nat) : Int) < 4) = false := by simp; omega
      rw [if_pos z198, if_neg h2] at hdb
      have hlu := hdb _ _ rfl
      have hub := beN_bds [l.getD 1 0, l.getD 2 0, l.getD 3 0, l.getD 4 0] (by intro x hx; simp only [List.mem_cons, List.not_mem_nil, or_false] at hx; rcases hx with rfl | rfl | rfl | rfl <;> exact hv.byt _ (getD_mem l _ (by omega)))
      obtain ⟨u, hu⟩ : ∃ u : Nat, beN [l.getD 1 0, l.getD 2 0, l.getD 3 0, l.getD 4 0] = (u : Int) := ⟨(beN [l.getD 1 0, l.getD 2 0, l.getD 3 0, l.getD 4 0]).toNat, by omega⟩
      rw [hu] at hlu hub
      have hlu2 : u ≤ 4294967295 := by simp at hub; omega
      simp only [Int.toNat_natCast] at hlu
      obtain ⟨r, hr⟩ := drop_cells l 1 4 (by omega)
      have hv1' := hv1
      rw [hr] at hv1'
      have hbe := fun W (h : Vw W a1 (n - 1) (c - 1) _) => be32_any a1 (n - 1) (c - 1) (l.getD 1 0) (l.getD 2 0) (l.getD 3 0) (l.getD 4 0) r W h
      rw [hu] at hbe
      obtain ⟨a2, ho2, hv2⟩ := off_of hv1 4 4 rfl (by omega)
      unfold Off at ho2
      rw [show n - 1 - 4 = n - 5 by omega, show c - 1 - 4 = c - 5 by omega] at ho2
      have d3 : decide (n - 5 < u) = true := by simp; omega
      have d3' : n - 5 < u := by omega
      subst z198
      have HB := Lib.hid hbe
      have HV := Lib.hid hv1'
      clear hbe hv1' hr
      clear hd hdb hn h1 hc hz hu hlu hub hv1 hv2
      go_enter Tryd.func52, Tryd.ntmps52
      go_wp2_with fail
      refine (HB.out _ HV.out).mono ?_
      rintro e w1 ⟨rfl, hb1⟩
      have hg1 : w1.cell? ⟨0, 0, none⟩ = some (.iface T v) := by rw [hb1.cell (p := ⟨0, 0, none⟩) (by have := World.block_lt_of_cell? w _ hgl; simpa using this)]; exact hgl
      go_wp2_with fail
      go_ret3
      exact ⟨_, _, _, _, _, _, rfl, by (repeat (first | with_reducible exact Below.refl _ _ | with_reducible assumption | with_reducible refine below_drewN ?_ _ | with_reducible refine Below.drew ?_ | with_reducible refine below_row ?_ (by first | omega | (simp; done) | (simp; omega)) _ | with_reducible refine Below.alloc ?_ (by first | omega | (simp; done) | (simp; omega)) _ | with_reducible refine Below.setCell ?_ (by first | omega | (simp; done) | (simp; omega)) _))⟩
  rw [if_neg z198] at hdb
  have e196 : (z == 196) = false := by simpa using z196
  have e197 : (z == 197) = false := by simpa using z197
  have e198 : (z == 198) = false := by simpa using z198
  clear hd hdb hn h1 hc hz z196 z197 z198 hv1
  go_enter Tryd.func52, Tryd.ntmps52
  go_wp2_with fail
  refine (badPrefix_any 2 z (by omega) (by omega) _).mono ?_
  rintro e w1 ⟨T2, v2, rfl, hb1⟩
  go_wp2_with fail
  go_ret3
  exact ⟨_, _, _, _, _, _, rfl, hb1⟩

set_option maxRecDepth 100000 in
set_option maxHeartbeats 8000000 in
theorem zc_good (a : Option Addr) (n c : Nat) (l : List Int) (k u : Nat) (hd : dBz l = some (k, u)) (w : World) (hv : Vw w a n c l) :
    ∃ a1 a2, Vw w a1 u (c - k) ((l.drop k).take u) ∧ Vw w a2 (n - (k + u)) (c - (k + u)) (l.drop (k + u)) ∧ Calls Tryd.prog 31 #[.slice a n c] w fun e w' => e = .returned (.tuple #[.slice a1 u (c - k), .slice a2 (n - (k + u)) (c - (k + u)), .nilIface]) ∧ Below w.heap.size w w' := by
  obtain ⟨a1, a2, hv1, hv2, hc⟩ := rbz_good a n c l k u hd w hv
  have HC := Lib.hid hc
  have HD := Lib.hid hd
  clear hc hd
  refine ⟨a1, a2, hv1, hv2, ?_⟩
  clear hv1 hv2
  go_enter Tryd.func31, Tryd.ntmps31
  go_wp2_with fail
  refine HC.out.mono ?_
  rintro e w1 ⟨rfl, hb1⟩
  go_wp2_with fail
  go_ret3
  exact ⟨rfl, hb1⟩
set_option maxRecDepth 100000 in
set_option maxHeartbeats 8000000 in
theorem zc_bad (a : Option Addr) (n c : Nat) (l : List Int) (hd : dBz l = none) (w : World) (hv : Vw w a n c l) (hg : Gl w) :
    Calls Tryd.prog 31 #[.slice a n c] w (BadRes3s w) := by
  have hc := rbz_bad a n c l hd w hv hg
  have HC := Lib.hid hc
  have HD := Lib.hid hd
  clear hc hd
  go_enter Tryd.func31, Tryd.ntmps31
  go_wp2_with fail
  refine HC.out.mono ?_
  rintro e w1 ⟨z, a1, n1, c1, T, v, rfl, hb1⟩
  go_wp2_with fail
  go_ret3
  exact ⟨_, _, _, _, _, _, rfl, hb1⟩
set_option maxRecDepth 100000 in
set_option maxHeartbeats 8000000 in
theorem getBinZC_good (a : Option Addr) (n c : Nat) (l : List Int) (hl : l.length ≤ 1099511627776) (k u : Nat) (hd : dBz l = some (k, u)) (w : World) (hv : Vw w a n c l) :
    Calls Tryd.prog 15 #[.slice a n c] w fun e w' => ∃ a1 c1 a2 c2, e = .returned (.tuple #[.slice a1 u c1, .slice a2 (n - (k + u)) c2, .bool true]) ∧ Vw w' a1 u c1 ((l.drop k).take u) ∧ Vw w' a2 (n - (k + u)) c2 (l.drop (k + u)) ∧ Below w.heap.size w w' := by
  have hn := hv.len
  obtain ⟨a1, a2, hv1, hv2, hc⟩ := zc_good a n c l k u hd w hv
  have hu : u ≤ 1099511627776 := by obtain ⟨_, _, _, h⟩ := dBz_cases hd; omega
  have HC := Lib.hid hc
  have HD := Lib.hid hd
  have HN := Lib.hid hn
  clear hc hd hn
  go_enter Tryd.func15, Tryd.ntmps15
  go_wp2_with fail
  refine HC.out.mono ?_
  rintro e w1 ⟨rfl, hb1⟩
  go_wp2_with fail
  refine (copied_any a1 u (c - k) _ _ (Vw.below hb1 (Nat.le_refl _) hv1) hu).mono ?_
  rintro e w2 ⟨a3, c3, rfl, ho2, hb2⟩
  have hbw2 := hb1.trans (hb2.mono hb1.size)
  go_wp2_with fail
  refine (copied_any a2 (n - (k + u)) (c - (k + u)) _ _ (Vw.below hbw2 (Nat.le_refl _) hv2) (by have := HN.out; omega)).mono ?_
  rintro e w3 ⟨a4, c4, rfl, ho3, hb3⟩
  go_wp2_with fail
  go_ret3
  exact ⟨a3, c3, a4, c4, rfl, Vw.below hb3 (Nat.le_refl _) ho2.vw, ho3.vw, hbw2.trans (hb3.mono hbw2.size)⟩
set_option maxRecDepth 100000 in
set_option maxHeartbeats 8000000 in
theorem getBinZC_bad (a : Option Addr) (n c : Nat) (l : List Int) (hd : dBz l = none) (w : World) (hv : Vw w a n c l) (hg : Gl w) :
    Calls Tryd.prog 15 #[.slice a n c] w fun e w' => e = .returned (.tuple #[.slice none 0 0, .slice none 0 0, .bool false]) ∧ Below w.heap.size w w' := by
  have hc := zc_bad a n c l hd w hv hg
  have HC := Lib.hid hc
  have HD := Lib.hid hd
  clear hc hd
  go_enter Tryd.func15, Tryd.ntmps15
  go_wp2_with fail
  refine HC.out.mono ?_
  rintro e w1 ⟨z, a1, n1, c1, T, v, rfl, hb1⟩
  go_wp2_with fail
  go_ret3
  exact ⟨rfl, hb1⟩
end Go.Proofs.YtnahohkfkkemfaaDoor
