/- msgp.ReadUint64Bytes. -/
import Derived.Test.YtbngkfdfjpbajaaDoorFixW
namespace Go.Proofs.YtbngkfdfjpbajaaDoor
open Go.RowKit
set_option linter.unusedVariables false
set_option linter.unusedSimpArgs false

def dUint (l : List Int) : Option (Int × Nat) :=
  if l.length < 1 then none
  else if l.getD 0 0 < 128 then some (l.getD 0 0, 1)
  else if l.getD 0 0 = 208 then if l.length < 2 then none else if IntKind.i8.wrap (l.getD 1 0) < 0 then none else some (IntKind.i8.wrap (l.getD 1 0), 2)
  else if l.getD 0 0 = 204 then if l.length < 2 then none else some (l.getD 1 0, 2)
  else if l.getD 0 0 = 209 then if l.length < 3 then none else if IntKind.i16.wrap (beN [l.getD 1 0, l.getD 2 0]) < 0 then none else some (IntKind.i16.wrap (beN [l.getD 1 0, l.getD 2 0]), 3)
  else if l.getD 0 0 = 205 then if l.length < 3 then none else some (beN [l.getD 1 0, l.getD 2 0], 3)
  else if l.getD 0 0 = 210 then if l.length < 5 then none else if wrap32 (beN [l.getD 1 0, l.getD 2 0, l.getD 3 0, l.getD 4 0]) < 0 then none else some (wrap32 (beN [l.getD 1 0, l.getD 2 0, l.getD 3 0, l.getD 4 0]), 5)
  else if l.getD 0 0 = 206 then if l.length < 5 then none else some (beN [l.getD 1 0, l.getD 2 0, l.getD 3 0, l.getD 4 0], 5)
  else if l.getD 0 0 = 211 then if l.length < 9 then none else if wrap64 (beN [l.getD 1 0, l.getD 2 0, l.getD 3 0, l.getD 4 0, l.getD 5 0, l.getD 6 0, l.getD 7 0, l.getD 8 0]) < 0 then none else some (wrap64 (beN [l.getD 1 0, l.getD 2 0, l.getD 3 0, l.getD 4 0, l.getD 5 0, l.getD 6 0, l.getD 7 0, l.getD 8 0]), 9)
  else if l.getD 0 0 = 207 then if l.length < 9 then none else some (beN [l.getD 1 0, l.getD 2 0, l.getD 3 0, l.getD 4 0, l.getD 5 0, l.getD 6 0, l.getD 7 0, l.getD 8 0], 9)
  else none

set_option maxRecDepth 100000 in
set_option maxHeartbeats 8000000 in
theorem ReadUint64Bytes_208 (a : Option Addr) (n c : Nat) (l : List Int) (hz : l.getD 0 0 = 208) (hl : ¬ l.length < 2) (hu : ¬ IntKind.i8.wrap (l.getD 1 0) < 0) (w : World) (hv : Vw w a n c l) :
    ∃ a', Vw w a' (n - 2) (c - 2) (l.drop 2) ∧ Calls Tryd.prog 63 #[.slice a n c] w fun e w' => e = .returned (.tuple #[.int .u64 (IntKind.i8.wrap (l.getD 1 0)), .slice a' (n - 2) (c - 2), .nilIface]) ∧ Below w.heap.size w w' := by
  have hn := hv.len
  have hcn := hv.cap
  have hcb := hv.big
  rcases hv.cells with h0 | ⟨b, off, rfl, hc⟩
  · omega
  have q0 : w.cell? ⟨b, off, none⟩ = some (.int .u8 208) := by rw [← hz]; simpa using hc 0 (by omega)
  have b0 : (0 : Int) < (n : Int) := by omega
  have d1 : decide ((n : Int) < 1) = false := by simp; omega
  obtain ⟨a1, ho1, hv1⟩ := off_of hv 1 1 rfl (by omega)
  unfold Off at ho1
  have d2 : decide (((n - 1 : Nat) : Int) < 1) = false := by simp; omega
  rcases hv1.cells with h0 | ⟨b1, off1, rfl, hc1⟩
  · omega
  have e1 : (l.drop 1).getD 0 0 = l.getD 1 0 := by simp [List.getD]
  obtain ⟨x, hx⟩ : ∃ x, x = l.getD 1 0 := ⟨_, rfl⟩
  have q1 : w.cell? ⟨b1, off1, none⟩ = some (.int .u8 x) := by rw [hx, ← e1]; simpa using hc1 0 (by omega)
  have b1' : (0 : Int) < ((n - 1 : Nat) : Int) := by omega
  have hxb := hv.byt _ (getD_mem l 1 (by omega))
  rw [← hx] at hxb ⊢
  obtain ⟨hx0, hx1⟩ := hxb
  obtain ⟨a2, ho2, hv2⟩ := off_of hv1 1 1 rfl (by omega)
  unfold Off at ho2
  rw [List.drop_drop, show n - 1 - 1 = n - 2 by omega, show c - 1 - 1 = c - 2 by omega] at hv2
  rw [show n - 1 - 1 = n - 2 by omega, show c - 1 - 1 = c - 2 by omega] at ho2
  refine ⟨a2, hv2, ?_⟩
  rw [← hx] at hu
  have du : decide (IntKind.i8.wrap x < 0) = false := by simpa using hu
  have hule : 0 ≤ IntKind.i8.wrap x := by omega
  clear hu
  obtain ⟨hwl, hwh⟩ := i8_bd x
  clear hz hl hn hc hc1 e1 hx hv1 hv2
  go_enter Tryd.func63, Tryd.ntmps63
  go_wp2_with fail
  refine (isfix_no 208 (by omega) (by omega) _).mono ?_
  rintro e w' ⟨rfl, rfl⟩
  go_wp2_with fail
  go_ret3
  exact ⟨rfl, Below.refl _ _⟩

set_option maxRecDepth 100000 in
set_option maxHeartbeats 8000000 in
theorem ReadUint64Bytes_204 (a : Option Addr) (n c : Nat) (l : List Int) (hz : l.getD 0 0 = 204) (hl : ¬ l.length < 2) (w : World) (hv : Vw w a n c l) :
    ∃ a', Vw w a' (n - 2) (c - 2) (l.drop 2) ∧ Calls Tryd.prog 63 #[.slice a n c] w fun e w' => e = .returned (.tuple #[.int .u64 (l.getD 1 0), .slice a' (n - 2) (c - 2), .nilIface]) ∧ Below w.heap.size w w' := by
  have hn := hv.len
  have hcn := hv.cap
  have hcb := hv.big
  rcases hv.cells with h0 | ⟨b, off, rfl, hc⟩
  · omega
  have q0 : w.cell? ⟨b, off, none⟩ = some (.int .u8 204) := by rw [← hz]; simpa using hc 0 (by omega)
  have b0 : (0 : Int) < (n : Int) := by omega
  have d1 : decide ((n : Int) < 1) = false := by simp; omega
  obtain ⟨a1, ho1, hv1⟩ := off_of hv 1 1 rfl (by omega)
  unfold Off at ho1
  have d2 : decide (((n - 1 : Nat) : Int) < 1) = false := by simp; omega
  rcases hv1.cells with h0 | ⟨b1, off1, rfl, hc1⟩
  · omega
  have e1 : (l.drop 1).getD 0 0 = l.getD 1 0 := by simp [List.getD]
  obtain ⟨x, hx⟩ : ∃ x, x = l.getD 1 0 := ⟨_, rfl⟩
  have q1 : w.cell? ⟨b1, off1, none⟩ = some (.int .u8 x) := by rw [hx, ← e1]; simpa using hc1 0 (by omega)
  have b1' : (0 : Int) < ((n - 1 : Nat) : Int) := by omega
  have hxb := hv.byt _ (getD_mem l 1 (by omega))
  rw [← hx] at hxb ⊢
  obtain ⟨hx0, hx1⟩ := hxb
  obtain ⟨a2, ho2, hv2⟩ := off_of hv1 1 1 rfl (by omega)
  unfold Off at ho2
  rw [List.drop_drop, show n - 1 - 1 = n - 2 by omega, show c - 1 - 1 = c - 2 by omega] at hv2
  rw [show n - 1 - 1 = n - 2 by omega, show c - 1 - 1 = c - 2 by omega] at ho2
  refine ⟨a2, hv2, ?_⟩
  clear hz hl hn hc hc1 e1 hx hv1 hv2
  go_enter Tryd.func63, Tryd.ntmps63
  go_wp2_with fail
  refine (isfix_no 204 (by omega) (by omega) _).mono ?_
  rintro e w' ⟨rfl, rfl⟩
  go_wp2_with fail
  go_ret3
  exact ⟨rfl, Below.refl _ _⟩

set_option maxRecDepth 100000 in
set_option maxHeartbeats 8000000 in
theorem ReadUint64Bytes_209 (a : Option Addr) (n c : Nat) (l : List Int) (hz : l.getD 0 0 = 209) (hl : ¬ l.length < 3) (hu : ¬ IntKind.i16.wrap (beN [l.getD 1 0, l.getD 2 0]) < 0) (w : World) (hv : Vw w a n c l) :
    ∃ a', Vw w a' (n - 3) (c - 3) (l.drop 3) ∧ Calls Tryd.prog 63 #[.slice a n c] w fun e w' => e = .returned (.tuple #[.int .u64 (IntKind.i16.wrap (beN [l.getD 1 0, l.getD 2 0])), .slice a' (n - 3) (c - 3), .nilIface]) ∧ Below w.heap.size w w' := by
  have hn := hv.len
  have hcn := hv.cap
  have hcb := hv.big
  rcases hv.cells with h0 | ⟨b, off, rfl, hc⟩
  · omega
  have q0 : w.cell? ⟨b, off, none⟩ = some (.int .u8 209) := by rw [← hz]; simpa using hc 0 (by omega)
  have b0 : (0 : Int) < (n : Int) := by omega
  have d1 : decide ((n : Int) < 1) = false := by simp; omega
  obtain ⟨a1, ho1, hv1⟩ := off_of hv 1 1 rfl (by omega)
  unfold Off at ho1
  have d2 : decide (((n - 1 : Nat) : Int) < 2) = false := by simp; omega
  rcases hv1.cells with h0 | ⟨b1, off1, rfl, hc1⟩
  · omega
  have e1 : (l.drop 1).getD 0 0 = l.getD 1 0 := by simp [List.getD]
  have e2 : (l.drop 1).getD 1 0 = l.getD 2 0 := by simp [List.getD]
  obtain ⟨x, hx⟩ : ∃ x, x = l.getD 1 0 := ⟨_, rfl⟩
  obtain ⟨y, hy⟩ : ∃ y, y = l.getD 2 0 := ⟨_, rfl⟩
  have q1 : w.cell? ⟨b1, off1, none⟩ = some (.int .u8 x) := by rw [hx, ← e1]; simpa using hc1 0 (by omega)
  have q2 : w.cell? ⟨b1, off1 + 1, none⟩ = some (.int .u8 y) := by rw [hy, ← e2]; exact hc1 1 (by omega)
  have b1' : (0 : Int) < ((n - 1 : Nat) : Int) := by omega
  have b2' : (1 : Int) < ((n - 1 : Nat) : Int) := by omega
  have hxb := hv.byt _ (getD_mem l 1 (by omega))
  have hyb := hv.byt _ (getD_mem l 2 (by omega))
  rw [← hx] at hxb
  rw [← hy] at hyb
  obtain ⟨hx0, hx1⟩ := hxb
  obtain ⟨hy0, hy1⟩ := hyb
  have hor := or16s x y hx0 hx1 hy0 hy1
  have hbe : beN [x, y] = x * 256 + y := by simp [beN]
  rw [← hx, ← hy, hbe] at hu ⊢
  obtain ⟨a2, ho2, hv2⟩ := off_of hv1 2 2 rfl (by omega)
  unfold Off at ho2
  rw [List.drop_drop, show n - 1 - 2 = n - 3 by omega, show c - 1 - 2 = c - 3 by omega] at hv2
  rw [show n - 1 - 2 = n - 3 by omega, show c - 1 - 2 = c - 3 by omega] at ho2
  refine ⟨a2, hv2, ?_⟩
  obtain ⟨hwl, hwh⟩ := i16_bd (x * 256 + y)
  obtain ⟨v, hvv⟩ : ∃ v, v = IntKind.i16.wrap (x * 256 + y) := ⟨_, rfl⟩
  rw [← hvv] at hor hu hwl hwh ⊢
  have du : decide (v < 0) = false := by simpa using hu
  have hule : 0 ≤ v := by omega
  clear hz hl hn hc hc1 e1 e2 hx hy hv1 hv2 hbe hu hvv
  go_enter Tryd.func63, Tryd.ntmps63
  go_wp2_with fail
  refine (isfix_no 209 (by omega) (by omega) _).mono ?_
  rintro e w' ⟨rfl, rfl⟩
  go_wp2_with fail
  go_quiet (fail)
  go_wp2_with fail
  go_ret3
  exact ⟨rfl, by (repeat (first | with_reducible exact Below.refl _ _ | with_reducible assumption | with_reducible refine below_drewN ?_ _ | with_reducible refine Below.drew ?_ | with_reducible refine below_row ?_ (by first | omega | (simp; done) | (simp; omega)) _ | with_reducible refine Below.alloc ?_ (by first | omega | (simp; done) | (simp; omega)) _ | with_reducible refine Below.setCell ?_ (by first | omega | (simp; done) | (simp; omega)) _))⟩

set_option maxRecDepth 100000 in
set_option maxHeartbeats 8000000 in
theorem ReadUint64Bytes_205 (a : Option Addr) (n c : Nat) (l : List Int) (hz : l.getD 0 0 = 205) (hl : ¬ l.length < 3) (w : World) (hv : Vw w a n c l) :
    ∃ a', Vw w a' (n - 3) (c - 3) (l.drop 3) ∧ Calls Tryd.prog 63 #[.slice a n c] w fun e w' => e = .returned (.tuple #[.int .u64 (beN [l.getD 1 0, l.getD 2 0]), .slice a' (n - 3) (c - 3), .nilIface]) ∧ Below w.heap.size w w' := by
  have hn := hv.len
  have hcn := hv.cap
  have hcb := hv.big
  rcases hv.cells with h0 | ⟨b, off, rfl, hc⟩
  · omega
  have q0 : w.cell? ⟨b, off, none⟩ = some (.int .u8 205) := by rw [← hz]; simpa using hc 0 (by omega)
  have b0 : (0 : Int) < (n : Int) := by omega
  have d1 : decide ((n : Int) < 1) = false := by simp; omega
  obtain ⟨a1, ho1, hv1⟩ := off_of hv 1 1 rfl (by omega)
  unfold Off at ho1
  have d2 : decide (((n - 1 : Nat) : Int) < 2) = false := by simp; omega
  obtain ⟨a2, ho2, hv2⟩ := off_of hv1 2 2 rfl (by omega)
  unfold Off at ho2
  rw [List.drop_drop, show n - 1 - 2 = n - 3 by omega, show c - 1 - 2 = c - 3 by omega] at hv2
  rw [show n - 1 - 2 = n - 3 by omega, show c - 1 - 2 = c - 3 by omega] at ho2
  refine ⟨a2, hv2, ?_⟩
  obtain ⟨r, hr⟩ := drop_cells l 1 2 (by omega)
  rw [hr] at hv1
  have hbe := fun W (h : Vw W a1 (n - 1) (c - 1) _) => be16_any a1 (n - 1) (c - 1) (l.getD 1 0) (l.getD 2 0) r W h
  obtain ⟨u, hu1⟩ : ∃ u, u = beN [l.getD 1 0, l.getD 2 0] := ⟨_, rfl⟩
  have hub : 0 ≤ u ∧ u < 65536 := by
    rw [hu1]
    have := beN_bds [l.getD 1 0, l.getD 2 0] (by intro x hx; simp only [List.mem_cons, List.not_mem_nil, or_false] at hx; rcases hx with rfl | rfl <;> exact hv.byt _ (getD_mem l _ (by omega)))
    simpa using this
  obtain ⟨hu0, hu2⟩ := hub
  rw [← hu1] at hbe ⊢
  have HB := Lib.hid hbe
  have HV := Lib.hid hv1
  clear hz hl hn hc hbe hr hu1 hv1 hv2
  go_enter Tryd.func63, Tryd.ntmps63
  go_wp2_with fail
  refine (isfix_no 205 (by omega) (by omega) _).mono ?_
  rintro e w' ⟨rfl, rfl⟩
  go_wp2_with fail
  refine (HB.out _ HV.out).mono ?_
  rintro e w1 ⟨rfl, hb1⟩
  go_wp2_with fail
  go_ret3
  exact ⟨rfl, hb1⟩

set_option maxRecDepth 100000 in
set_option maxHeartbeats 8000000 in
theorem ReadUint64Bytes_210 (a : Option Addr) (n c : Nat) (l : List Int) (hz : l.getD 0 0 = 210) (hl : ¬ l.length < 5) (hu : ¬ wrap32 (beN [l.getD 1 0, l.getD 2 0, l.getD 3 0, l.getD 4 0]) < 0) (w : World) (hv : Vw w a n c l) :
    ∃ a', Vw w a' (n - 5) (c - 5) (l.drop 5) ∧ Calls Tryd.prog 63 #[.slice a n c] w fun e w' => e = .returned (.tuple #[.int .u64 (wrap32 (beN [l.getD 1 0, l.getD 2 0, l.getD 3 0, l.getD 4 0])), .slice a' (n - 5) (c - 5), .nilIface]) ∧ Below w.heap.size w w' := by
  have hn := hv.len
  have hcn := hv.cap
  have hcb := hv.big
  rcases hv.cells with h0 | ⟨b, off, rfl, hc⟩
  · omega
  have q0 : w.cell? ⟨b, off, none⟩ = some (.int .u8 210) := by rw [← hz]; simpa using hc 0 (by omega)
  have b0 : (0 : Int) < (n : Int) := by omega
  have d1 : decide ((n : Int) < 1) = false := by simp; omega
  obtain ⟨a1, ho1, hv1⟩ := off_of hv 1 1 rfl (by omega)
  unfold Off at ho1
  have d2 : decide (((n - 1 : Nat) : Int) < 4) = false := by simp; omega
  obtain ⟨a2, ho2, hv2⟩ := off_of hv1 4 4 rfl (by omega)
  unfold Off at ho2
  rw [List.drop_drop, show n - 1 - 4 = n - 5 by omega, show c - 1 - 4 = c - 5 by omega] at hv2
  rw [show n - 1 - 4 = n - 5 by omega, show c - 1 - 4 = c - 5 by omega] at ho2
  refine ⟨a2, hv2, ?_⟩
  obtain ⟨r, hr⟩ := drop_cells l 1 4 (by omega)
  rw [hr] at hv1
  have hbe := fun W (h : Vw W a1 (n - 1) (c - 1) _) => be32_any a1 (n - 1) (c - 1) (l.getD 1 0) (l.getD 2 0) (l.getD 3 0) (l.getD 4 0) r W h
  obtain ⟨u, hu1⟩ : ∃ u, u = beN [l.getD 1 0, l.getD 2 0, l.getD 3 0, l.getD 4 0] := ⟨_, rfl⟩
  have hub : 0 ≤ u ∧ u < 4294967296 := by
    rw [hu1]
    have := beN_bds [l.getD 1 0, l.getD 2 0, l.getD 3 0, l.getD 4 0] (by intro x hx; simp only [List.mem_cons, List.not_mem_nil, or_false] at hx; rcases hx with rfl | rfl | rfl | rfl <;> exact hv.byt _ (getD_mem l _ (by omega)))
    simpa using this
  obtain ⟨hu0, hu2⟩ := hub
  rw [← hu1] at hbe ⊢
  rw [← hu1] at hu
  have du : decide (wrap32 u < 0) = false := by simpa using hu
  have hule : 0 ≤ wrap32 u := by omega
  clear hu
  obtain ⟨hwl, hwh⟩ := i32_bd u
  have HB := Lib.hid hbe
  have HV := Lib.hid hv1
  clear hz hl hn hc hbe hr hu1 hv1 hv2
  go_enter Tryd.func63, Tryd.ntmps63
  go_wp2_with fail
  refine (isfix_no 210 (by omega) (by omega) _).mono ?_
  rintro e w' ⟨rfl, rfl⟩
  go_wp2_with fail
  refine (HB.out _ HV.out).mono ?_
  rintro e w1 ⟨rfl, hb1⟩
  go_wp2_with fail
  go_ret3
  exact ⟨rfl, hb1⟩

set_option maxRecDepth 100000 in
set_option maxHeartbeats 8000000 in
theorem ReadUint64Bytes_206 (a : Option Addr) (n c : Nat) (l : List Int) (hz : l.getD 0 0 = 206) (hl : ¬ l.length < 5) (w : World) (hv : Vw w a n c l) :
    ∃ a', Vw w a' (n - 5) (c - 5) (l.drop 5) ∧ Calls Tryd.prog 63 #[.slice a n c] w fun e w' => e = .returned (.tuple #[.int .u64 (beN [l.getD 1 0, l.getD 2 0, l.getD 3 0, l.getD 4 0]), .slice a' (n - 5) (c - 5), .nilIface]) ∧ Below w.heap.size w w' := by
  have hn := hv.len
  have hcn := hv.cap
  have hcb := hv.big
  rcases hv.cells with h0 | ⟨b, off, rfl, hc⟩
  · omega
  have q0 : w.cell? ⟨b, off, none⟩ = some (.int .u8 206) := by rw [← hz]; simpa using hc 0 (by omega)
  have b0 : (0 : Int) < (n : Int) := by omega
  have d1 : decide ((n : Int) < 1) = false := by simp; omega
  obtain ⟨a1, ho1, hv1⟩ := off_of hv 1 1 rfl (by omega)
  unfold Off at ho1
  have d2 : decide (((n - 1 : Nat) : Int) < 4) = false := by simp; omega
  obtain ⟨a2, ho2, hv2⟩ := off_of hv1 4 4 rfl (by omega)
  unfold Off at ho2
  rw [List.drop_drop, show n - 1 - 4 = n - 5 by omega, show c - 1 - 4 = c - 5 by omega] at hv2
  rw [show n - 1 - 4 = n - 5 by omega, show c - 1 - 4 = c - 5 by omega] at ho2
  refine ⟨a2, hv2, ?_⟩
  obtain ⟨r, hr⟩ := drop_cells l 1 4 (by omega)
  rw [hr] at hv1
  have hbe := fun W (h : Vw W a1 (n - 1) (c - 1) _) => be32_any a1 (n - 1) (c - 1) (l.getD 1 0) (l.getD 2 0) (l.getD 3 0) (l.getD 4 0) r W h
  obtain ⟨u, hu1⟩ : ∃ u, u = beN [l.getD 1 0, l.getD 2 0, l.getD 3 0, l.getD 4 0] := ⟨_, rfl⟩
  have hub : 0 ≤ u ∧ u < 4294967296 := by
    rw [hu1]
    have := beN_bds [l.getD 1 0, l.getD 2 0, l.getD 3 0, l.getD 4 0] (by intro x hx; simp only [List.mem_cons, List.not_mem_nil, or_false] at hx; rcases hx with rfl | rfl | rfl | rfl <;> exact hv.byt _ (getD_mem l _ (by omega)))
    simpa using this
  obtain ⟨hu0, hu2⟩ := hub
  rw [← hu1] at hbe ⊢
  have HB := Lib.hid hbe
  have HV := Lib.hid hv1
  clear hz hl hn hc hbe hr hu1 hv1 hv2
  go_enter Tryd.func63, Tryd.ntmps63
  go_wp2_with fail
  refine (isfix_no 206 (by omega) (by omega) _).mono ?_
  rintro e w' ⟨rfl, rfl⟩
  go_wp2_with fail
  refine (HB.out _ HV.out).mono ?_
  rintro e w1 ⟨rfl, hb1⟩
  go_wp2_with fail
  go_ret3
  exact ⟨rfl, hb1⟩

set_option maxRecDepth 100000 in
set_option maxHeartbeats 8000000 in
theorem ReadUint64Bytes_211 (a : Option Addr) (n c : Nat) (l : List Int) (hz : l.getD 0 0 = 211) (hl : ¬ l.length < 9) (hu : ¬ wrap64 (beN [l.getD 1 0, l.getD 2 0, l.getD 3 0, l.getD 4 0, l.getD 5 0, l.getD 6 0, l.getD 7 0, l.getD 8 0]) < 0) (w : World) (hv : Vw w a n c l) :
    ∃ a', Vw w a' (n - 9) (c - 9) (l.drop 9) ∧ Calls Tryd.prog 63 #[.slice a n c] w fun e w' => e = .returned (.tuple #[.int .u64 (wrap64 (beN [l.getD 1 0, l.getD 2 0, l.getD 3 0, l.getD 4 0, l.getD 5 0, l.getD 6 0, l.getD 7 0, l.getD 8 0])), .slice a' (n - 9) (c - 9), .nilIface]) ∧ Below w.heap.size w w' := by
  have hn := hv.len
  have hcn := hv.cap
  have hcb := hv.big
  rcases hv.cells with h0 | ⟨b, off, rfl, hc⟩
  · omega
  have q0 : w.cell? ⟨b, off, none⟩ = some (.int .u8 211) := by rw [← hz]; simpa using hc 0 (by omega)
  have b0 : (0 : Int) < (n : Int) := by omega
  have d1 : decide ((n : Int) < 1) = false := by simp; omega
  obtain ⟨a1, ho1, hv1⟩ := off_of hv 1 1 rfl (by omega)
  unfold Off at ho1
  have d2 : decide (((n - 1 : Nat) : Int) < 8) = false := by simp; omega
  obtain ⟨a2, ho2, hv2⟩ := off_of hv1 8 8 rfl (by omega)
  unfold Off at ho2
  rw [List.drop_drop, show n - 1 - 8 = n - 9 by omega, show c - 1 - 8 = c - 9 by omega] at hv2
  rw [show n - 1 - 8 = n - 9 by omega, show c - 1 - 8 = c - 9 by omega] at ho2
  refine ⟨a2, hv2, ?_⟩
  obtain ⟨r, hr⟩ := drop_cells l 1 8 (by omega)
  rw [hr] at hv1
  have hbe := fun W (h : Vw W a1 (n - 1) (c - 1) _) => be64_any a1 (n - 1) (c - 1) (l.getD 1 0) (l.getD 2 0) (l.getD 3 0) (l.getD 4 0) (l.getD 5 0) (l.getD 6 0) (l.getD 7 0) (l.getD 8 0) r W h
  obtain ⟨u, hu1⟩ : ∃ u, u = beN [l.getD 1 0, l.getD 2 0, l.getD 3 0, l.getD 4 0, l.getD 5 0, l.getD 6 0, l.getD 7 0, l.getD 8 0] := ⟨_, rfl⟩
  have hub : 0 ≤ u ∧ u < 18446744073709551616 := by
    rw [hu1]
    have := beN_bds [l.getD 1 0, l.getD 2 0, l.getD 3 0, l.getD 4 0, l.getD 5 0, l.getD 6 0, l.getD 7 0, l.getD 8 0] (by intro x hx; simp only [List.mem_cons, List.not_mem_nil, or_false] at hx; rcases hx with rfl | rfl | rfl | rfl | rfl | rfl | rfl | rfl <;> exact hv.byt _ (getD_mem l _ (by omega)))
    simpa using this
  obtain ⟨hu0, hu2⟩ := hub
  rw [← hu1] at hbe ⊢
  rw [← hu1] at hu
  have du : decide (wrap64 u < 0) = false := by simpa using hu
  have hule : 0 ≤ wrap64 u := by omega
  clear hu
  obtain ⟨hwl, hwh⟩ := i64_bd u
  have HB := Lib.hid hbe
  have HV := Lib.hid hv1
  clear hz hl hn hc hbe hr hu1 hv1 hv2
  go_enter Tryd.func63, Tryd.ntmps63
  go_wp2_with fail
  refine (isfix_no 211 (by omega) (by omega) _).mono ?_
  rintro e w' ⟨rfl, rfl⟩
  go_wp2_with fail
  refine (HB.out _ HV.out).mono ?_
  rintro e w1 ⟨rfl, hb1⟩
  go_wp2_with fail
  go_ret3
  exact ⟨rfl, hb1⟩

set_option maxRecDepth 100000 in
set_option maxHeartbeats 8000000 in
theorem ReadUint64Bytes_207 (a : Option Addr) (n c : Nat) (l : List Int) (hz : l.getD 0 0 = 207) (hl : ¬ l.length < 9) (w : World) (hv : Vw w a n c l) :
    ∃ a', Vw w a' (n - 9) (c - 9) (l.drop 9) ∧ Calls Tryd.prog 63 #[.slice a n c] w fun e w' => e = .returned (.tuple #[.int .u64 (beN [l.getD 1 0, l.getD 2 0, l.getD 3 0, l.getD 4 0, l.getD 5 0, l.getD 6 0, l.getD 7 0, l.getD 8 0]), .slice a' (n - 9) (c - 9), .nilIface]) ∧ Below w.heap.size w w' := by
  have hn := hv.len
  have hcn := hv.cap
  have hcb := hv.big
  rcases hv.cells with h0 | ⟨b, off, rfl, hc⟩
  · omega
  have q0 : w.cell? ⟨b, off, none⟩ = some (.int .u8 207) := by rw [← hz]; simpa using hc 0 (by omega)
  have b0 : (0 : Int) < (n : Int) := by omega
  have d1 : decide ((n : Int) < 1) = false := by simp; omega
  obtain ⟨a1, ho1, hv1⟩ := off_of hv 1 1 rfl (by omega)
  unfold Off at ho1
  have d2 : decide (((n - 1 : Nat) : Int) < 8) = false := by simp; omega
  obtain ⟨a2, ho2, hv2⟩ := off_of hv1 8 8 rfl (by omega)
  unfold Off at ho2
  rw [List.drop_drop, show n - 1 - 8 = n - 9 by omega, show c - 1 - 8 = c - 9 by omega] at hv2
  rw [show n - 1 - 8 = n - 9 by omega, show c - 1 - 8 = c - 9 by omega] at ho2
  refine ⟨a2, hv2, ?_⟩
  obtain ⟨r, hr⟩ := drop_cells l 1 8 (by omega)
  rw [hr] at hv1
  have hbe := fun W (h : Vw W a1 (n - 1) (c - 1) _) => be64_any a1 (n - 1) (c - 1) (l.getD 1 0) (l.getD 2 0) (l.getD 3 0) (l.getD 4 0) (l.getD 5 0) (l.getD 6 0) (l.getD 7 0) (l.getD 8 0) r W h
  obtain ⟨u, hu1⟩ : ∃ u, u = beN [l.getD 1 0, l.getD 2 0, l.getD 3 0, l.getD 4 0, l.getD 5 0, l.getD 6 0, l.getD 7 0, l.getD 8 0] := ⟨_, rfl⟩
  have hub : 0 ≤ u ∧ u < 18446744073709551616 := by
    rw [hu1]
    have := beN_bds [l.getD 1 0, l.getD 2 0, l.getD 3 0, l.getD 4 0, l.getD 5 0, l.getD 6 0, l.getD 7 0, l.getD 8 0] (by intro x hx; simp only [List.mem_cons, List.not_mem_nil, or_false] at hx; rcases hx with rfl | rfl | rfl | rfl | rfl | rfl | rfl | rfl <;> exact hv.byt _ (getD_mem l _ (by omega)))
    simpa using this
  obtain ⟨hu0, hu2⟩ := hub
  rw [← hu1] at hbe ⊢
  have HB := Lib.hid hbe
  have HV := Lib.hid hv1
  clear hz hl hn hc hbe hr hu1 hv1 hv2
  go_enter Tryd.func63, Tryd.ntmps63
  go_wp2_with fail
  refine (isfix_no 207 (by omega) (by omega) _).mono ?_
  rintro e w' ⟨rfl, rfl⟩
  go_wp2_with fail
  refine (HB.out _ HV.out).mono ?_
  rintro e w1 ⟨rfl, hb1⟩
  go_wp2_with fail
  go_ret3
  exact ⟨rfl, hb1⟩

set_option maxRecDepth 100000 in
set_option maxHeartbeats 8000000 in
theorem ReadUint64Bytes_fix (a : Option Addr) (n c : Nat) (l : List Int) (hz : l.getD 0 0 < 128) (hl : ¬ l.length < 1) (w : World) (hv : Vw w a n c l) :
    ∃ a', Vw w a' (n - 1) (c - 1) (l.drop 1) ∧ Calls Tryd.prog 63 #[.slice a n c] w fun e w' => e = .returned (.tuple #[.int .u64 (l.getD 0 0), .slice a' (n - 1) (c - 1), .nilIface]) ∧ Below w.heap.size w w' := by
  have hn := hv.len
  have hcn := hv.cap
  have hcb := hv.big
  rcases hv.cells with h0 | ⟨b, off, rfl, hc⟩
  · omega
  obtain ⟨z, hz'⟩ : ∃ z, z = l.getD 0 0 := ⟨_, rfl⟩
  have q0 : w.cell? ⟨b, off, none⟩ = some (.int .u8 z) := by rw [hz']; simpa using hc 0 (by omega)
  have hzb := hv.byt _ (getD_mem l 0 (by omega))
  rw [← hz'] at hz hzb ⊢
  obtain ⟨hz0, hz1⟩ := hzb
  have b0 : (0 : Int) < (n : Int) := by omega
  have d1 : decide ((n : Int) < 1) = false := by simp; omega
  obtain ⟨a1, ho1, hv1⟩ := off_of hv 1 1 rfl (by omega)
  unfold Off at ho1
  refine ⟨a1, hv1, ?_⟩
  clear hz' hl hn hc hv1
  go_enter Tryd.func63, Tryd.ntmps63
  go_wp2_with fail
  refine (isfix_yes z hz0 hz _).mono ?_
  rintro e w' ⟨rfl, rfl⟩
  go_wp2_with fail
  refine (rfix_any z hz0 hz _).mono ?_
  rintro e w' ⟨rfl, rfl⟩
  go_wp2_with fail
  go_ret3
  exact ⟨rfl, Below.refl _ _⟩

set_option maxRecDepth 100000 in
set_option maxHeartbeats 8000000 in
theorem ru_good (a : Option Addr) (n c : Nat) (l : List Int) (u : Int) (k : Nat) (hd : dUint l = some (u, k)) (w : World) (hv : Vw w a n c l) :
    ∃ a', Vw w a' (n - k) (c - k) (l.drop k) ∧ Calls Tryd.prog 63 #[.slice a n c] w fun e w' => e = .returned (.tuple #[.int .u64 u, .slice a' (n - k) (c - k), .nilIface]) ∧ Below w.heap.size w w' := by
  unfold dUint at hd
  by_cases h1 : l.length < 1
  · rw [if_pos h1] at hd; cases hd
  rw [if_neg h1] at hd
  by_cases z0 : l.getD 0 0 < 128
  · rw [if_pos z0] at hd
    injection hd with hd; injection hd with x y; subst x; subst y
    exact ReadUint64Bytes_fix a n c l z0 h1 w hv
  rw [if_neg z0] at hd
  by_cases z208 : l.getD 0 0 = 208
  · rw [if_pos z208] at hd
    by_cases h2 : l.length < 2
    · rw [if_pos h2] at hd; cases hd
    rw [if_neg h2] at hd
    by_cases h3 : IntKind.i8.wrap (l.getD 1 0) < 0
    · rw [if_pos h3] at hd; cases hd
    rw [if_neg h3] at hd
    injection hd with hd; injection hd with x y; subst x; subst y
    exact ReadUint64Bytes_208 a n c l z208 h2 h3 w hv
  rw [if_neg z208] at hd
  by_cases z204 : l.getD 0 0 = 204
  · rw [if_pos z204] at hd
    by_cases h2 : l.length < 2
    · rw [if_pos h2] at hd; cases hd
    rw [if_neg h2] at hd
    injection hd with hd; injection hd with x y; subst x; subst y
    exact ReadUint64Bytes_204 a n c l z204 h2 w hv
  rw [if_neg z204] at hd
  by_cases z209 : l.getD 0 0 = 209
  · rw [if_pos z209] at hd
    by_cases h2 : l.length < 3
    · rw [if_pos h2] at hd; cases hd
    rw [if_neg h2] at hd
    by_cases h3 : IntKind.i16.wrap (beN [l.getD 1 0, l.getD 2 0]) < 0
    · rw [if_pos h3] at hd; cases hd
    rw [if_neg h3] at hd
    injection hd with hd; injection hd with x y; subst x; subst y
    exact ReadUint64Bytes_209 a n c l z209 h2 h3 w hv
  rw [if_neg z209] at hd
  by_cases z205 : l.getD 0 0 = 205
  · rw [if_pos z205] at hd
    by_cases h2 : l.length < 3
    · rw [if_pos h2] at hd; cases hd
    rw [if_neg h2] at hd
    injection hd with hd; injection hd with x y; subst x; subst y
    exact ReadUint64Bytes_205 a n c l z205 h2 w hv
  rw [if_neg z205] at hd
  by_cases z210 : l.getD 0 0 = 210
  · rw [if_pos z210] at hd
    by_cases h2 : l.length < 5
    · rw [if_pos h2] at hd; cases hd
    rw [if_neg h2] at hd
    by_cases h3 : wrap32 (beN [l.getD 1 0, l.getD 2 0, l.getD 3 0, l.getD 4 0]) < 0
    · rw [if_pos h3] at hd; cases hd
    rw [if_neg h3] at hd
    injection hd with hd; injection hd with x y; subst x; subst y
    exact ReadUint64Bytes_210 a n c l z210 h2 h3 w hv
  rw [if_neg z210] at hd
  by_cases z206 : l.getD 0 0 = 206
  · rw [if_pos z206] at hd
    by_cases h2 : l.length < 5
    · rw [if_pos h2] at hd; cases hd
    rw [if_neg h2] at hd
    injection hd with hd; injection hd with x y; subst x; subst y
    exact ReadUint64Bytes_206 a n c l z206 h2 w hv
  rw [if_neg z206] at hd
  by_cases z211 : l.getD 0 0 = 211
  · rw [if_pos z211] at hd
    by_cases h2 : l.length < 9
    · rw [if_pos h2] at hd; cases hd
    rw [if_neg h2] at hd
    by_cases h3 : wrap64 (beN [l.getD 1 0, l.getD 2 0, l.getD 3 0, l.getD 4 0, l.getD 5 0, l.getD 6 0, l.getD 7 0, l.getD 8 0]) < 0
    · rw [if_pos h3] at hd; cases hd
    rw [if_neg h3] at hd
    injection hd with hd; injection hd with x y; subst x; subst y
    exact ReadUint64Bytes_211 a n c l z211 h2 h3 w hv
  rw [if_neg z211] at hd
  by_cases z207 : l.getD 0 0 = 207
  · rw [if_pos z207] at hd
    by_cases h2 : l.length < 9
    · rw [if_pos h2] at hd; cases hd
    rw [if_neg h2] at hd
    injection hd with hd; injection hd with x y; subst x; subst y
    exact ReadUint64Bytes_207 a n c l z207 h2 w hv
  rw [if_neg z207] at hd
  cases hd

set_option maxRecDepth 100000 in
set_option maxHeartbeats 8000000 in
theorem ru_bad (a : Option Addr) (n c : Nat) (l : List Int) (hd : dUint l = none) (w : World) (hv : Vw w a n c l) (hg : Gl w) :
    Calls Tryd.prog 63 #[.slice a n c] w (BadRes3 .u64 w) := by
  obtain ⟨T, v, hgl⟩ := hg
  have hn := hv.len
  have hcn := hv.cap
  have hcb := hv.big
  unfold dUint at hd
  by_cases h1 : l.length < 1
  · have d1 : decide ((n : Int) < 1) = true := by simp; omega
    clear hd hn h1
    go_enter Tryd.func63, Tryd.ntmps63
    go_wp2_with fail
    go_quiet (fail)
    go_wp2_with fail
    go_ret3
    exact ⟨_, _, _, _, _, _, rfl, by (repeat (first | with_reducible exact Below.refl _ _ | with_reducible assumption | with_reducible refine below_drewN ?_ _ | with_reducible refine Below.drew ?_ | with_reducible refine below_row ?_ (by first | omega | (simp; done) | (simp; omega)) _ | with_reducible refine Below.alloc ?_ (by first | omega | (simp; done) | (simp; omega)) _ | with_reducible refine Below.setCell ?_ (by first | omega | (simp; done) | (simp; omega)) _))⟩
  rw [if_neg h1] at hd
  rcases hv.cells with h0 | ⟨b, off, rfl, hc⟩
  · omega
  obtain ⟨z, hz⟩ : ∃ z, z = l.getD 0 0 := ⟨_, rfl⟩
  have q0 : w.cell? ⟨b, off, none⟩ = some (.int .u8 z) := by rw [hz]; simpa using hc 0 (by omega)
  have hzb := hv.byt _ (getD_mem l 0 (by omega))
  rw [← hz] at hd hzb
  obtain ⟨hz0, hz1⟩ := hzb
  have b0 : (0 : Int) < (n : Int) := by omega
  have d1 : decide ((n : Int) < 1) = false := by simp; omega
  obtain ⟨a1, ho1, hv1⟩ := off_of hv 1 1 rfl (by omega)
  unfold Off at ho1
  by_cases z0 : z < 128
  · rw [if_pos z0] at hd; cases hd
  rw [if_neg z0] at hd
  by_cases z208 : z = 208
  · rw [if_pos z208] at hd
    by_cases h2 : l.length < 2
    · have d2 : decide (((n - 1 : Nat) : Int) < 1) = true := by simp; omega
      subst z208
      clear hd hn h1 hc hz
      go_enter Tryd.func63, Tryd.ntmps63
      go_wp2_with fail
      refine (isfix_no 208 (by omega) (by omega) _).mono ?_
      rintro e w' ⟨rfl, rfl⟩
      go_wp2_with fail
      go_ret3
      exact ⟨_, _, _, _, _, _, rfl, by (repeat (first | with_reducible exact Below.refl _ _ | with_reducible assumption | with_reducible refine below_drewN ?_ _ | with_reducible refine Below.drew ?_ | with_reducible refine below_row ?_ (by first | omega | (simp; done) | (simp; omega)) _ | with_reducible refine Below.alloc ?_ (by first | omega | (simp; done) | (simp; omega)) _ | with_reducible refine Below.setCell ?_ (by first | omega | (simp; done) | (simp; omega)) _))⟩
    · rw [if_neg h2] at hd
      have d2 : decide (((n - 1 : Nat) : Int) < 1) = false := by simp; omega
      have hbad : IntKind.i8.wrap (l.getD 1 0) < 0 := by
        by_cases h3 : IntKind.i8.wrap (l.getD 1 0) < 0
        · exact h3
        · rw [if_neg h3] at hd; cases hd
      rcases hv1.cells with h0 | ⟨b1, off1, rfl, hc1⟩
      · omega
      have e1 : (l.drop 1).getD 0 0 = l.getD 1 0 := by simp [List.getD]
      obtain ⟨x, hx⟩ : ∃ x, x = l.getD 1 0 := ⟨_, rfl⟩
      have q1 : w.cell? ⟨b1, off1, none⟩ = some (.int .u8 x) := by rw [hx, ← e1]; simpa using hc1 0 (by omega)
      have b1' : (0 : Int) < ((n - 1 : Nat) : Int) := by omega
      rw [← hx] at hbad
      obtain ⟨hwl, hwh⟩ := i8_bd x
      have db : decide (IntKind.i8.wrap x < 0) = true := by simpa using hbad
      subst z208
      clear hd hn h1 hc hz hc1 e1 hx hbad
      go_enter Tryd.func63, Tryd.ntmps63
      go_wp2_with fail
      refine (isfix_no 208 (by omega) (by omega) _).mono ?_
      rintro e w' ⟨rfl, rfl⟩
      go_wp2_with fail
      go_ret3
      exact ⟨_, _, _, _, _, _, rfl, by (repeat (first | with_reducible exact Below.refl _ _ | with_reducible assumption | with_reducible refine below_drewN ?_ _ | with_reducible refine Below.drew ?_ | with_reducible refine below_row ?_ (by first | omega | (simp; done) | (simp; omega)) _ | with_reducible refine Below.alloc ?_ (by first | omega | (simp; done) | (simp; omega)) _ | with_reducible refine Below.setCell ?_ (by first | omega | (simp; done) | (simp; omega)) _))⟩
  rw [if_neg z208] at hd
  by_cases z204 : z = 204
  · rw [if_pos z204] at hd
    have d2 : decide (((n - 1 : Nat) : Int) < 1) = true := by
      by_cases h2 : l.length < 2
      · simp; omega
      · rw [if_neg h2] at hd; cases hd
    subst z204
    clear hd hn h1 hc hz
    go_enter Tryd.func63, Tryd.ntmps63
    go_wp2_with fail
    refine (isfix_no 204 (by omega) (by omega) _).mono ?_
    rintro e w' ⟨rfl, rfl⟩
    go_wp2_with fail
    go_ret3
    exact ⟨_, _, _, _, _, _, rfl, by (repeat (first | with_reducible exact Below.refl _ _ | with_reducible assumption | with_reducible refine below_drewN ?_ _ | with_reducible refine Below.drew ?_ | with_reducible refine below_row ?_ (by first | omega | (simp; done) | (simp; omega)) _ | with_reducible refine Below.alloc ?_ (by first | omega | (simp; done) | (simp; omega)) _ | with_reducible refine Below.setCell ?_ (by first | omega | (simp; done) | (simp; omega)) _))⟩
  rw [if_neg z204] at hd
  by_cases z209 : z = 209
  · rw [if_pos z209] at hd
    by_cases h2 : l.length < 3
    · have d2 : decide (((n - 1 : Nat) : Int) < 2) = true := by simp; omega
      subst z209
      clear hd hn h1 hc hz
      go_enter Tryd.func63, Tryd.ntmps63
      go_wp2_with fail
      refine (isfix_no 209 (by omega) (by omega) _).mono ?_
      rintro e w' ⟨rfl, rfl⟩
      go_wp2_with fail
      go_ret3
      exact ⟨_, _, _, _, _, _, rfl, by (repeat (first | with_reducible exact Below.refl _ _ | with_reducible assumption | with_reducible refine below_drewN ?_ _ | with_reducible refine Below.drew ?_ | with_reducible refine below_row ?_ (by first | omega | (simp; done) | (simp; omega)) _ | with_reducible refine Below.alloc ?_ (by first | omega | (simp; done) | (simp; omega)) _ | with_reducible refine Below.setCell ?_ (by first | omega | (simp; done) | (simp; omega)) _))⟩
    · rw [if_neg h2] at hd
      have d2 : decide (((n - 1 : Nat) : Int) < 2) = false := by simp; omega
      have hbad : IntKind.i16.wrap (beN [l.getD 1 0, l.getD 2 0]) < 0 := by
        by_cases h3 : IntKind.i16.wrap (beN [l.getD 1 0, l.getD 2 0]) < 0
        · exact h3
        · rw [if_neg h3] at hd; cases hd
      rcases hv1.cells with h0 | ⟨b1, off1, rfl, hc1⟩
      · omega
      have e1 : (l.drop 1).getD 0 0 = l.getD 1 0 := by simp [List.getD]
      have e2 : (l.drop 1).getD 1 0 = l.getD 2 0 := by simp [List.getD]
      obtain ⟨x, hx⟩ : ∃ x, x = l.getD 1 0 := ⟨_, rfl⟩
      obtain ⟨y, hy⟩ : ∃ y, y = l.getD 2 0 := ⟨_, rfl⟩
      have q1 : w.cell? ⟨b1, off1, none⟩ = some (.int .u8 x) := by rw [hx, ← e1]; simpa using hc1 0 (by omega)
      have q2 : w.cell? ⟨b1, off1 + 1, none⟩ = some (.int .u8 y) := by rw [hy, ← e2]; exact hc1 1 (by omega)
      have b1' : (0 : Int) < ((n - 1 : Nat) : Int) := by omega
      have b2' : (1 : Int) < ((n - 1 : Nat) : Int) := by omega
      have hxb := hv.byt _ (getD_mem l 1 (by omega))
      have hyb := hv.byt _ (getD_mem l 2 (by omega))
      rw [← hx] at hxb
      rw [← hy] at hyb
      obtain ⟨hx0, hx1⟩ := hxb
      obtain ⟨hy0, hy1⟩ := hyb
      have hor := or16s x y hx0 hx1 hy0 hy1
      have hbe : beN [x, y] = x * 256 + y := by simp [beN]
      rw [← hx, ← hy, hbe] at hbad
      obtain ⟨hwl, hwh⟩ := i16_bd (x * 256 + y)
      obtain ⟨v, hvv⟩ : ∃ v, v = IntKind.i16.wrap (x * 256 + y) := ⟨_, rfl⟩
      rw [← hvv] at hor hbad hwl hwh
      have db : decide (v < 0) = true := by simpa using hbad
      subst z209
      clear hd hn h1 hc hz hc1 e1 e2 hx hy hbe hbad hvv
      go_enter Tryd.func63, Tryd.ntmps63
      go_wp2_with fail
      refine (isfix_no 209 (by omega) (by omega) _).mono ?_
      rintro e w' ⟨rfl, rfl⟩
      go_wp2_with fail
      go_quiet (fail)
      go_wp2_with fail
      go_ret3
      exact ⟨_, _, _, _, _, _, rfl, by (repeat (first | with_reducible exact Below.refl _ _ | with_reducible assumption | with_reducible refine below_drewN ?_ _ | with_reducible refine Below.drew ?_ | with_reducible refine below_row ?_ (by first | omega | (simp; done) | (simp; omega)) _ | with_reducible refine Below.alloc ?_ (by first | omega | (simp; done) | (simp; omega)) _ | with_reducible refine Below.setCell ?_ (by first | omega | (simp; done) | (simp; omega)) _))⟩
  rw [if_neg z209] at hd
  by_cases z205 : z = 205
  · rw [if_pos z205] at hd
    have d2 : decide (((n - 1 : Nat) : Int) < 2) = true := by
      by_cases h2 : l.length < 3
      · simp; omega
      · rw [if_neg h2] at hd; cases hd
    subst z205
    clear hd hn h1 hc hz
    go_enter Tryd.func63, Tryd.ntmps63
    go_wp2_with fail
    refine (isfix_no 205 (by omega) (by omega) _).mono ?_
    rintro e w' ⟨rfl, rfl⟩
    go_wp2_with fail
    go_ret3
    exact ⟨_, _, _, _, _, _, rfl, by (repeat (first | with_reducible exact Below.refl _ _ | with_reducible assumption | with_reducible refine below_drewN ?_ _ | with_reducible refine Below.drew ?_ | with_reducible refine below_row ?_ (by first | omega | (simp; done) | (simp; omega)) _ | with_reducible refine Below.alloc ?_ (by first | omega | (simp; done) | (simp; omega)) _ | with_reducible refine Below.setCell ?_ (by first | omega | (simp; done) | (simp; omega)) _))⟩
  rw [if_neg z205] at hd
  by_cases z210 : z = 210
  · rw [if_pos z210] at hd
    by_cases h2 : l.length < 5
    · have d2 : decide (((n - 1 : Nat) : Int) < 4) = true := by simp; omega
      subst z210
      clear hd hn h1 hc hz
      go_enter Tryd.func63, Tryd.ntmps63
      go_wp2_with fail
      refine (isfix_no 210 (by omega) (by omega) _).mono ?_
      rintro e w' ⟨rfl, rfl⟩
      go_wp2_with fail
      go_ret3
      exact ⟨_, _, _, _, _, _, rfl, by (repeat (first | with_reducible exact Below.refl _ _ | with_reducible assumption | with_reducible refine below_drewN ?_ _ | with_reducible refine Below.drew ?_ | with_reducible refine below_row ?_ (by first | omega | (simp; done) | (simp; omega)) _ | with_reducible refine Below.alloc ?_ (by first | omega | (simp; done) | (simp; omega)) _ | with_reducible refine Below.setCell ?_ (by first | omega | (simp; done) | (simp; omega)) _))⟩
    · rw [if_neg h2] at hd
      have d2 : decide (((n - 1 : Nat) : Int) < 4) = false := by simp; omega
      have hbad : wrap32 (beN [l.getD 1 0, l.getD 2 0, l.getD 3 0, l.getD 4 0]) < 0 := by
        by_cases h3 : wrap32 (beN [l.getD 1 0, l.getD 2 0, l.getD 3 0, l.getD 4 0]) < 0
        · exact h3
        · rw [if_neg h3] at hd; cases hd
      obtain ⟨r, hr⟩ := drop_cells l 1 4 (by omega)
      rw [hr] at hv1
      have hbe := fun W (h : Vw W a1 (n - 1) (c - 1) _) => be32_any a1 (n - 1) (c - 1) (l.getD 1 0) (l.getD 2 0) (l.getD 3 0) (l.getD 4 0) r W h
      obtain ⟨u, hu1⟩ : ∃ u, u = beN [l.getD 1 0, l.getD 2 0, l.getD 3 0, l.getD 4 0] := ⟨_, rfl⟩
      rw [← hu1] at hbe hbad
      obtain ⟨hwl, hwh⟩ := i32_bd u
      have db : decide (wrap32 u < 0) = true := by simpa using hbad
      have HB := Lib.hid hbe
      have HV := Lib.hid hv1
      subst z210
      clear hd hn h1 hc hz hbe hr hu1 hv1 hbad
      go_enter Tryd.func63, Tryd.ntmps63
      go_wp2_with fail
      refine (isfix_no 210 (by omega) (by omega) _).mono ?_
      rintro e w' ⟨rfl, rfl⟩
      go_wp2_with fail
      refine (HB.out _ HV.out).mono ?_
      rintro e w1 ⟨rfl, hb1⟩
      go_wp2_with fail
      go_ret3
      exact ⟨_, _, _, _, _, _, rfl, by (repeat (first | with_reducible exact Below.refl _ _ | with_reducible assumption | with_reducible refine below_drewN ?_ _ | with_reducible refine Below.drew ?_ | with_reducible refine below_row ?_ (by first | omega | (simp; done) | (simp; omega)) _ | with_reducible refine Below.alloc ?_ (by first | omega | (simp; done) | (simp; omega)) _ | with_reducible refine Below.setCell ?_ (by first | omega | (simp; done) | (simp; omega)) _))⟩
  rw [if_neg z210] at hd
  by_cases z206 : z = 206
  · rw [if_pos z206] at hd
    have d2 : decide (((n - 1 : Nat) : Int) < 4) = true := by
      by_cases h2 : l.length < 5
      · simp; omega
      · rw [if_neg h2] at hd; cases hd
    subst z206
    clear hd hn h1 hc hz
    go_enter Tryd.func63, Tryd.ntmps63
    go_wp2_with fail
    refine (isfix_no 206 (by omega) (by omega) _).mono ?_
    rintro e w' ⟨rfl, rfl⟩
    go_wp2_with fail
    go_ret3
    exact ⟨_, _, _, _, _, _, rfl, by (repeat (first | with_reducible exact Below.refl _ _ | with_reducible assumption | with_reducible refine below_drewN ?_ _ | with_reducible refine Below.drew ?_ | with_reducible refine below_row ?_ (by first | omega | (simp; done) | (simp; omega)) _ | with_reducible refine Below.alloc ?_ (by first | omega | (simp; done) | (simp; omega)) _ | with_reducible refine Below.setCell ?_ (by first | omega | (simp; done) | (simp; omega)) _))⟩
  rw [if_neg z206] at hd
  by_cases z211 : z = 211
  · rw [if_pos z211] at hd
    by_cases h2 : l.length < 9
    · have d2 : decide (((n - 1 : Nat) : Int) < 8) = true := by simp; omega
      subst z211
      clear hd hn h1 hc hz
      go_enter Tryd.func63, Tryd.ntmps63
      go_wp2_with fail
      refine (isfix_no 211 (by omega) (by omega) _).mono ?_
      rintro e w' ⟨rfl, rfl⟩
      go_wp2_with fail
      go_ret3
      exact ⟨_, _, _, _, _, _, rfl, by (repeat (first | with_reducible exact Below.refl _ _ | with_reducible assumption | with_reducible refine below_drewN ?_ _ | with_reducible refine Below.drew ?_ | with_reducible refine below_row ?_ (by first | omega | (simp; done) | (simp; omega)) _ | with_reducible refine Below.alloc ?_ (by first | omega | (simp; done) | (simp; omega)) _ | with_reducible refine Below.setCell ?_ (by first | omega | (simp; done) | (simp; omega)) _))⟩
    · rw [if_neg h2] at hd
      have d2 : decide (((n - 1 : Nat) : Int) < 8) = false := by simp; omega
      have hbad : wrap64 (beN [l.getD 1 0, l.getD 2 0, l.getD 3 0, l.getD 4 0, l.getD 5 0, l.getD 6 0, l.getD 7 0, l.getD 8 0]) < 0 := by
        by_cases h3 : wrap64 (beN [l.getD 1 0, l.getD 2 0, l.getD 3 0, l.getD 4 0, l.getD 5 0, l.getD 6 0, l.getD 7 0, l.getD 8 0]) < 0
        · exact h3
        · rw [if_neg h3] at hd; cases hd
      obtain ⟨r, hr⟩ := drop_cells l 1 8 (by omega)
      rw [hr] at hv1
      have hbe := fun W (h : Vw W a1 (n - 1) (c - 1) _) => be64_any a1 (n - 1) (c - 1) (l.getD 1 0) (l.getD 2 0) (l.getD 3 0) (l.getD 4 0) (l.getD 5 0) (l.getD 6 0) (l.getD 7 0) (l.getD 8 0) r W h
      obtain ⟨u, hu1⟩ : ∃ u, u = beN [l.getD 1 0, l.getD 2 0, l.getD 3 0, l.getD 4 0, l.getD 5 0, l.getD 6 0, l.getD 7 0, l.getD 8 0] := ⟨_, rfl⟩
      rw [← hu1] at hbe hbad
      obtain ⟨hwl, hwh⟩ := i64_bd u
      have db : decide (wrap64 u < 0) = true := by simpa using hbad
      have HB := Lib.hid hbe
      have HV := Lib.hid hv1
      subst z211
      clear hd hn h1 hc hz hbe hr hu1 hv1 hbad
      go_enter Tryd.func63, Tryd.ntmps63
      go_wp2_with fail
      refine (isfix_no 211 (by omega) (by omega) _).mono ?_
      rintro e w' ⟨rfl, rfl⟩
      go_wp2_with fail
      refine (HB.out _ HV.out).mono ?_
      rintro e w1 ⟨rfl, hb1⟩
      go_wp2_with fail
      go_ret3
      exact ⟨_, _, _, _, _, _, rfl, by (repeat (first | with_reducible exact Below.refl _ _ | with_reducible assumption | with_reducible refine below_drewN ?_ _ | with_reducible refine Below.drew ?_ | with_reducible refine below_row ?_ (by first | omega | (simp; done) | (simp; omega)) _ | with_reducible refine Below.alloc ?_ (by first | omega | (simp; done) | (simp; omega)) _ | with_reducible refine Below.setCell ?_ (by first | omega | (simp; done) | (simp; omega)) _))⟩
  rw [if_neg z211] at hd
  by_cases z207 : z = 207
  · rw [if_pos z207] at hd
    have d2 : decide (((n - 1 : Nat) : Int) < 8) = true := by
      by_cases h2 : l.length < 9
      · simp; omega
      · rw [if_neg h2] at hd; cases hd
    subst z207
    clear hd hn h1 hc hz
    go_enter Tryd.func63, Tryd.ntmps63
    go_wp2_with fail
    refine (isfix_no 207 (by omega) (by omega) _).mono ?_
    rintro e w' ⟨rfl, rfl⟩
    go_wp2_with fail
    go_ret3
    exact ⟨_, _, _, _, _, _, rfl, by (repeat (first | with_reducible exact Below.refl _ _ | with_reducible assumption | with_reducible refine below_drewN ?_ _ | with_reducible refine Below.drew ?_ | with_reducible refine below_row ?_ (by first | omega | (simp; done) | (simp; omega)) _ | with_reducible refine Below.alloc ?_ (by first | omega | (simp; done) | (simp; omega)) _ | with_reducible refine Below.setCell ?_ (by first | omega | (simp; done) | (simp; omega)) _))⟩
  rw [if_neg z207] at hd
  have e208 : (z == 208) = false := by simpa using z208
  have e204 : (z == 204) = false := by simpa using z204
  have e209 : (z == 209) = false := by simpa using z209
  have e205 : (z == 205) = false := by simpa using z205
  have e210 : (z == 210) = false := by simpa using z210
  have e206 : (z == 206) = false := by simpa using z206
  have e211 : (z == 211) = false := by simpa using z211
  have e207 : (z == 207) = false := by simpa using z207
  clear hd hn h1 hc hz z208 z204 z209 z205 z210 z206 z211 z207
  by_cases z1 : 224 ≤ z
  · have d3 : decide (224 ≤ z) = true := by simpa using z1
    go_enter Tryd.func63, Tryd.ntmps63
    go_wp2_with fail
    refine (isfix_no z (by omega) (by omega) _).mono ?_
    rintro e w' ⟨rfl, rfl⟩
    go_wp2_with fail
    refine (isnfix_any z (by omega) (by omega) _).mono ?_
    rintro e w' ⟨rfl, rfl⟩
    go_wp2_with fail
    refine (rnfix_any z z1 (by omega) _).mono ?_
    rintro e w' ⟨rfl, rfl⟩
    go_wp2_with fail
    go_ret3
    exact ⟨_, _, _, _, _, _, rfl, by (repeat (first | with_reducible exact Below.refl _ _ | with_reducible assumption | with_reducible refine below_drewN ?_ _ | with_reducible refine Below.drew ?_ | with_reducible refine below_row ?_ (by first | omega | (simp; done) | (simp; omega)) _ | with_reducible refine Below.alloc ?_ (by first | omega | (simp; done) | (simp; omega)) _ | with_reducible refine Below.setCell ?_ (by first | omega | (simp; done) | (simp; omega)) _))⟩
  · have d3 : decide (224 ≤ z) = false := by simpa using z1
    clear z1
    go_enter Tryd.func63, Tryd.ntmps63
    go_wp2_with fail
    refine (isfix_no z (by omega) (by omega) _).mono ?_
    rintro e w' ⟨rfl, rfl⟩
    go_wp2_with fail
    refine (isnfix_any z (by omega) (by omega) _).mono ?_
    rintro e w' ⟨rfl, rfl⟩
    go_wp2_with fail
    refine (badPrefix_any 9 z (by omega) (by omega) _).mono ?_
    rintro e w1 ⟨T2, v2, rfl, hb1⟩
    go_wp2_with fail
    go_ret3
    exact ⟨_, _, _, _, _, _, rfl, hb1⟩

end Go.Proofs.YtbngkfdfjpbajaaDoor
