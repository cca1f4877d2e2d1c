/- msgp.ReadArrayHeaderBytes, msgp.IsNil, impl.enough. -/
import Derived.Test.YtbngkfdfjpbajaaDoorFixW
import Derived.Test.YtbngkfdfjpbajaaDoorBE
namespace Go.Proofs.YtbngkfdfjpbajaaDoor
open Go.RowKit
set_option linter.unusedVariables false
set_option linter.unusedSimpArgs false

theorem isfixarr (z : Int) (h0 : 0 ≤ z) (h1 : z < 256) (w : World) : Calls Tryd.prog 61 #[.int .u8 z] w fun e w' => e = .returned (.bool (decide (144 ≤ z ∧ z < 160))) ∧ w' = w := by
  have hx : ∀ n : Fin 256, (bits .and .u8 (n.val : Int) 240 == 144) = decide (144 ≤ (n.val : Int) ∧ (n.val : Int) < 160) := by decide +kernel
  have d := hx ⟨z.toNat, by omega⟩
  simp only [show ((z.toNat : Nat) : Int) = z by omega] at d
  have H := Lib.hid d
  clear d hx
  go_enter Tryd.func61, Tryd.ntmps61
  go_wp2_with fail
  go_ret
  exact ⟨by rw [← H.out]; rfl, rfl⟩
theorem rfixarr (z : Int) (h0 : 144 ≤ z) (h1 : z < 160) (w : World) : Calls Tryd.prog 62 #[.int .u8 z] w fun e w' => e = .returned (.int .u8 (z - 144)) ∧ w' = w := by
  have d : z - 144 = z % 16 := by omega
  rw [d]
  clear d
  go_enter Tryd.func62, Tryd.ntmps62
  go_wp2_with fail
  go_ret
  exact ⟨rfl, rfl⟩

/-- The head of an array read: how many, and what stands behind it. -/
def Rah (a : Option Addr) (n c : Nat) (w : World) (u : Int) (a' : Option Addr) (k : Nat) : Prop :=
  Calls Tryd.prog 42 #[.slice a n c] w fun e w' => e = .returned (.tuple #[.int .u32 u, .slice a' (n - k) (c - k), .nilIface]) ∧ Below w.heap.size w w'

set_option maxRecDepth 100000 in
set_option maxHeartbeats 4000000 in
theorem rah_fix (z : Int) (t : List Int) (a : Option Addr) (n c : Nat) (w : World) (hv : Vw w a n c (z :: t)) (h0 : 144 ≤ z) (h1 : z < 160) : ∃ a', Vw w a' (n - 1) (c - 1) t ∧ Rah a n c w (z - 144) a' 1 := by
  have hn := hv.len
  simp at hn
  have hcn := hv.cap
  have hcb := hv.big
  rcases hv.cells with h9 | ⟨b, off, rfl, hc⟩
  · omega
  have q0 : w.cell? ⟨b, off, none⟩ = some (.int .u8 z) := by simpa using hc 0 (by omega)
  have b0 : (0 : Int) < (n : Int) := by omega
  have d1 : decide ((n : Int) < 1) = false := by simp; omega
  obtain ⟨a1, ho1, hv1⟩ := off_of hv 1 1 rfl (by omega)
  unfold Off at ho1
  refine ⟨a1, by simpa using hv1, ?_⟩
  have hd : decide (144 ≤ z ∧ z < 160) = true := by simp; omega
  have hwu : IntKind.u32.wrap (z - 144) = z - 144 := by rw [IntKind.wrap_u32]; omega
  clear hc hn hv1
  unfold Rah
  go_enter Tryd.func42, Tryd.ntmps42
  go_wp2_with fail
  refine (isfixarr z (by omega) (by omega) _).mono ?_
  rw [hd]
  rintro e w' ⟨rfl, rfl⟩
  go_wp2_with fail
  refine (rfixarr z (by omega) (by omega) _).mono ?_
  rintro e w' ⟨rfl, rfl⟩
  go_wp2_with fail
  go_ret3
  exact ⟨rfl, Below.refl _ _⟩

set_option maxRecDepth 100000 in
set_option maxHeartbeats 4000000 in
theorem rah_220 (x0 x1 : Int) (t : List Int) (a : Option Addr) (n c : Nat) (w : World) (hv : Vw w a n c (220 :: x0 :: x1 :: t)) : ∃ a', Vw w a' (n - 3) (c - 3) t ∧ Rah a n c w (beN [x0, x1]) a' 3 := by
  have hn := hv.len
  simp at hn
  have hcn := hv.cap
  have hcb := hv.big
  have hby := hv.byt
  rcases hv.cells with h9 | ⟨b, off, rfl, hc⟩
  · omega
  have q0 : w.cell? ⟨b, off, none⟩ = some (.int .u8 220) := hc 0 (by omega)
  have b0 : (0 : Int) < (n : Int) := by omega
  have d1 : decide ((n : Int) < 1) = false := by simp; omega
  have d2 : decide (((n - 1 : Nat) : Int) < 2) = false := by simp; omega
  obtain ⟨a1, ho1, hv1⟩ := off_of hv 1 1 rfl (by omega)
  unfold Off at ho1
  obtain ⟨a2, ho2, hv2⟩ := off_of hv1 2 2 rfl (by omega)
  unfold Off at ho2
  simp only [List.drop_succ_cons, List.drop_zero] at hv1 hv2
  rw [show n - 1 - 2 = n - 3 by omega, show c - 1 - 2 = c - 3 by omega] at hv2 ho2
  refine ⟨a2, hv2, ?_⟩
  obtain ⟨v, hv'⟩ : ∃ v, v = beN [x0, x1] := ⟨_, rfl⟩
  have hvb : 0 ≤ v ∧ v ≤ 65535 := by
    have h2 := beN_bds [x0, x1] (fun x hx => hby x (by simp at hx ⊢; omega))
    rw [← hv'] at h2
    have h3 : ((256 ^ [x0, x1].length : Nat) : Int) = 65536 := by simp
    omega
  obtain ⟨hv0, hv1'⟩ := hvb
  have hbe := fun W (h : Vw W a1 (n - 1) (c - 1) (x0 :: x1 :: t)) => be16_any a1 (n - 1) (c - 1) x0 x1 t W h
  rw [← hv'] at hbe ⊢
  have HB := Lib.hid hbe
  have HV := Lib.hid hv1
  have hwu : IntKind.u32.wrap v = v := by rw [IntKind.wrap_u32]; omega
  have hd : decide (144 ≤ (220 : Int) ∧ (220 : Int) < 160) = false := by decide
  clear hc hn hby hv1 hv2 hbe hv'
  unfold Rah
  go_enter Tryd.func42, Tryd.ntmps42
  go_wp2_with fail
  refine (isfixarr 220 (by omega) (by omega) _).mono ?_
  rw [hd]
  rintro e w' ⟨rfl, rfl⟩
  go_wp2_with fail
  refine (HB.out _ HV.out).mono ?_
  rintro e w1 ⟨rfl, hb1⟩
  go_wp2_with fail
  go_ret3
  exact ⟨rfl, hb1⟩

set_option maxRecDepth 100000 in
set_option maxHeartbeats 4000000 in
theorem rah_221 (x0 x1 x2 x3 : Int) (t : List Int) (a : Option Addr) (n c : Nat) (w : World) (hv : Vw w a n c (221 :: x0 :: x1 :: x2 :: x3 :: t)) : ∃ a', Vw w a' (n - 5) (c - 5) t ∧ Rah a n c w (beN [x0, x1, x2, x3]) a' 5 := by
  have hn := hv.len
  simp at hn
  have hcn := hv.cap
  have hcb := hv.big
  have hby := hv.byt
  rcases hv.cells with h9 | ⟨b, off, rfl, hc⟩
  · omega
  have q0 : w.cell? ⟨b, off, none⟩ = some (.int .u8 221) := hc 0 (by omega)
  have b0 : (0 : Int) < (n : Int) := by omega
  have d1 : decide ((n : Int) < 1) = false := by simp; omega
  have d2 : decide (((n - 1 : Nat) : Int) < 4) = false := by simp; omega
  obtain ⟨a1, ho1, hv1⟩ := off_of hv 1 1 rfl (by omega)
  unfold Off at ho1
  obtain ⟨a2, ho2, hv2⟩ := off_of hv1 4 4 rfl (by omega)
  unfold Off at ho2
  simp only [List.drop_succ_cons, List.drop_zero] at hv1 hv2
  rw [show n - 1 - 4 = n - 5 by omega, show c - 1 - 4 = c - 5 by omega] at hv2 ho2
  refine ⟨a2, hv2, ?_⟩
  obtain ⟨v, hv'⟩ : ∃ v, v = beN [x0, x1, x2, x3] := ⟨_, rfl⟩
  have hvb : 0 ≤ v ∧ v ≤ 4294967295 := by
    have h2 := beN_bds [x0, x1, x2, x3] (fun x hx => hby x (by simp at hx ⊢; omega))
    rw [← hv'] at h2
    have h3 : ((256 ^ [x0, x1, x2, x3].length : Nat) : Int) = 4294967296 := by simp
    omega
  obtain ⟨hv0, hv1'⟩ := hvb
  have hbe := fun W (h : Vw W a1 (n - 1) (c - 1) (x0 :: x1 :: x2 :: x3 :: t)) => be32_any a1 (n - 1) (c - 1) x0 x1 x2 x3 t W h
  rw [← hv'] at hbe ⊢
  have HB := Lib.hid hbe
  have HV := Lib.hid hv1
  have hwu : IntKind.u32.wrap v = v := by rw [IntKind.wrap_u32]; omega
  have hd : decide (144 ≤ (221 : Int) ∧ (221 : Int) < 160) = false := by decide
  clear hc hn hby hv1 hv2 hbe hv'
  unfold Rah
  go_enter Tryd.func42, Tryd.ntmps42
  go_wp2_with fail
  refine (isfixarr 221 (by omega) (by omega) _).mono ?_
  rw [hd]
  rintro e w' ⟨rfl, rfl⟩
  go_wp2_with fail
  refine (HB.out _ HV.out).mono ?_
  rintro e w1 ⟨rfl, hb1⟩
  go_wp2_with fail
  go_ret3
  exact ⟨rfl, hb1⟩

/-- The first byte is no nil. -/
theorem isNil_no (z : Int) (t : List Int) (a : Option Addr) (n c : Nat) (w : World) (hv : Vw w a n c (z :: t)) (hz : z ≠ 192) : Calls Tryd.prog 41 #[.slice a n c] w fun e w' => e = .returned (.bool false) ∧ w' = w := by
  have hn := hv.len
  simp at hn
  rcases hv.cells with h9 | ⟨b, off, rfl, hc⟩
  · omega
  have q0 : w.cell? ⟨b, off, none⟩ = some (.int .u8 z) := by simpa using hc 0 (by omega)
  have b0 : (0 : Int) < (n : Int) := by omega
  have b1 : ((n : Int) != 0) = true := by simp; omega
  have b2 : (z == 192) = false := by simpa using hz
  clear hc hn
  go_enter Tryd.func41, Tryd.ntmps41
  go_wp2_with fail
  go_ret
  exact ⟨rfl, rfl⟩

set_option maxRecDepth 100000 in
set_option maxHeartbeats 4000000 in
theorem enough_yes (z : Int) (t : List Int) (a : Option Addr) (n c : Nat) (w : World) (u : Nat) (k : Nat) (hv : Vw w a n c (z :: t)) (hz : z ≠ 192) (a' : Option Addr) (hr : Rah a n c w u a' k) (hu : u ≤ n - k) (hub : u < 1000000) :
    Calls Tryd.prog 24 #[.slice a n c] w fun e w' => e = .returned (.bool true) ∧ Below w.heap.size w w' := by
  unfold Rah at hr
  have HN := Lib.hid (isNil_no z t a n c w hv hz)
  have HR := Lib.hid hr
  have hle : ((u : Int) ≤ ((n - k : Nat) : Int)) := by omega
  have hcb := hv.big
  have hcn := hv.cap
  clear hr hv
  go_enter Tryd.func24, Tryd.ntmps24
  go_wp2_with fail
  refine HN.out.mono ?_
  rintro e w' ⟨rfl, rfl⟩
  go_wp2_with fail
  refine HR.out.mono ?_
  rintro e w1 ⟨rfl, hb1⟩
  go_wp2_with fail
  go_ret
  exact ⟨rfl, hb1⟩
end Go.Proofs.YtbngkfdfjpbajaaDoor
