/- Values read by a Reader: ReadInt8, ReadUint8, ReadDuration, ReadFloat64, ReadArrayHeader; the closures of impl.StreamGet... -/
import Derived.Test.YtfaangichifbgaaDoorRdrU
import Derived.Deep.RegionHeld3
namespace Go.Proofs.YtfaangichifbgaaDoor
open Go.RowKit
set_option linter.unusedVariables false
set_option linter.unusedSimpArgs false

/-- A reader's function reads these bytes as this value. -/
def Gets (f : FuncId) (v : Value) (enc : List Int) : Prop := ∀ (B : Nat) (K : Nat → Prop) (R : Nat) (rest : List Int) (w : World), Rdr w B K R (enc ++ rest) → Calls Tryd.prog f #[.pointer (some ⟨R, 0, none⟩)] w (GetRes B K R rest v w)

theorem Gets.of_int (v : Int) (enc : List Int) (h : ∀ t, dInt (enc ++ t) = some (v, enc.length)) : Gets 56 (.int .i64 v) enc := by
  intro B K R rest w hr
  have := rdi_good B K R _ v enc.length (h rest) w hr
  rw [List.drop_left] at this
  exact this
theorem Gets.of_uint (v : Int) (enc : List Int) (h : ∀ t, dUint (enc ++ t) = some (v, enc.length)) : Gets 57 (.int .u64 v) enc := by
  intro B K R rest w hr
  have := rdu_good B K R _ v enc.length (h rest) w hr
  rw [List.drop_left] at this
  exact this

set_option maxHeartbeats 1000000 in
theorem gets_int8 (v : Int) (h0 : -128 ≤ v) (h1 : v ≤ 127) (enc : List Int) (h : Gets 56 (.int .i64 v) enc) : Gets 35 (.int .i8 v) enc := by
  intro B K R rest w hr
  have H := Lib.hid (h B K R rest w hr)
  clear h hr
  have hwr : IntKind.i8.wrap v = v := by rw [wrap_i8]; omega
  have g0 : ¬ (127 : Int) < v := by omega
  have g1 : ¬ v < (-128 : Int) := by omega
  go_enter Tryd.func35, Tryd.ntmps35
  go_wp2_with fail
  refine H.out.mono ?_
  rintro e w1 ⟨rfl, hr1, hf1, hb1⟩
  have HX := Lib.hid (And.intro hr1 (And.intro hf1 hb1))
  clear hr1 hf1 hb1
  go_wp2_with fail
  go_ret2
  exact ⟨rfl, HX.out.1, HX.out.2.1, HX.out.2.2⟩
set_option maxHeartbeats 1000000 in
theorem gets_uint8 (v : Int) (h0 : 0 ≤ v) (h1 : v ≤ 255) (enc : List Int) (h : Gets 57 (.int .u64 v) enc) : Gets 38 (.int .u8 v) enc := by
  intro B K R rest w hr
  have H := Lib.hid (h B K R rest w hr)
  clear h hr
  have g0 : ¬ (255 : Int) < v := by omega
  go_enter Tryd.func38, Tryd.ntmps38
  go_wp2_with fail
  refine H.out.mono ?_
  rintro e w1 ⟨rfl, hr1, hf1, hb1⟩
  have HX := Lib.hid (And.intro hr1 (And.intro hf1 hb1))
  clear hr1 hf1 hb1
  go_wp2_with fail
  go_ret2
  exact ⟨rfl, HX.out.1, HX.out.2.1, HX.out.2.2⟩
set_option maxHeartbeats 1000000 in
theorem gets_dur (v : Int)  (enc : List Int) (h : Gets 56 (.int .i64 v) enc) : Gets 32 (.int .i64 v) enc := by
  intro B K R rest w hr
  have H := Lib.hid (h B K R rest w hr)
  clear h hr
  go_enter Tryd.func32, Tryd.ntmps32
  go_wp2_with fail
  refine H.out.mono ?_
  rintro e w1 ⟨rfl, hr1, hf1, hb1⟩
  have HX := Lib.hid (And.intro hr1 (And.intro hf1 hb1))
  clear hr1 hf1 hb1
  go_wp2_with fail
  go_ret2
  exact ⟨rfl, HX.out.1, HX.out.2.1, HX.out.2.2⟩
set_option maxHeartbeats 1000000 in
theorem clo_int8 (v : Int)  (enc : List Int) (h : Gets 35 (.int .i8 v) enc) : Gets 34 (.int .i8 v) enc := by
  intro B K R rest w hr
  have H := Lib.hid (h B K R rest w hr)
  clear h hr
  go_enter Tryd.func34, Tryd.ntmps34
  go_wp2_with fail
  refine H.out.mono ?_
  rintro e w1 ⟨rfl, hr1, hf1, hb1⟩
  have HX := Lib.hid (And.intro hr1 (And.intro hf1 hb1))
  clear hr1 hf1 hb1
  go_wp2_with fail
  go_ret2
  exact ⟨rfl, HX.out.1, HX.out.2.1, HX.out.2.2⟩
set_option maxHeartbeats 1000000 in
theorem clo_uint8 (v : Int)  (enc : List Int) (h : Gets 38 (.int .u8 v) enc) : Gets 37 (.int .u8 v) enc := by
  intro B K R rest w hr
  have H := Lib.hid (h B K R rest w hr)
  clear h hr
  go_enter Tryd.func37, Tryd.ntmps37
  go_wp2_with fail
  refine H.out.mono ?_
  rintro e w1 ⟨rfl, hr1, hf1, hb1⟩
  have HX := Lib.hid (And.intro hr1 (And.intro hf1 hb1))
  clear hr1 hf1 hb1
  go_wp2_with fail
  go_ret2
  exact ⟨rfl, HX.out.1, HX.out.2.1, HX.out.2.2⟩
set_option maxHeartbeats 1000000 in
theorem clo_dur (v : Int) (h0 : -9223372036854775808 ≤ v) (h1 : v ≤ 9223372036854775807) (enc : List Int) (h : Gets 32 (.int .i64 v) enc) : Gets 31 (.int .i64 v) enc := by
  intro B K R rest w hr
  have H := Lib.hid (h B K R rest w hr)
  clear h hr
  go_enter Tryd.func31, Tryd.ntmps31
  go_wp2_with fail
  refine H.out.mono ?_
  rintro e w1 ⟨rfl, hr1, hf1, hb1⟩
  have HX := Lib.hid (And.intro hr1 (And.intro hf1 hb1))
  clear hr1 hf1 hb1
  go_wp2_with fail
  go_ret2
  exact ⟨rfl, HX.out.1, HX.out.2.1, HX.out.2.2⟩
set_option maxHeartbeats 1000000 in
theorem clo_arr (v : Int)  (enc : List Int) (h : Gets 23 (.int .u32 v) enc) : Gets 22 (.int .u32 v) enc := by
  intro B K R rest w hr
  have H := Lib.hid (h B K R rest w hr)
  clear h hr
  go_enter Tryd.func22, Tryd.ntmps22
  go_wp2_with fail
  refine H.out.mono ?_
  rintro e w1 ⟨rfl, hr1, hf1, hb1⟩
  have HX := Lib.hid (And.intro hr1 (And.intro hf1 hb1))
  clear hr1 hf1 hb1
  go_wp2_with fail
  go_ret2
  exact ⟨rfl, HX.out.1, HX.out.2.1, HX.out.2.2⟩
theorem f64_from (n : Int) (w : World) : (callFunc 51 #[.int .u64 n]).run Tryd.prog w = .ok (.value (.float .f64 n.toNat)) w :=
  (run_callFunc_extern (P := Tryd.prog) (e := Extern.MathFloatBits.float64frombits) Tryd.func51 (by kernel_rfl) (by kernel_rfl) (by kernel_rfl) (by kernel_rfl) #[.int .u64 n] w).trans rfl
theorem f64_to (n : Nat) (w : World) : (callFunc 28 #[.float .f64 n]).run Tryd.prog w = .ok (.value (.int .u64 n)) w :=
  (run_callFunc_extern (P := Tryd.prog) (e := Extern.MathFloatBits.float64bits) Tryd.func28 (by kernel_rfl) (by kernel_rfl) (by kernel_rfl) (by kernel_rfl) #[.float .f64 n] w).trans rfl
set_option maxRecDepth 100000 in
set_option maxHeartbeats 4000000 in
theorem rdf64 (B : Nat) (K : Nat → Prop) (R : Nat) (x1 x2 x3 x4 x5 x6 x7 x8 : Int) (r : List Int) (w : World) (h : Rdr w B K R (203 :: x1 :: x2 :: x3 :: x4 :: x5 :: x6 :: x7 :: x8 :: r)) :
    Calls Tryd.prog 27 #[.pointer (some ⟨R, 0, none⟩)] w (GetRes B K R r (.float .f64 (beN [x1, x2, x3, x4, x5, x6, x7, x8]).toNat) w) := by
  obtain ⟨S, sa, sn, sc, d, mr, me, ms, hR, hnR, hS⟩ := h
  have q0 := hR.cell (i := 0) rfl
  have hRl := hR.lt
  have HP := Lib.hid (peek_any B K S 9 (by omega) (by omega) _ w hS (by simp))
  have HR := Lib.hid hR
  have HNR := Lib.hid hnR
  clear hS hR hnR
  have hff := f64_from (beN [x1, x2, x3, x4, x5, x6, x7, x8])
  obtain ⟨v, hv⟩ : ∃ v, v = beN [x1, x2, x3, x4, x5, x6, x7, x8] := ⟨_, rfl⟩
  rw [← hv] at hff ⊢
  have HVV := Lib.hid hv
  clear hv
  go_enter Tryd.func27, Tryd.ntmps27
  go_wp2_with fail
  refine HP.out.mono ?_
  rintro e w1 ⟨a, c, rfl, hv1, hs1, hf1, hb1⟩
  have hR1 := hf1.blk HR.out HNR.out
  have q0 := hR1.cell (i := 0) rfl
  have hRl1 := hR1.lt
  have HS1 := Lib.hid hs1
  have HX1 := Lib.hid (And.intro hf1 hb1)
  have HV1 : Hid (Vw w1 a 9 c (203 :: x1 :: x2 :: x3 :: x4 :: x5 :: x6 :: x7 :: x8 :: [])) := Lib.hid hv1
  obtain ⟨b, off, rfl, hc⟩ : ∃ b off, a = some ⟨b, off, none⟩ ∧ w1.cell? ⟨b, off, none⟩ = some (.int .u8 203) := by
    rcases HV1.out.cells with h0 | ⟨b, off, ha, hc⟩
    · omega
    · exact ⟨b, off, ha, by simpa using hc 0 (by omega)⟩
  have hbl := World.block_lt_of_cell? w1 _ hc
  clear hs1 hf1 hb1 hR1 hv1
  go_wp2_with fail
  refine (getMuint64_any _ 9 c 203 x1 x2 x3 x4 x5 x6 x7 x8 [] w1 HV1.out).mono ?_
  rw [← HVV.out]
  rintro e w2 ⟨rfl, hb2⟩
  have q0 := HX1.out.1.blk HR.out HNR.out |>.below hb2 hRl1 |>.cell (i := 0) rfl
  have hRl2 := hb2.size
  have HB2 := Lib.hid hb2
  clear hb2
  go_wp2_with fail
  refine (skip_any B _ S 9 (by omega) (by omega) _ w2 ((HS1.out.less (by omega)).below HB2.out) (by simp) HS1.out.kS).mono ?_
  rintro e w3 ⟨rfl, hs3, hf3, hb3⟩
  have HS3 := Lib.hid hs3
  have HX3 := Lib.hid (And.intro hf3 hb3)
  clear hs3 hf3 hb3
  go_wp2_with fail
  go_ret2
  have hs3 := HS3.out.mono (K' := fun b => (K b ∨ w.heap.size ≤ b) ∨ w1.heap.size ≤ b) (fun b h => by rcases h with h | h; exact .inl h; exact .inr (Nat.le_trans HB2.out.size h))
  exact get_fin _ HR.out HNR.out HX1.out.1 HX1.out.2 hs3 ((Frm.below HB2.out _).trans HX3.out.1) ((HB2.out.mono (by have := HS1.out.lt; omega)).trans HX3.out.2) (Below.refl _ _)
set_option maxHeartbeats 1000000 in
theorem clo_f64 (v : Int) (h0 : 0 ≤ v) (enc : List Int) (h : Gets 27 (.float .f64 v.toNat) enc) : Gets 26 (.int .u64 v) enc := by
  intro B K R rest w hr
  have H := Lib.hid (h B K R rest w hr)
  have hff := f64_to v.toNat
  have e : ((v.toNat : Nat) : Int) = v := by omega
  rw [e] at hff
  clear h hr e
  go_enter Tryd.func26, Tryd.ntmps26
  go_wp2_with fail
  refine H.out.mono ?_
  rintro e w1 ⟨rfl, hr1, hf1, hb1⟩
  have HX := Lib.hid (And.intro hr1 (And.intro hf1 hb1))
  clear hr1 hf1 hb1
  go_wp2_with fail
  go_ret2
  exact ⟨rfl, HX.out.1, HX.out.2.1, HX.out.2.2⟩
theorem isfixarr (z : Int) (h0 : 0 ≤ z) (h1 : z < 256) (w : World) : Calls Tryd.prog 41 #[.int .u8 z] w fun e w' => e = .returned (.bool (decide (144 ≤ z ∧ z < 160))) ∧ w = w' := by
  have hx : ∀ n : Fin 256, (bits .and .u8 (n.val : Int) 240 == 144) = decide (144 ≤ (n.val : Int) ∧ (n.val : Int) < 160) := by decide +kernel
  have d := hx ⟨z.toNat, by omega⟩
  simp only [show ((z.toNat : Nat) : Int) = z by omega] at d
  have H := Lib.hid d
  clear d hx
  go_enter Tryd.func41, Tryd.ntmps41
  go_wp2_with fail
  go_ret
  exact ⟨by rw [← H.out]; rfl, rfl⟩
theorem rfixarr (z : Int) (h0 : 144 ≤ z) (h1 : z < 160) (w : World) : Calls Tryd.prog 42 #[.int .u8 z] w fun e w' => e = .returned (.int .u8 (z - 144)) ∧ w = w' := by
  have d : z - 144 = z % 16 := by omega
  rw [d]
  clear d
  go_enter Tryd.func42, Tryd.ntmps42
  go_wp2_with fail
  go_ret
  exact ⟨rfl, rfl⟩
set_option maxRecDepth 100000 in
set_option maxHeartbeats 4000000 in
theorem rda_fix (B : Nat) (K : Nat → Prop) (R : Nat) (z : Int) (r : List Int) (w : World) (h : Rdr w B K R (z :: r)) (hz0 : 144 ≤ z) (hz1 : z < 160) :
    Calls Tryd.prog 23 #[.pointer (some ⟨R, 0, none⟩)] w (GetRes B K R r (.int .u32 (z - 144)) w) := by
  obtain ⟨S, sa, sn, sc, d, mr, me, ms, hR, hnR, hS⟩ := h
  have hby := hS.byt
  have q0 := hR.cell (i := 0) rfl
  have hRl := hR.lt
  have HP := Lib.hid (peekByte_any B K S z _ w hS)
  have HR := Lib.hid hR
  have HNR := Lib.hid hnR
  clear hS hR hnR
  clear hby
  have hd : decide (144 ≤ z ∧ z < 160) = true := by simp; omega
  go_enter Tryd.func23, Tryd.ntmps23
  go_wp2_with fail
  refine HP.out.mono ?_
  rintro e w1 ⟨rfl, hs1, hf1, hb1⟩
  have hR1 := hf1.blk HR.out HNR.out
  have q0 := hR1.cell (i := 0) rfl
  have hRl1 := hR1.lt
  have HS1 := Lib.hid hs1
  have HX1 := Lib.hid (And.intro hf1 hb1)
  clear hs1 hf1 hb1 hR1
  go_wp2_with fail
  refine (isfixarr z (by omega) (by omega) _).mono ?_
  rw [hd]
  rintro e w' ⟨rfl, rfl⟩
  go_wp2_with fail
  refine (rfixarr z (by omega) (by omega) _).mono ?_
  rintro e w' ⟨rfl, rfl⟩
  go_wp2_with fail
  refine (skip_any B _ S 1 (by omega) (by omega) _ w1 (HS1.out.less (by omega)) (by simp) HS1.out.kS).mono ?_
  rintro e w2 ⟨rfl, hs2, hf2, hb2⟩
  have HS2 := Lib.hid hs2
  have HX2 := Lib.hid (And.intro hf2 hb2)
  clear hs2 hf2 hb2
  go_wp2_with fail
  go_ret2
  exact get_fin _ HR.out HNR.out HX1.out.1 HX1.out.2 HS2.out HX2.out.1 HX2.out.2 (Below.refl _ _)
set_option maxRecDepth 100000 in
set_option maxHeartbeats 4000000 in
theorem rda_220 (B : Nat) (K : Nat → Prop) (R : Nat) (x1 x2 : Int) (r : List Int) (w : World) (h : Rdr w B K R (220 :: x1 :: x2 :: r)) :
    Calls Tryd.prog 23 #[.pointer (some ⟨R, 0, none⟩)] w (GetRes B K R r (.int .u32 (beN [x1, x2])) w) := by
  obtain ⟨S, sa, sn, sc, d, mr, me, ms, hR, hnR, hS⟩ := h
  have hby := hS.byt
  have q0 := hR.cell (i := 0) rfl
  have hRl := hR.lt
  have HP := Lib.hid (peekByte_any B K S 220 _ w hS)
  have HR := Lib.hid hR
  have HNR := Lib.hid hnR
  clear hS hR hnR
  obtain ⟨v, hv⟩ : ∃ v, v = beN [x1, x2] := ⟨_, rfl⟩
  have hvb : 0 ≤ v ∧ v ≤ 65535 := by
    have h2 := beN_bds [x1, x2] (fun x hx => hby x (by simp at hx ⊢; omega))
    rw [← hv] at h2
    have h3 : ((256 ^ [x1, x2].length : Nat) : Int) = 65536 := by simp
    omega
  obtain ⟨hv0, hv1⟩ := hvb
  rw [← hv]
  have HVV := Lib.hid hv
  clear hv hby
  have hd : decide (144 ≤ (220 : Int) ∧ (220 : Int) < 160) = false := by decide
  have hwu : IntKind.u32.wrap v = v := by rw [IntKind.wrap_u32]; omega
  go_enter Tryd.func23, Tryd.ntmps23
  go_wp2_with fail
  refine HP.out.mono ?_
  rintro e w1 ⟨rfl, hs1, hf1, hb1⟩
  have hR1 := hf1.blk HR.out HNR.out
  have q0 := hR1.cell (i := 0) rfl
  have hRl1 := hR1.lt
  have HS1 := Lib.hid hs1
  have HX1 := Lib.hid (And.intro hf1 hb1)
  clear hs1 hf1 hb1 hR1
  go_wp2_with fail
  refine (isfixarr 220 (by omega) (by omega) _).mono ?_
  rw [hd]
  rintro e w' ⟨rfl, rfl⟩
  go_wp2_with fail
  refine (next_any B _ S 3 (by omega) (by omega) _ w1 (HS1.out.less (by omega)) (by simp) HS1.out.kS).mono ?_
  rintro e w2 ⟨a, c, rfl, hv2, hs2, hf2, hb2⟩
  have HS2 := Lib.hid hs2
  have HX2 := Lib.hid (And.intro hf2 hb2)
  obtain ⟨a1, ho1, hw1, _⟩ := (show Vw w2 a 3 c (220 :: x1 :: x2 :: []) from hv2).fromB 1 (by omega)
  have ho1 : ∀ w', (Instr.slice 26 (.slice a 3 c) (some (.int .i64 1)) none none).run Tryd.prog w' = .ok (.slice a1 2 (c - 1)) w' := ho1
  simp only [List.drop_succ_cons, List.drop_zero, Nat.add_sub_cancel] at hw1
  have HW1 := Lib.hid hw1
  clear hs2 hf2 hb2 hv2 hw1
  go_wp2_with fail
  go_region_held3 (fun U => Below w2.heap.size w2 U) (first | exact Below.refl _ _ | exact (Below.refl _ _).drew | exact hb4 | assumption) (first | (go_at_call 45; refine (be16_any a1 2 (c - 1) x1 x2 [] _ (HW1.out.drew)).mono ?_; rw [← HVV.out]; rintro e w3 ⟨rfl, hb3⟩; have hb4 : Below w2.heap.size w2 w3 := Below.trans (b := w2.drew) (Below.refl _ _).drew hb3))
  have HB4 := Lib.hid hb4
  go_wp2_with fail
  go_ret2
  exact get_fin _ HR.out HNR.out HX1.out.1 HX1.out.2 HS2.out HX2.out.1 HX2.out.2 HB4.out
set_option maxRecDepth 100000 in
set_option maxHeartbeats 4000000 in
theorem rda_221 (B : Nat) (K : Nat → Prop) (R : Nat) (x1 x2 x3 x4 : Int) (r : List Int) (w : World) (h : Rdr w B K R (221 :: x1 :: x2 :: x3 :: x4 :: r)) :
    Calls Tryd.prog 23 #[.pointer (some ⟨R, 0, none⟩)] w (GetRes B K R r (.int .u32 (beN [x1, x2, x3, x4])) w) := by
  obtain ⟨S, sa, sn, sc, d, mr, me, ms, hR, hnR, hS⟩ := h
  have hby := hS.byt
  have q0 := hR.cell (i := 0) rfl
  have hRl := hR.lt
  have HP := Lib.hid (peekByte_any B K S 221 _ w hS)
  have HR := Lib.hid hR
  have HNR := Lib.hid hnR
  clear hS hR hnR
  obtain ⟨v, hv⟩ : ∃ v, v = beN [x1, x2, x3, x4] := ⟨_, rfl⟩
  have hvb : 0 ≤ v ∧ v ≤ 4294967295 := by
    have h2 := beN_bds [x1, x2, x3, x4] (fun x hx => hby x (by simp at hx ⊢; omega))
    rw [← hv] at h2
    have h3 : ((256 ^ [x1, x2, x3, x4].length : Nat) : Int) = 4294967296 := by simp
    omega
  obtain ⟨hv0, hv1⟩ := hvb
  rw [← hv]
  have HVV := Lib.hid hv
  clear hv hby
  have hd : decide (144 ≤ (221 : Int) ∧ (221 : Int) < 160) = false := by decide
  have hwu : IntKind.u32.wrap v = v := by rw [IntKind.wrap_u32]; omega
  go_enter Tryd.func23, Tryd.ntmps23
  go_wp2_with fail
  refine HP.out.mono ?_
  rintro e w1 ⟨rfl, hs1, hf1, hb1⟩
  have hR1 := hf1.blk HR.out HNR.out
  have q0 := hR1.cell (i := 0) rfl
  have hRl1 := hR1.lt
  have HS1 := Lib.hid hs1
  have HX1 := Lib.hid (And.intro hf1 hb1)
  clear hs1 hf1 hb1 hR1
  go_wp2_with fail
  refine (isfixarr 221 (by omega) (by omega) _).mono ?_
  rw [hd]
  rintro e w' ⟨rfl, rfl⟩
  go_wp2_with fail
  refine (next_any B _ S 5 (by omega) (by omega) _ w1 (HS1.out.less (by omega)) (by simp) HS1.out.kS).mono ?_
  rintro e w2 ⟨a, c, rfl, hv2, hs2, hf2, hb2⟩
  have HS2 := Lib.hid hs2
  have HX2 := Lib.hid (And.intro hf2 hb2)
  obtain ⟨a1, ho1, hw1, _⟩ := (show Vw w2 a 5 c (221 :: x1 :: x2 :: x3 :: x4 :: []) from hv2).fromB 1 (by omega)
  have ho1 : ∀ w', (Instr.slice 26 (.slice a 5 c) (some (.int .i64 1)) none none).run Tryd.prog w' = .ok (.slice a1 4 (c - 1)) w' := ho1
  simp only [List.drop_succ_cons, List.drop_zero, Nat.add_sub_cancel] at hw1
  have HW1 := Lib.hid hw1
  clear hs2 hf2 hb2 hv2 hw1
  go_wp2_with fail
  go_region_held3 (fun U => Below w2.heap.size w2 U) (first | exact Below.refl _ _ | exact (Below.refl _ _).drew | exact hb4 | assumption) (first | (go_at_call 46; refine (be32_any a1 4 (c - 1) x1 x2 x3 x4 [] _ (HW1.out.drew)).mono ?_; rw [← HVV.out]; rintro e w3 ⟨rfl, hb3⟩; have hb4 : Below w2.heap.size w2 w3 := Below.trans (b := w2.drew) (Below.refl _ _).drew hb3))
  have HB4 := Lib.hid hb4
  go_wp2_with fail
  go_ret2
  exact get_fin _ HR.out HNR.out HX1.out.1 HX1.out.2 HS2.out HX2.out.1 HX2.out.2 HB4.out
end Go.Proofs.YtfaangichifbgaaDoor
