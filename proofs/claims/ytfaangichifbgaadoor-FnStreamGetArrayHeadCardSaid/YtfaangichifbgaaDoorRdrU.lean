/- (*msgp.Reader).ReadUint64. -/
import Derived.Test.YtfaangichifbgaaDoorRdr
namespace Go.Proofs.YtfaangichifbgaaDoor
open Go.RowKit
set_option linter.unusedVariables false
set_option linter.unusedSimpArgs false

set_option maxRecDepth 100000 in
set_option maxHeartbeats 4000000 in
theorem rdu_fix (B : Nat) (K : Nat → Prop) (R : Nat) (z : Int) (r : List Int) (w : World) (h : Rdr w B K R (z :: r)) (hz : z < 128) :
    Calls Tryd.prog 57 #[.pointer (some ⟨R, 0, none⟩)] w (GetRes B K R r (.int .u64 (z)) w) := by
  obtain ⟨S, sa, sn, sc, d, mr, me, ms, hR, hnR, hS⟩ := h
  have hby := hS.byt
  have q0 := hR.cell (i := 0) rfl
  have hRl := hR.lt
  have HP := Lib.hid (peekByte_any B K S z _ w hS)
  have HR := Lib.hid hR
  have HNR := Lib.hid hnR
  clear hS hR hnR
  obtain ⟨hz0, hz1⟩ := hby z (by simp)
  clear hby
  go_enter Tryd.func57, Tryd.ntmps57
  go_wp2_with fail
  refine HP.out.mono ?_
  rintro e w1 ⟨rfl, hs1, hf1, hb1⟩
  have hR1 := hf1.blk HR.out HNR.out
  have q0 := hR1.cell (i := 0) rfl
  have hRl1 := hR1.lt
  have HS1 := Lib.hid hs1
  have HX1 := Lib.hid (And.intro hf1 hb1)
  clear hs1 hf1 hb1 hR1
  go_wp2_with fail
  refine (isfix_yes z (by omega) (by omega) _).mono ?_
  rintro e w' ⟨rfl, rfl⟩
  go_wp2_with fail
  refine (rfix_any z (by omega) (by omega) _).mono ?_
  rintro e w' ⟨rfl, rfl⟩
  go_wp2_with fail
  refine (skip_any B _ S 1 (by omega) (by omega) _ w1 (HS1.out.less (by omega)) (by simp) HS1.out.kS).mono ?_
  rintro e w2 ⟨rfl, hs2, hf2, hb2⟩
  have HS2 := Lib.hid hs2
  have HX2 := Lib.hid (And.intro hf2 hb2)
  clear hs2 hf2 hb2
  go_wp2_with fail
  go_ret2
  exact get_fin _ HR.out HNR.out HX1.out.1 HX1.out.2 HS2.out HX2.out.1 HX2.out.2 (Below.refl _ _)
set_option maxRecDepth 100000 in
set_option maxHeartbeats 4000000 in
theorem rdu_208 (B : Nat) (K : Nat → Prop) (R : Nat) (x1 : Int) (r : List Int) (w : World) (h : Rdr w B K R (208 :: x1 :: r)) (hu : ¬ IntKind.i8.wrap x1 < 0) :
    Calls Tryd.prog 57 #[.pointer (some ⟨R, 0, none⟩)] w (GetRes B K R r (.int .u64 (IntKind.i8.wrap x1)) w) := by
  obtain ⟨S, sa, sn, sc, d, mr, me, ms, hR, hnR, hS⟩ := h
  have hby := hS.byt
  have q0 := hR.cell (i := 0) rfl
  have hRl := hR.lt
  have HP := Lib.hid (peekByte_any B K S 208 _ w hS)
  have HR := Lib.hid hR
  have HNR := Lib.hid hnR
  clear hS hR hnR
  obtain ⟨v, hv⟩ : ∃ v, v = IntKind.i8.wrap x1 := ⟨_, rfl⟩
  have hvb : -128 ≤ v ∧ v ≤ 127 := by rw [hv]; exact i8_bd _
  obtain ⟨hv0, hv1⟩ := hvb
  rw [← hv] at hu
  rw [← hv]
  have HVV := Lib.hid hv
  clear hv hby
  go_enter Tryd.func57, Tryd.ntmps57
  go_wp2_with fail
  refine HP.out.mono ?_
  rintro e w1 ⟨rfl, hs1, hf1, hb1⟩
  have hR1 := hf1.blk HR.out HNR.out
  have q0 := hR1.cell (i := 0) rfl
  have hRl1 := hR1.lt
  have HS1 := Lib.hid hs1
  have HX1 := Lib.hid (And.intro hf1 hb1)
  clear hs1 hf1 hb1 hR1
  go_wp2_with fail
  refine (isfix_no 208 (by omega) (by omega) _).mono ?_
  rintro e w' ⟨rfl, rfl⟩
  go_wp2_with fail
  refine (next_any B _ S 2 (by omega) (by omega) _ w1 (HS1.out.less (by omega)) (by simp) HS1.out.kS).mono ?_
  rintro e w2 ⟨a, c, rfl, hv2, hs2, hf2, hb2⟩
  have HS2 := Lib.hid hs2
  have HX2 := Lib.hid (And.intro hf2 hb2)
  have HV2 : Hid (Vw w2 a 2 c (208 :: x1 :: [])) := Lib.hid hv2
  clear hs2 hf2 hb2 hv2
  go_wp2_with fail
  refine (getMint8_any a 2 c 208 x1 [] w2 HV2.out).mono ?_
  rw [← HVV.out]
  rintro e w3 ⟨rfl, hb3⟩
  have HB3 := Lib.hid hb3
  clear hb3
  go_wp2_with fail
  go_ret2
  exact get_fin _ HR.out HNR.out HX1.out.1 HX1.out.2 HS2.out HX2.out.1 HX2.out.2 HB3.out
set_option maxRecDepth 100000 in
set_option maxHeartbeats 4000000 in
theorem rdu_204 (B : Nat) (K : Nat → Prop) (R : Nat) (x1 : Int) (r : List Int) (w : World) (h : Rdr w B K R (204 :: x1 :: r)) :
    Calls Tryd.prog 57 #[.pointer (some ⟨R, 0, none⟩)] w (GetRes B K R r (.int .u64 (x1)) w) := by
  obtain ⟨S, sa, sn, sc, d, mr, me, ms, hR, hnR, hS⟩ := h
  have hby := hS.byt
  have q0 := hR.cell (i := 0) rfl
  have hRl := hR.lt
  have HP := Lib.hid (peekByte_any B K S 204 _ w hS)
  have HR := Lib.hid hR
  have HNR := Lib.hid hnR
  clear hS hR hnR
  obtain ⟨v, hv⟩ : ∃ v, v = x1 := ⟨_, rfl⟩
  have hvb : 0 ≤ v ∧ v ≤ 255 := by have := hby x1 (by simp); omega
  obtain ⟨hv0, hv1⟩ := hvb
  rw [← hv]
  have HVV := Lib.hid hv
  clear hv hby
  go_enter Tryd.func57, Tryd.ntmps57
  go_wp2_with fail
  refine HP.out.mono ?_
  rintro e w1 ⟨rfl, hs1, hf1, hb1⟩
  have hR1 := hf1.blk HR.out HNR.out
  have q0 := hR1.cell (i := 0) rfl
  have hRl1 := hR1.lt
  have HS1 := Lib.hid hs1
  have HX1 := Lib.hid (And.intro hf1 hb1)
  clear hs1 hf1 hb1 hR1
  go_wp2_with fail
  refine (isfix_no 204 (by omega) (by omega) _).mono ?_
  rintro e w' ⟨rfl, rfl⟩
  go_wp2_with fail
  refine (next_any B _ S 2 (by omega) (by omega) _ w1 (HS1.out.less (by omega)) (by simp) HS1.out.kS).mono ?_
  rintro e w2 ⟨a, c, rfl, hv2, hs2, hf2, hb2⟩
  have HS2 := Lib.hid hs2
  have HX2 := Lib.hid (And.intro hf2 hb2)
  have HV2 : Hid (Vw w2 a 2 c (204 :: x1 :: [])) := Lib.hid hv2
  clear hs2 hf2 hb2 hv2
  go_wp2_with fail
  refine (getMuint8_any a 2 c 204 x1 [] w2 HV2.out).mono ?_
  rw [← HVV.out]
  rintro e w3 ⟨rfl, hb3⟩
  have HB3 := Lib.hid hb3
  clear hb3
  go_wp2_with fail
  go_ret2
  exact get_fin _ HR.out HNR.out HX1.out.1 HX1.out.2 HS2.out HX2.out.1 HX2.out.2 HB3.out
set_option maxRecDepth 100000 in
set_option maxHeartbeats 4000000 in
theorem rdu_209 (B : Nat) (K : Nat → Prop) (R : Nat) (x1 x2 : Int) (r : List Int) (w : World) (h : Rdr w B K R (209 :: x1 :: x2 :: r)) (hu : ¬ IntKind.i16.wrap (beN [x1, x2]) < 0) :
    Calls Tryd.prog 57 #[.pointer (some ⟨R, 0, none⟩)] w (GetRes B K R r (.int .u64 (IntKind.i16.wrap (beN [x1, x2]))) w) := by
  obtain ⟨S, sa, sn, sc, d, mr, me, ms, hR, hnR, hS⟩ := h
  have hby := hS.byt
  have q0 := hR.cell (i := 0) rfl
  have hRl := hR.lt
  have HP := Lib.hid (peekByte_any B K S 209 _ w hS)
  have HR := Lib.hid hR
  have HNR := Lib.hid hnR
  clear hS hR hnR
  obtain ⟨v, hv⟩ : ∃ v, v = IntKind.i16.wrap (beN [x1, x2]) := ⟨_, rfl⟩
  have hvb : -32768 ≤ v ∧ v ≤ 32767 := by rw [hv]; exact i16_bd _
  obtain ⟨hv0, hv1⟩ := hvb
  rw [← hv] at hu
  rw [← hv]
  have HVV := Lib.hid hv
  clear hv hby
  go_enter Tryd.func57, Tryd.ntmps57
  go_wp2_with fail
  refine HP.out.mono ?_
  rintro e w1 ⟨rfl, hs1, hf1, hb1⟩
  have hR1 := hf1.blk HR.out HNR.out
  have q0 := hR1.cell (i := 0) rfl
  have hRl1 := hR1.lt
  have HS1 := Lib.hid hs1
  have HX1 := Lib.hid (And.intro hf1 hb1)
  clear hs1 hf1 hb1 hR1
  go_wp2_with fail
  refine (isfix_no 209 (by omega) (by omega) _).mono ?_
  rintro e w' ⟨rfl, rfl⟩
  go_wp2_with fail
  refine (next_any B _ S 3 (by omega) (by omega) _ w1 (HS1.out.less (by omega)) (by simp) HS1.out.kS).mono ?_
  rintro e w2 ⟨a, c, rfl, hv2, hs2, hf2, hb2⟩
  have HS2 := Lib.hid hs2
  have HX2 := Lib.hid (And.intro hf2 hb2)
  have HV2 : Hid (Vw w2 a 3 c (209 :: x1 :: x2 :: [])) := Lib.hid hv2
  clear hs2 hf2 hb2 hv2
  go_wp2_with fail
  refine (getMint16_any a 3 c 209 x1 x2 [] w2 HV2.out).mono ?_
  rw [← HVV.out]
  rintro e w3 ⟨rfl, hb3⟩
  have HB3 := Lib.hid hb3
  clear hb3
  go_wp2_with fail
  go_ret2
  exact get_fin _ HR.out HNR.out HX1.out.1 HX1.out.2 HS2.out HX2.out.1 HX2.out.2 HB3.out
set_option maxRecDepth 100000 in
set_option maxHeartbeats 4000000 in
theorem rdu_205 (B : Nat) (K : Nat → Prop) (R : Nat) (x1 x2 : Int) (r : List Int) (w : World) (h : Rdr w B K R (205 :: x1 :: x2 :: r)) :
    Calls Tryd.prog 57 #[.pointer (some ⟨R, 0, none⟩)] w (GetRes B K R r (.int .u64 (beN [x1, x2])) w) := by
  obtain ⟨S, sa, sn, sc, d, mr, me, ms, hR, hnR, hS⟩ := h
  have hby := hS.byt
  have q0 := hR.cell (i := 0) rfl
  have hRl := hR.lt
  have HP := Lib.hid (peekByte_any B K S 205 _ w hS)
  have HR := Lib.hid hR
  have HNR := Lib.hid hnR
  clear hS hR hnR
  obtain ⟨v, hv⟩ : ∃ v, v = beN [x1, x2] := ⟨_, rfl⟩
  have hvb : 0 ≤ v ∧ v ≤ 65535 := by
    have h2 := beN_bds [x1, x2] (fun x hx => hby x (by simp at hx ⊢; omega))
    rw [← hv] at h2
    have h3 : ((256 ^ [x1, x2].length : Nat) : Int) = 65536 := by simp
    omega
  obtain ⟨hv0, hv1⟩ := hvb
  rw [← hv]
  have HVV := Lib.hid hv
  clear hv hby
  go_enter Tryd.func57, Tryd.ntmps57
  go_wp2_with fail
  refine HP.out.mono ?_
  rintro e w1 ⟨rfl, hs1, hf1, hb1⟩
  have hR1 := hf1.blk HR.out HNR.out
  have q0 := hR1.cell (i := 0) rfl
  have hRl1 := hR1.lt
  have HS1 := Lib.hid hs1
  have HX1 := Lib.hid (And.intro hf1 hb1)
  clear hs1 hf1 hb1 hR1
  go_wp2_with fail
  refine (isfix_no 205 (by omega) (by omega) _).mono ?_
  rintro e w' ⟨rfl, rfl⟩
  go_wp2_with fail
  refine (next_any B _ S 3 (by omega) (by omega) _ w1 (HS1.out.less (by omega)) (by simp) HS1.out.kS).mono ?_
  rintro e w2 ⟨a, c, rfl, hv2, hs2, hf2, hb2⟩
  have HS2 := Lib.hid hs2
  have HX2 := Lib.hid (And.intro hf2 hb2)
  have HV2 : Hid (Vw w2 a 3 c (205 :: x1 :: x2 :: [])) := Lib.hid hv2
  clear hs2 hf2 hb2 hv2
  go_wp2_with fail
  refine (getMuint16_any a 3 c 205 x1 x2 [] w2 HV2.out).mono ?_
  rw [← HVV.out]
  rintro e w3 ⟨rfl, hb3⟩
  have HB3 := Lib.hid hb3
  clear hb3
  go_wp2_with fail
  go_ret2
  exact get_fin _ HR.out HNR.out HX1.out.1 HX1.out.2 HS2.out HX2.out.1 HX2.out.2 HB3.out
set_option maxRecDepth 100000 in
set_option maxHeartbeats 4000000 in
theorem rdu_210 (B : Nat) (K : Nat → Prop) (R : Nat) (x1 x2 x3 x4 : Int) (r : List Int) (w : World) (h : Rdr w B K R (210 :: x1 :: x2 :: x3 :: x4 :: r)) (hu : ¬ wrap32 (beN [x1, x2, x3, x4]) < 0) :
    Calls Tryd.prog 57 #[.pointer (some ⟨R, 0, none⟩)] w (GetRes B K R r (.int .u64 (wrap32 (beN [x1, x2, x3, x4]))) w) := by
  obtain ⟨S, sa, sn, sc, d, mr, me, ms, hR, hnR, hS⟩ := h
  have hby := hS.byt
  have q0 := hR.cell (i := 0) rfl
  have hRl := hR.lt
  have HP := Lib.hid (peekByte_any B K S 210 _ w hS)
  have HR := Lib.hid hR
  have HNR := Lib.hid hnR
  clear hS hR hnR
  obtain ⟨v, hv⟩ : ∃ v, v = wrap32 (beN [x1, x2, x3, x4]) := ⟨_, rfl⟩
  have hvb : -2147483648 ≤ v ∧ v ≤ 2147483647 := by rw [hv]; exact i32_bd _
  obtain ⟨hv0, hv1⟩ := hvb
  rw [← hv] at hu
  rw [← hv]
  have HVV := Lib.hid hv
  clear hv hby
  go_enter Tryd.func57, Tryd.ntmps57
  go_wp2_with fail
  refine HP.out.mono ?_
  rintro e w1 ⟨rfl, hs1, hf1, hb1⟩
  have hR1 := hf1.blk HR.out HNR.out
  have q0 := hR1.cell (i := 0) rfl
  have hRl1 := hR1.lt
  have HS1 := Lib.hid hs1
  have HX1 := Lib.hid (And.intro hf1 hb1)
  clear hs1 hf1 hb1 hR1
  go_wp2_with fail
  refine (isfix_no 210 (by omega) (by omega) _).mono ?_
  rintro e w' ⟨rfl, rfl⟩
  go_wp2_with fail
  refine (next_any B _ S 5 (by omega) (by omega) _ w1 (HS1.out.less (by omega)) (by simp) HS1.out.kS).mono ?_
  rintro e w2 ⟨a, c, rfl, hv2, hs2, hf2, hb2⟩
  have HS2 := Lib.hid hs2
  have HX2 := Lib.hid (And.intro hf2 hb2)
  have HV2 : Hid (Vw w2 a 5 c (210 :: x1 :: x2 :: x3 :: x4 :: [])) := Lib.hid hv2
  clear hs2 hf2 hb2 hv2
  go_wp2_with fail
  refine (getMint32_any a 5 c 210 x1 x2 x3 x4 [] w2 HV2.out).mono ?_
  rw [← HVV.out]
  rintro e w3 ⟨rfl, hb3⟩
  have HB3 := Lib.hid hb3
  clear hb3
  go_wp2_with fail
  go_ret2
  exact get_fin _ HR.out HNR.out HX1.out.1 HX1.out.2 HS2.out HX2.out.1 HX2.out.2 HB3.out
set_option maxRecDepth 100000 in
set_option maxHeartbeats 4000000 in
theorem rdu_206 (B : Nat) (K : Nat → Prop) (R : Nat) (x1 x2 x3 x4 : Int) (r : List Int) (w : World) (h : Rdr w B K R (206 :: x1 :: x2 :: x3 :: x4 :: r)) :
    Calls Tryd.prog 57 #[.pointer (some ⟨R, 0, none⟩)] w (GetRes B K R r (.int .u64 (beN [x1, x2, x3, x4])) w) := by
  obtain ⟨S, sa, sn, sc, d, mr, me, ms, hR, hnR, hS⟩ := h
  have hby := hS.byt
  have q0 := hR.cell (i := 0) rfl
  have hRl := hR.lt
  have HP := Lib.hid (peekByte_any B K S 206 _ w hS)
  have HR := Lib.hid hR
  have HNR := Lib.hid hnR
  clear hS hR hnR
  obtain ⟨v, hv⟩ : ∃ v, v = beN [x1, x2, x3, x4] := ⟨_, rfl⟩
  have hvb : 0 ≤ v ∧ v ≤ 4294967295 := by
    have h2 := beN_bds [x1, x2, x3, x4] (fun x hx => hby x (by simp at hx ⊢; omega))
    rw [← hv] at h2
    have h3 : ((256 ^ [x1, x2, x3, x4].length : Nat) : Int) = 4294967296 := by simp
    omega
  obtain ⟨hv0, hv1⟩ := hvb
  rw [← hv]
  have HVV := Lib.hid hv
  clear hv hby
  go_enter Tryd.func57, Tryd.ntmps57
  go_wp2_with fail
  refine HP.out.mono ?_
  rintro e w1 ⟨rfl, hs1, hf1, hb1⟩
  have hR1 := hf1.blk HR.out HNR.out
  have q0 := hR1.cell (i := 0) rfl
  have hRl1 := hR1.lt
  have HS1 := Lib.hid hs1
  have HX1 := Lib.hid (And.intro hf1 hb1)
  clear hs1 hf1 hb1 hR1
  go_wp2_with fail
  refine (isfix_no 206 (by omega) (by omega) _).mono ?_
  rintro e w' ⟨rfl, rfl⟩
  go_wp2_with fail
  refine (next_any B _ S 5 (by omega) (by omega) _ w1 (HS1.out.less (by omega)) (by simp) HS1.out.kS).mono ?_
  rintro e w2 ⟨a, c, rfl, hv2, hs2, hf2, hb2⟩
  have HS2 := Lib.hid hs2
  have HX2 := Lib.hid (And.intro hf2 hb2)
  have HV2 : Hid (Vw w2 a 5 c (206 :: x1 :: x2 :: x3 :: x4 :: [])) := Lib.hid hv2
  clear hs2 hf2 hb2 hv2
  go_wp2_with fail
  refine (getMuint32_any a 5 c 206 x1 x2 x3 x4 [] w2 HV2.out).mono ?_
  rw [← HVV.out]
  rintro e w3 ⟨rfl, hb3⟩
  have HB3 := Lib.hid hb3
  clear hb3
  go_wp2_with fail
  go_ret2
  exact get_fin _ HR.out HNR.out HX1.out.1 HX1.out.2 HS2.out HX2.out.1 HX2.out.2 HB3.out
set_option maxRecDepth 100000 in
set_option maxHeartbeats 4000000 in
theorem rdu_211 (B : Nat) (K : Nat → Prop) (R : Nat) (x1 x2 x3 x4 x5 x6 x7 x8 : Int) (r : List Int) (w : World) (h : Rdr w B K R (211 :: x1 :: x2 :: x3 :: x4 :: x5 :: x6 :: x7 :: x8 :: r)) (hu : ¬ wrap64 (beN [x1, x2, x3, x4, x5, x6, x7, x8]) < 0) :
    Calls Tryd.prog 57 #[.pointer (some ⟨R, 0, none⟩)] w (GetRes B K R r (.int .u64 (wrap64 (beN [x1, x2, x3, x4, x5, x6, x7, x8]))) w) := by
  obtain ⟨S, sa, sn, sc, d, mr, me, ms, hR, hnR, hS⟩ := h
  have hby := hS.byt
  have q0 := hR.cell (i := 0) rfl
  have hRl := hR.lt
  have HP := Lib.hid (peekByte_any B K S 211 _ w hS)
  have HR := Lib.hid hR
  have HNR := Lib.hid hnR
  clear hS hR hnR
  obtain ⟨v, hv⟩ : ∃ v, v = wrap64 (beN [x1, x2, x3, x4, x5, x6, x7, x8]) := ⟨_, rfl⟩
  have hvb : -9223372036854775808 ≤ v ∧ v ≤ 9223372036854775807 := by rw [hv]; exact i64_bd _
  obtain ⟨hv0, hv1⟩ := hvb
  rw [← hv] at hu
  rw [← hv]
  have HVV := Lib.hid hv
  clear hv hby
  go_enter Tryd.func57, Tryd.ntmps57
  go_wp2_with fail
  refine HP.out.mono ?_
  rintro e w1 ⟨rfl, hs1, hf1, hb1⟩
  have hR1 := hf1.blk HR.out HNR.out
  have q0 := hR1.cell (i := 0) rfl
  have hRl1 := hR1.lt
  have HS1 := Lib.hid hs1
  have HX1 := Lib.hid (And.intro hf1 hb1)
  clear hs1 hf1 hb1 hR1
  go_wp2_with fail
  refine (isfix_no 211 (by omega) (by omega) _).mono ?_
  rintro e w' ⟨rfl, rfl⟩
  go_wp2_with fail
  refine (next_any B _ S 9 (by omega) (by omega) _ w1 (HS1.out.less (by omega)) (by simp) HS1.out.kS).mono ?_
  rintro e w2 ⟨a, c, rfl, hv2, hs2, hf2, hb2⟩
  have HS2 := Lib.hid hs2
  have HX2 := Lib.hid (And.intro hf2 hb2)
  have HV2 : Hid (Vw w2 a 9 c (211 :: x1 :: x2 :: x3 :: x4 :: x5 :: x6 :: x7 :: x8 :: [])) := Lib.hid hv2
  clear hs2 hf2 hb2 hv2
  go_wp2_with fail
  refine (getMint64_any a 9 c 211 x1 x2 x3 x4 x5 x6 x7 x8 [] w2 HV2.out).mono ?_
  rw [← HVV.out]
  rintro e w3 ⟨rfl, hb3⟩
  have HB3 := Lib.hid hb3
  clear hb3
  go_wp2_with fail
  go_ret2
  exact get_fin _ HR.out HNR.out HX1.out.1 HX1.out.2 HS2.out HX2.out.1 HX2.out.2 HB3.out
set_option maxRecDepth 100000 in
set_option maxHeartbeats 4000000 in
theorem rdu_207 (B : Nat) (K : Nat → Prop) (R : Nat) (x1 x2 x3 x4 x5 x6 x7 x8 : Int) (r : List Int) (w : World) (h : Rdr w B K R (207 :: x1 :: x2 :: x3 :: x4 :: x5 :: x6 :: x7 :: x8 :: r)) :
    Calls Tryd.prog 57 #[.pointer (some ⟨R, 0, none⟩)] w (GetRes B K R r (.int .u64 (beN [x1, x2, x3, x4, x5, x6, x7, x8])) w) := by
  obtain ⟨S, sa, sn, sc, d, mr, me, ms, hR, hnR, hS⟩ := h
  have hby := hS.byt
  have q0 := hR.cell (i := 0) rfl
  have hRl := hR.lt
  have HP := Lib.hid (peekByte_any B K S 207 _ w hS)
  have HR := Lib.hid hR
  have HNR := Lib.hid hnR
  clear hS hR hnR
  obtain ⟨v, hv⟩ : ∃ v, v = beN [x1, x2, x3, x4, x5, x6, x7, x8] := ⟨_, rfl⟩
  have hvb : 0 ≤ v ∧ v ≤ 18446744073709551615 := by
    have h2 := beN_bds [x1, x2, x3, x4, x5, x6, x7, x8] (fun x hx => hby x (by simp at hx ⊢; omega))
    rw [← hv] at h2
    have h3 : ((256 ^ [x1, x2, x3, x4, x5, x6, x7, x8].length : Nat) : Int) = 18446744073709551616 := by simp
    omega
  obtain ⟨hv0, hv1⟩ := hvb
  rw [← hv]
  have HVV := Lib.hid hv
  clear hv hby
  go_enter Tryd.func57, Tryd.ntmps57
  go_wp2_with fail
  refine HP.out.mono ?_
  rintro e w1 ⟨rfl, hs1, hf1, hb1⟩
  have hR1 := hf1.blk HR.out HNR.out
  have q0 := hR1.cell (i := 0) rfl
  have hRl1 := hR1.lt
  have HS1 := Lib.hid hs1
  have HX1 := Lib.hid (And.intro hf1 hb1)
  clear hs1 hf1 hb1 hR1
  go_wp2_with fail
  refine (isfix_no 207 (by omega) (by omega) _).mono ?_
  rintro e w' ⟨rfl, rfl⟩
  go_wp2_with fail
  refine (next_any B _ S 9 (by omega) (by omega) _ w1 (HS1.out.less (by omega)) (by simp) HS1.out.kS).mono ?_
  rintro e w2 ⟨a, c, rfl, hv2, hs2, hf2, hb2⟩
  have HS2 := Lib.hid hs2
  have HX2 := Lib.hid (And.intro hf2 hb2)
  have HV2 : Hid (Vw w2 a 9 c (207 :: x1 :: x2 :: x3 :: x4 :: x5 :: x6 :: x7 :: x8 :: [])) := Lib.hid hv2
  clear hs2 hf2 hb2 hv2
  go_wp2_with fail
  refine (getMuint64_any a 9 c 207 x1 x2 x3 x4 x5 x6 x7 x8 [] w2 HV2.out).mono ?_
  rw [← HVV.out]
  rintro e w3 ⟨rfl, hb3⟩
  have HB3 := Lib.hid hb3
  clear hb3
  go_wp2_with fail
  go_ret2
  exact get_fin _ HR.out HNR.out HX1.out.1 HX1.out.2 HS2.out HX2.out.1 HX2.out.2 HB3.out
theorem rdu_good (B : Nat) (K : Nat → Prop) (R : Nat) (tot : List Int) (u : Int) (k : Nat) (hd : dUint tot = some (u, k)) (w : World) (h : Rdr w B K R tot) :
    Calls Tryd.prog 57 #[.pointer (some ⟨R, 0, none⟩)] w (GetRes B K R (tot.drop k) (.int .u64 u) w) := by
  unfold dUint at hd
  by_cases h1 : tot.length < 1
  · rw [if_pos h1] at hd; cases hd
  rw [if_neg h1] at hd
  have s1 : tot = tot.getD 0 0 :: tot.drop 1 := by
    rcases tot with _ | ⟨a, t⟩
    · simp at h1
    · rfl
  by_cases z0 : tot.getD 0 0 < 128
  · rw [if_pos z0] at hd
    injection hd with hd; injection hd with x y; subst x; subst y
    rw [s1] at h
    have := rdu_fix B K R _ _ w h z0
    exact this
  rw [if_neg z0] at hd
  by_cases z208 : tot.getD 0 0 = 208
  · rw [if_pos z208] at hd
    by_cases h2 : tot.length < 2
    · rw [if_pos h2] at hd; cases hd
    rw [if_neg h2] at hd
    by_cases h3 : IntKind.i8.wrap (tot.getD 1 0) < 0
    · rw [if_pos h3] at hd; cases hd
    rw [if_neg h3] at hd
    injection hd with hd; injection hd with x y; subst x; subst y
    have s2 := spl2 tot h2
    rw [z208] at s2
    rw [s2] at h
    exact rdu_208 B K R _ _ w h h3
  rw [if_neg z208] at hd
  by_cases z204 : tot.getD 0 0 = 204
  · rw [if_pos z204] at hd
    by_cases h2 : tot.length < 2
    · rw [if_pos h2] at hd; cases hd
    rw [if_neg h2] at hd
    injection hd with hd; injection hd with x y; subst x; subst y
    have s2 := spl2 tot h2
    rw [z204] at s2
    rw [s2] at h
    exact rdu_204 B K R _ _ w h
  rw [if_neg z204] at hd
  by_cases z209 : tot.getD 0 0 = 209
  · rw [if_pos z209] at hd
    by_cases h2 : tot.length < 3
    · rw [if_pos h2] at hd; cases hd
    rw [if_neg h2] at hd
    by_cases h3 : IntKind.i16.wrap (beN [tot.getD 1 0, tot.getD 2 0]) < 0
    · rw [if_pos h3] at hd; cases hd
    rw [if_neg h3] at hd
    injection hd with hd; injection hd with x y; subst x; subst y
    have s2 := spl3 tot h2
    rw [z209] at s2
    rw [s2] at h
    exact rdu_209 B K R _ _ _ w h h3
  rw [if_neg z209] at hd
  by_cases z205 : tot.getD 0 0 = 205
  · rw [if_pos z205] at hd
    by_cases h2 : tot.length < 3
    · rw [if_pos h2] at hd; cases hd
    rw [if_neg h2] at hd
    injection hd with hd; injection hd with x y; subst x; subst y
    have s2 := spl3 tot h2
    rw [z205] at s2
    rw [s2] at h
    exact rdu_205 B K R _ _ _ w h
  rw [if_neg z205] at hd
  by_cases z210 : tot.getD 0 0 = 210
  · rw [if_pos z210] at hd
    by_cases h2 : tot.length < 5
    · rw [if_pos h2] at hd; cases hd
    rw [if_neg h2] at hd
    by_cases h3 : wrap32 (beN [tot.getD 1 0, tot.getD 2 0, tot.getD 3 0, tot.getD 4 0]) < 0
    · rw [if_pos h3] at hd; cases hd
    rw [if_neg h3] at hd
    injection hd with hd; injection hd with x y; subst x; subst y
    have s2 := spl5 tot h2
    rw [z210] at s2
    rw [s2] at h
    exact rdu_210 B K R _ _ _ _ _ w h h3
  rw [if_neg z210] at hd
  by_cases z206 : tot.getD 0 0 = 206
  · rw [if_pos z206] at hd
    by_cases h2 : tot.length < 5
    · rw [if_pos h2] at hd; cases hd
    rw [if_neg h2] at hd
    injection hd with hd; injection hd with x y; subst x; subst y
    have s2 := spl5 tot h2
    rw [z206] at s2
    rw [s2] at h
    exact rdu_206 B K R _ _ _ _ _ w h
  rw [if_neg z206] at hd
  by_cases z211 : tot.getD 0 0 = 211
  · rw [if_pos z211] at hd
    by_cases h2 : tot.length < 9
    · rw [if_pos h2] at hd; cases hd
    rw [if_neg h2] at hd
    by_cases h3 : wrap64 (beN [tot.getD 1 0, tot.getD 2 0, tot.getD 3 0, tot.getD 4 0, tot.getD 5 0, tot.getD 6 0, tot.getD 7 0, tot.getD 8 0]) < 0
    · rw [if_pos h3] at hd; cases hd
    rw [if_neg h3] at hd
    injection hd with hd; injection hd with x y; subst x; subst y
    have s2 := spl9 tot h2
    rw [z211] at s2
    rw [s2] at h
    exact rdu_211 B K R _ _ _ _ _ _ _ _ _ w h h3
  rw [if_neg z211] at hd
  by_cases z207 : tot.getD 0 0 = 207
  · rw [if_pos z207] at hd
    by_cases h2 : tot.length < 9
    · rw [if_pos h2] at hd; cases hd
    rw [if_neg h2] at hd
    injection hd with hd; injection hd with x y; subst x; subst y
    have s2 := spl9 tot h2
    rw [z207] at s2
    rw [s2] at h
    exact rdu_207 B K R _ _ _ _ _ _ _ _ _ w h
  rw [if_neg z207] at hd
  cases hd
end Go.Proofs.YtfaangichifbgaaDoor
