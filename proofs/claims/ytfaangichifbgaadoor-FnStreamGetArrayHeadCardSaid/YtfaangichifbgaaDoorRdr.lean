/- A Reader of MessagePack over a source; (*msgp.Reader).ReadInt64, ReadUint64. -/
import Derived.Test.YtfaangichifbgaaDoorPeek
import Derived.Test.YtfaangichifbgaaDoorGetM
import Derived.Test.YtfaangichifbgaaDoorIntP
namespace Go.Proofs.YtfaangichifbgaaDoor
open Go.RowKit
set_option linter.unusedVariables false
set_option linter.unusedSimpArgs false

theorem Src.kS {w : World} {B : Nat} {K : Nat → Prop} {S n : Nat} {tot : List Int} (h : Src w B K S n tot) : K S := by
  obtain ⟨D, ra, rn, rc, p, sz, room, da, dn, dc, rest, ch, hs, ht, hp⟩ := h
  exact hs.kS
theorem Src.lt {w : World} {B : Nat} {K : Nat → Prop} {S n : Nat} {tot : List Int} (h : Src w B K S n tot) : B ≤ S ∧ S < w.heap.size := by
  obtain ⟨D, ra, rn, rc, p, sz, room, da, dn, dc, rest, ch, hs, ht, hp⟩ := h
  exact ⟨hs.bS, hs.hS.lt⟩
theorem Src.byt {w : World} {B : Nat} {K : Nat → Prop} {S n : Nat} {tot : List Int} (h : Src w B K S n tot) : ∀ x ∈ tot, 0 ≤ x ∧ x ≤ 255 := by
  obtain ⟨D, ra, rn, rc, p, sz, room, da, dn, dc, rest, ch, hs, ht, hp⟩ := h
  intro x hx
  rw [ht] at hx
  rcases List.mem_append.1 hx with h1 | h1
  · exact hs.hO.vw.byt x (List.mem_of_mem_drop h1)
  · exact hs.hv.byt x h1

/-- A Reader at block R, over a source from which these bytes come yet. -/
def Rdr (w : World) (B : Nat) (K : Nat → Prop) (R : Nat) (tot : List Int) : Prop :=
  ∃ (S : Nat) (sa : Option Addr) (sn sc : Nat) (d mr me ms : Int), Blk w R 90 #[.pointer (some ⟨S, 0, none⟩), .slice sa sn sc, .int .i64 d, .int .i64 mr, .int .u32 me, .int .u64 ms] ∧ ¬ K R ∧ Src w B K S 0 tot
theorem Rdr.within {w : World} {B : Nat} {K : Nat → Prop} {R : Nat} {tot : List Int} (h : Rdr w B K R tot) : Rdr w B (fun b => K b ∧ b < w.heap.size) R tot := by
  obtain ⟨S, sa, sn, sc, d, mr, me, ms, hR, hn, hS⟩ := h
  exact ⟨S, sa, sn, sc, d, mr, me, ms, hR, fun e => hn e.1, hS.within⟩
theorem Rdr.below {w w' : World} {B : Nat} {K : Nat → Prop} {R : Nat} {tot : List Int} (h : Rdr w B K R tot) (hb : Below w.heap.size w w') : Rdr w' B K R tot := by
  obtain ⟨S, sa, sn, sc, d, mr, me, ms, hR, hn, hS⟩ := h
  exact ⟨S, sa, sn, sc, d, mr, me, ms, hR.below hb hR.lt, hn, hS.below hb⟩
theorem Rdr.lt {w : World} {B : Nat} {K : Nat → Prop} {R : Nat} {tot : List Int} (h : Rdr w B K R tot) : R < w.heap.size ∧ B ≤ w.heap.size := by
  obtain ⟨S, sa, sn, sc, d, mr, me, ms, hR, hn, hS⟩ := h
  exact ⟨hR.lt, by have := hS.lt; omega⟩

/-- A value read. -/
def GetRes (B : Nat) (K : Nat → Prop) (R : Nat) (rest : List Int) (v : Value) (w : World) (e : Ending) (w' : World) : Prop :=
  e = .returned (.tuple #[v, Value.nilIface]) ∧ Rdr w' B (fun b => K b ∨ w.heap.size ≤ b) R rest ∧ Frm w w' K ∧ Below B w w'

theorem get_fin {w w1 w2 w3 : World} {B : Nat} {K : Nat → Prop} {R S : Nat} {sa : Option Addr} {sn sc : Nat} {d mr me ms : Int} {rest : List Int} (v : Value) (hR : Blk w R 90 #[.pointer (some ⟨S, 0, none⟩), .slice sa sn sc, .int .i64 d, .int .i64 mr, .int .u32 me, .int .u64 ms]) (hn : ¬ K R)
    (hf1 : Frm w w1 K) (hb1 : Below B w w1) (hs2 : Src w2 B (fun b => (K b ∨ w.heap.size ≤ b) ∨ w1.heap.size ≤ b) S 0 rest) (hf2 : Frm w1 w2 (fun b => K b ∨ w.heap.size ≤ b)) (hb2 : Below B w1 w2) (hb3 : Below w2.heap.size w2 w3) :
    GetRes B K R rest v w (.returned (.tuple #[v, Value.nilIface])) w3 := by
  have hRl := hR.lt
  have hf12 := hf1.trans2 hf2
  have hf13 := hf12.trans (Frm.below hb3 K)
  have hs3 := (hs2.mono (K' := fun b => K b ∨ w.heap.size ≤ b) (fun b h => by rcases h with h | h; exact h; exact .inr (Nat.le_trans hf1.1 h))).below hb3
  exact ⟨rfl, ⟨S, sa, sn, sc, d, mr, me, ms, hf13.blk hR hn, by rintro (e | e); exact hn e; omega, hs3⟩, hf13, (hb1.trans hb2).trans (hb3.mono (by have := hs2.lt; omega))⟩

theorem spl2 (l : List Int) (h : ¬ l.length < 2) : l = l.getD 0 0 :: l.getD 1 0 :: l.drop 2 := by
  rcases l with _ | ⟨a0, _ | ⟨a1, t⟩⟩
  · simp at h
  · simp at h
  · rfl
theorem spl3 (l : List Int) (h : ¬ l.length < 3) : l = l.getD 0 0 :: l.getD 1 0 :: l.getD 2 0 :: l.drop 3 := by
  rcases l with _ | ⟨a0, _ | ⟨a1, _ | ⟨a2, t⟩⟩⟩
  · simp at h
  · simp at h
  · simp at h
  · rfl
theorem spl5 (l : List Int) (h : ¬ l.length < 5) : l = l.getD 0 0 :: l.getD 1 0 :: l.getD 2 0 :: l.getD 3 0 :: l.getD 4 0 :: l.drop 5 := by
  rcases l with _ | ⟨a0, _ | ⟨a1, _ | ⟨a2, _ | ⟨a3, _ | ⟨a4, t⟩⟩⟩⟩⟩
  · simp at h
  · simp at h
  · simp at h
  · simp at h
  · simp at h
  · rfl
theorem spl9 (l : List Int) (h : ¬ l.length < 9) : l = l.getD 0 0 :: l.getD 1 0 :: l.getD 2 0 :: l.getD 3 0 :: l.getD 4 0 :: l.getD 5 0 :: l.getD 6 0 :: l.getD 7 0 :: l.getD 8 0 :: l.drop 9 := by
  rcases l with _ | ⟨a0, _ | ⟨a1, _ | ⟨a2, _ | ⟨a3, _ | ⟨a4, _ | ⟨a5, _ | ⟨a6, _ | ⟨a7, _ | ⟨a8, t⟩⟩⟩⟩⟩⟩⟩⟩⟩
  · simp at h
  · simp at h
  · simp at h
  · simp at h
  · simp at h
  · simp at h
  · simp at h
  · simp at h
  · simp at h
  · rfl
set_option maxRecDepth 100000 in
set_option maxHeartbeats 4000000 in
theorem rdi_fix (B : Nat) (K : Nat → Prop) (R : Nat) (z : Int) (r : List Int) (w : World) (h : Rdr w B K R (z :: r)) (hz : z < 128) :
    Calls Tryd.prog 56 #[.pointer (some ⟨R, 0, none⟩)] w (GetRes B K R r (.int .i64 (z)) w) := by
  obtain ⟨S, sa, sn, sc, d, mr, me, ms, hR, hnR, hS⟩ := h
  have hby := hS.byt
  have q0 := hR.cell (i := 0) rfl
  have hRl := hR.lt
  have HP := Lib.hid (peekByte_any B K S z _ w hS)
  have HR := Lib.hid hR
  have HNR := Lib.hid hnR
  clear hS hR hnR
  obtain ⟨hz0, hz1⟩ := hby z (by simp)
  clear hby
  go_enter Tryd.func56, Tryd.ntmps56
  go_wp2_with fail
  refine HP.out.mono ?_
  rintro e w1 ⟨rfl, hs1, hf1, hb1⟩
  have hR1 := hf1.blk HR.out HNR.out
  have q0 := hR1.cell (i := 0) rfl
  have hRl1 := hR1.lt
  have HS1 := Lib.hid hs1
  have HX1 := Lib.hid (And.intro hf1 hb1)
  clear hs1 hf1 hb1 hR1
  go_wp2_with fail
  refine (isfix_yes z (by omega) (by omega) _).mono ?_
  rintro e w' ⟨rfl, rfl⟩
  go_wp2_with fail
  refine (rfix_any z (by omega) (by omega) _).mono ?_
  rintro e w' ⟨rfl, rfl⟩
  go_wp2_with fail
  refine (skip_any B _ S 1 (by omega) (by omega) _ w1 (HS1.out.less (by omega)) (by simp) HS1.out.kS).mono ?_
  rintro e w2 ⟨rfl, hs2, hf2, hb2⟩
  have HS2 := Lib.hid hs2
  have HX2 := Lib.hid (And.intro hf2 hb2)
  clear hs2 hf2 hb2
  go_wp2_with fail
  go_ret2
  exact get_fin _ HR.out HNR.out HX1.out.1 HX1.out.2 HS2.out HX2.out.1 HX2.out.2 (Below.refl _ _)
set_option maxRecDepth 100000 in
set_option maxHeartbeats 4000000 in
theorem rdi_nfix (B : Nat) (K : Nat → Prop) (R : Nat) (z : Int) (r : List Int) (w : World) (h : Rdr w B K R (z :: r)) (hz : 224 ≤ z) :
    Calls Tryd.prog 56 #[.pointer (some ⟨R, 0, none⟩)] w (GetRes B K R r (.int .i64 (z - 256)) w) := by
  obtain ⟨S, sa, sn, sc, d, mr, me, ms, hR, hnR, hS⟩ := h
  have hby := hS.byt
  have q0 := hR.cell (i := 0) rfl
  have hRl := hR.lt
  have HP := Lib.hid (peekByte_any B K S z _ w hS)
  have HR := Lib.hid hR
  have HNR := Lib.hid hnR
  clear hS hR hnR
  obtain ⟨hz0, hz1⟩ := hby z (by simp)
  clear hby
  have hd224 : decide (224 ≤ z) = true := by simpa using hz
  go_enter Tryd.func56, Tryd.ntmps56
  go_wp2_with fail
  refine HP.out.mono ?_
  rintro e w1 ⟨rfl, hs1, hf1, hb1⟩
  have hR1 := hf1.blk HR.out HNR.out
  have q0 := hR1.cell (i := 0) rfl
  have hRl1 := hR1.lt
  have HS1 := Lib.hid hs1
  have HX1 := Lib.hid (And.intro hf1 hb1)
  clear hs1 hf1 hb1 hR1
  go_wp2_with fail
  refine (isfix_no z (by omega) (by omega) _).mono ?_
  rintro e w' ⟨rfl, rfl⟩
  go_wp2_with fail
  refine (isnfix_any z (by omega) (by omega) _).mono ?_
  rintro e w' ⟨rfl, rfl⟩
  go_wp2_with fail
  refine (rnfix_any z (by omega) (by omega) _).mono ?_
  rintro e w' ⟨rfl, rfl⟩
  go_wp2_with fail
  refine (skip_any B _ S 1 (by omega) (by omega) _ w1 (HS1.out.less (by omega)) (by simp) HS1.out.kS).mono ?_
  rintro e w2 ⟨rfl, hs2, hf2, hb2⟩
  have HS2 := Lib.hid hs2
  have HX2 := Lib.hid (And.intro hf2 hb2)
  clear hs2 hf2 hb2
  go_wp2_with fail
  go_ret2
  exact get_fin _ HR.out HNR.out HX1.out.1 HX1.out.2 HS2.out HX2.out.1 HX2.out.2 (Below.refl _ _)
set_option maxRecDepth 100000 in
set_option maxHeartbeats 4000000 in
theorem rdi_208 (B : Nat) (K : Nat → Prop) (R : Nat) (x1 : Int) (r : List Int) (w : World) (h : Rdr w B K R (208 :: x1 :: r)) :
    Calls Tryd.prog 56 #[.pointer (some ⟨R, 0, none⟩)] w (GetRes B K R r (.int .i64 (IntKind.i8.wrap x1)) w) := by
  obtain ⟨S, sa, sn, sc, d, mr, me, ms, hR, hnR, hS⟩ := h
  have hby := hS.byt
  have q0 := hR.cell (i := 0) rfl
  have hRl := hR.lt
  have HP := Lib.hid (peekByte_any B K S 208 _ w hS)
  have HR := Lib.hid hR
  have HNR := Lib.hid hnR
  clear hS hR hnR
  obtain ⟨v, hv⟩ : ∃ v, v = IntKind.i8.wrap x1 := ⟨_, rfl⟩
  have hvb : -128 ≤ v ∧ v ≤ 127 := by rw [hv]; exact i8_bd _
  obtain ⟨hv0, hv1⟩ := hvb
  rw [← hv]
  have HVV := Lib.hid hv
  clear hv hby
  go_enter Tryd.func56, Tryd.ntmps56
  go_wp2_with fail
  refine HP.out.mono ?_
  rintro e w1 ⟨rfl, hs1, hf1, hb1⟩
  have hR1 := hf1.blk HR.out HNR.out
  have q0 := hR1.cell (i := 0) rfl
  have hRl1 := hR1.lt
  have HS1 := Lib.hid hs1
  have HX1 := Lib.hid (And.intro hf1 hb1)
  clear hs1 hf1 hb1 hR1
  go_wp2_with fail
  refine (isfix_no 208 (by omega) (by omega) _).mono ?_
  rintro e w' ⟨rfl, rfl⟩
  go_wp2_with fail
  refine (isnfix_any 208 (by omega) (by omega) _).mono ?_
  rintro e w' ⟨rfl, rfl⟩
  go_wp2_with fail
  refine (next_any B _ S 2 (by omega) (by omega) _ w1 (HS1.out.less (by omega)) (by simp) HS1.out.kS).mono ?_
  rintro e w2 ⟨a, c, rfl, hv2, hs2, hf2, hb2⟩
  have HS2 := Lib.hid hs2
  have HX2 := Lib.hid (And.intro hf2 hb2)
  have HV2 : Hid (Vw w2 a 2 c (208 :: x1 :: [])) := Lib.hid hv2
  clear hs2 hf2 hb2 hv2
  go_wp2_with fail
  refine (getMint8_any a 2 c 208 x1 [] w2 HV2.out).mono ?_
  rw [← HVV.out]
  rintro e w3 ⟨rfl, hb3⟩
  have HB3 := Lib.hid hb3
  clear hb3
  go_wp2_with fail
  go_ret2
  exact get_fin _ HR.out HNR.out HX1.out.1 HX1.out.2 HS2.out HX2.out.1 HX2.out.2 HB3.out
set_option maxRecDepth 100000 in
set_option maxHeartbeats 4000000 in
theorem rdi_204 (B : Nat) (K : Nat → Prop) (R : Nat) (x1 : Int) (r : List Int) (w : World) (h : Rdr w B K R (204 :: x1 :: r)) :
    Calls Tryd.prog 56 #[.pointer (some ⟨R, 0, none⟩)] w (GetRes B K R r (.int .i64 (x1)) w) := by
  obtain ⟨S, sa, sn, sc, d, mr, me, ms, hR, hnR, hS⟩ := h
  have hby := hS.byt
  have q0 := hR.cell (i := 0) rfl
  have hRl := hR.lt
  have HP := Lib.hid (peekByte_any B K S 204 _ w hS)
  have HR := Lib.hid hR
  have HNR := Lib.hid hnR
  clear hS hR hnR
  obtain ⟨v, hv⟩ : ∃ v, v = x1 := ⟨_, rfl⟩
  have hvb : 0 ≤ v ∧ v ≤ 255 := by have := hby x1 (by simp); omega
  obtain ⟨hv0, hv1⟩ := hvb
  rw [← hv]
  have HVV := Lib.hid hv
  clear hv hby
  go_enter Tryd.func56, Tryd.ntmps56
  go_wp2_with fail
  refine HP.out.mono ?_
  rintro e w1 ⟨rfl, hs1, hf1, hb1⟩
  have hR1 := hf1.blk HR.out HNR.out
  have q0 := hR1.cell (i := 0) rfl
  have hRl1 := hR1.lt
  have HS1 := Lib.hid hs1
  have HX1 := Lib.hid (And.intro hf1 hb1)
  clear hs1 hf1 hb1 hR1
  go_wp2_with fail
  refine (isfix_no 204 (by omega) (by omega) _).mono ?_
  rintro e w' ⟨rfl, rfl⟩
  go_wp2_with fail
  refine (isnfix_any 204 (by omega) (by omega) _).mono ?_
  rintro e w' ⟨rfl, rfl⟩
  go_wp2_with fail
  refine (next_any B _ S 2 (by omega) (by omega) _ w1 (HS1.out.less (by omega)) (by simp) HS1.out.kS).mono ?_
  rintro e w2 ⟨a, c, rfl, hv2, hs2, hf2, hb2⟩
  have HS2 := Lib.hid hs2
  have HX2 := Lib.hid (And.intro hf2 hb2)
  have HV2 : Hid (Vw w2 a 2 c (204 :: x1 :: [])) := Lib.hid hv2
  clear hs2 hf2 hb2 hv2
  go_wp2_with fail
  refine (getMuint8_any a 2 c 204 x1 [] w2 HV2.out).mono ?_
  rw [← HVV.out]
  rintro e w3 ⟨rfl, hb3⟩
  have HB3 := Lib.hid hb3
  clear hb3
  go_wp2_with fail
  go_ret2
  exact get_fin _ HR.out HNR.out HX1.out.1 HX1.out.2 HS2.out HX2.out.1 HX2.out.2 HB3.out
set_option maxRecDepth 100000 in
set_option maxHeartbeats 4000000 in
theorem rdi_209 (B : Nat) (K : Nat → Prop) (R : Nat) (x1 x2 : Int) (r : List Int) (w : World) (h : Rdr w B K R (209 :: x1 :: x2 :: r)) :
    Calls Tryd.prog 56 #[.pointer (some ⟨R, 0, none⟩)] w (GetRes B K R r (.int .i64 (IntKind.i16.wrap (beN [x1, x2]))) w) := by
  obtain ⟨S, sa, sn, sc, d, mr, me, ms, hR, hnR, hS⟩ := h
  have hby := hS.byt
  have q0 := hR.cell (i := 0) rfl
  have hRl := hR.lt
  have HP := Lib.hid (peekByte_any B K S 209 _ w hS)
  have HR := Lib.hid hR
  have HNR := Lib.hid hnR
  clear hS hR hnR
  obtain ⟨v, hv⟩ : ∃ v, v = IntKind.i16.wrap (beN [x1, x2]) := ⟨_, rfl⟩
  have hvb : -32768 ≤ v ∧ v ≤ 32767 := by rw [hv]; exact i16_bd _
  obtain ⟨hv0, hv1⟩ := hvb
  rw [← hv]
  have HVV := Lib.hid hv
  clear hv hby
  go_enter Tryd.func56, Tryd.ntmps56
  go_wp2_with fail
  refine HP.out.mono ?_
  rintro e w1 ⟨rfl, hs1, hf1, hb1⟩
  have hR1 := hf1.blk HR.out HNR.out
  have q0 := hR1.cell (i := 0) rfl
  have hRl1 := hR1.lt
  have HS1 := Lib.hid hs1
  have HX1 := Lib.hid (And.intro hf1 hb1)
  clear hs1 hf1 hb1 hR1
  go_wp2_with fail
  refine (isfix_no 209 (by omega) (by omega) _).mono ?_
  rintro e w' ⟨rfl, rfl⟩
  go_wp2_with fail
  refine (isnfix_any 209 (by omega) (by omega) _).mono ?_
  rintro e w' ⟨rfl, rfl⟩
  go_wp2_with fail
  refine (next_any B _ S 3 (by omega) (by omega) _ w1 (HS1.out.less (by omega)) (by simp) HS1.out.kS).mono ?_
  rintro e w2 ⟨a, c, rfl, hv2, hs2, hf2, hb2⟩
  have HS2 := Lib.hid hs2
  have HX2 := Lib.hid (And.intro hf2 hb2)
  have HV2 : Hid (Vw w2 a 3 c (209 :: x1 :: x2 :: [])) := Lib.hid hv2
  clear hs2 hf2 hb2 hv2
  go_wp2_with fail
  refine (getMint16_any a 3 c 209 x1 x2 [] w2 HV2.out).mono ?_
  rw [← HVV.out]
  rintro e w3 ⟨rfl, hb3⟩
  have HB3 := Lib.hid hb3
  clear hb3
  go_wp2_with fail
  go_ret2
  exact get_fin _ HR.out HNR.out HX1.out.1 HX1.out.2 HS2.out HX2.out.1 HX2.out.2 HB3.out
set_option maxRecDepth 100000 in
set_option maxHeartbeats 4000000 in
theorem rdi_205 (B : Nat) (K : Nat → Prop) (R : Nat) (x1 x2 : Int) (r : List Int) (w : World) (h : Rdr w B K R (205 :: x1 :: x2 :: r)) :
    Calls Tryd.prog 56 #[.pointer (some ⟨R, 0, none⟩)] w (GetRes B K R r (.int .i64 (beN [x1, x2])) w) := by
  obtain ⟨S, sa, sn, sc, d, mr, me, ms, hR, hnR, hS⟩ := h
  have hby := hS.byt
  have q0 := hR.cell (i := 0) rfl
  have hRl := hR.lt
  have HP := Lib.hid (peekByte_any B K S 205 _ w hS)
  have HR := Lib.hid hR
  have HNR := Lib.hid hnR
  clear hS hR hnR
  obtain ⟨v, hv⟩ : ∃ v, v = beN [x1, x2] := ⟨_, rfl⟩
  have hvb : 0 ≤ v ∧ v ≤ 65535 := by
    have h2 := beN_bds [x1, x2] (fun x hx => hby x (by simp at hx ⊢; omega))
    rw [← hv] at h2
    have h3 : ((256 ^ [x1, x2].length : Nat) : Int) = 65536 := by simp
    omega
  obtain ⟨hv0, hv1⟩ := hvb
  rw [← hv]
  have HVV := Lib.hid hv
  clear hv hby
  go_enter Tryd.func56, Tryd.ntmps56
  go_wp2_with fail
  refine HP.out.mono ?_
  rintro e w1 ⟨rfl, hs1, hf1, hb1⟩
  have hR1 := hf1.blk HR.out HNR.out
  have q0 := hR1.cell (i := 0) rfl
  have hRl1 := hR1.lt
  have HS1 := Lib.hid hs1
  have HX1 := Lib.hid (And.intro hf1 hb1)
  clear hs1 hf1 hb1 hR1
  go_wp2_with fail
  refine (isfix_no 205 (by omega) (by omega) _).mono ?_
  rintro e w' ⟨rfl, rfl⟩
  go_wp2_with fail
  refine (isnfix_any 205 (by omega) (by omega) _).mono ?_
  rintro e w' ⟨rfl, rfl⟩
  go_wp2_with fail
  refine (next_any B _ S 3 (by omega) (by omega) _ w1 (HS1.out.less (by omega)) (by simp) HS1.out.kS).mono ?_
  rintro e w2 ⟨a, c, rfl, hv2, hs2, hf2, hb2⟩
  have HS2 := Lib.hid hs2
  have HX2 := Lib.hid (And.intro hf2 hb2)
  have HV2 : Hid (Vw w2 a 3 c (205 :: x1 :: x2 :: [])) := Lib.hid hv2
  clear hs2 hf2 hb2 hv2
  go_wp2_with fail
  refine (getMuint16_any a 3 c 205 x1 x2 [] w2 HV2.out).mono ?_
  rw [← HVV.out]
  rintro e w3 ⟨rfl, hb3⟩
  have HB3 := Lib.hid hb3
  clear hb3
  go_wp2_with fail
  go_ret2
  exact get_fin _ HR.out HNR.out HX1.out.1 HX1.out.2 HS2.out HX2.out.1 HX2.out.2 HB3.out
set_option maxRecDepth 100000 in
set_option maxHeartbeats 4000000 in
theorem rdi_210 (B : Nat) (K : Nat → Prop) (R : Nat) (x1 x2 x3 x4 : Int) (r : List Int) (w : World) (h : Rdr w B K R (210 :: x1 :: x2 :: x3 :: x4 :: r)) :
    Calls Tryd.prog 56 #[.pointer (some ⟨R, 0, none⟩)] w (GetRes B K R r (.int .i64 (wrap32 (beN [x1, x2, x3, x4]))) w) := by
  obtain ⟨S, sa, sn, sc, d, mr, me, ms, hR, hnR, hS⟩ := h
  have hby := hS.byt
  have q0 := hR.cell (i := 0) rfl
  have hRl := hR.lt
  have HP := Lib.hid (peekByte_any B K S 210 _ w hS)
  have HR := Lib.hid hR
  have HNR := Lib.hid hnR
  clear hS hR hnR
  obtain ⟨v, hv⟩ : ∃ v, v = wrap32 (beN [x1, x2, x3, x4]) := ⟨_, rfl⟩
  have hvb : -2147483648 ≤ v ∧ v ≤ 2147483647 := by rw [hv]; exact i32_bd _
  obtain ⟨hv0, hv1⟩ := hvb
  rw [← hv]
  have HVV := Lib.hid hv
  clear hv hby
  go_enter Tryd.func56, Tryd.ntmps56
  go_wp2_with fail
  refine HP.out.mono ?_
  rintro e w1 ⟨rfl, hs1, hf1, hb1⟩
  have hR1 := hf1.blk HR.out HNR.out
  have q0 := hR1.cell (i := 0) rfl
  have hRl1 := hR1.lt
  have HS1 := Lib.hid hs1
  have HX1 := Lib.hid (And.intro hf1 hb1)
  clear hs1 hf1 hb1 hR1
  go_wp2_with fail
  refine (isfix_no 210 (by omega) (by omega) _).mono ?_
  rintro e w' ⟨rfl, rfl⟩
  go_wp2_with fail
  refine (isnfix_any 210 (by omega) (by omega) _).mono ?_
  rintro e w' ⟨rfl, rfl⟩
  go_wp2_with fail
  refine (next_any B _ S 5 (by omega) (by omega) _ w1 (HS1.out.less (by omega)) (by simp) HS1.out.kS).mono ?_
  rintro e w2 ⟨a, c, rfl, hv2, hs2, hf2, hb2⟩
  have HS2 := Lib.hid hs2
  have HX2 := Lib.hid (And.intro hf2 hb2)
  have HV2 : Hid (Vw w2 a 5 c (210 :: x1 :: x2 :: x3 :: x4 :: [])) := Lib.hid hv2
  clear hs2 hf2 hb2 hv2
  go_wp2_with fail
  refine (getMint32_any a 5 c 210 x1 x2 x3 x4 [] w2 HV2.out).mono ?_
  rw [← HVV.out]
  rintro e w3 ⟨rfl, hb3⟩
  have HB3 := Lib.hid hb3
  clear hb3
  go_wp2_with fail
  go_ret2
  exact get_fin _ HR.out HNR.out HX1.out.1 HX1.out.2 HS2.out HX2.out.1 HX2.out.2 HB3.out
set_option maxRecDepth 100000 in
set_option maxHeartbeats 4000000 in
theorem rdi_206 (B : Nat) (K : Nat → Prop) (R : Nat) (x1 x2 x3 x4 : Int) (r : List Int) (w : World) (h : Rdr w B K R (206 :: x1 :: x2 :: x3 :: x4 :: r)) :
    Calls Tryd.prog 56 #[.pointer (some ⟨R, 0, none⟩)] w (GetRes B K R r (.int .i64 (beN [x1, x2, x3, x4])) w) := by
  obtain ⟨S, sa, sn, sc, d, mr, me, ms, hR, hnR, hS⟩ := h
  have hby := hS.byt
  have q0 := hR.cell (i := 0) rfl
  have hRl := hR.lt
  have HP := Lib.hid (peekByte_any B K S 206 _ w hS)
  have HR := Lib.hid hR
  have HNR := Lib.hid hnR
  clear hS hR hnR
  obtain ⟨v, hv⟩ : ∃ v, v = beN [x1, x2, x3, x4] := ⟨_, rfl⟩
  have hvb : 0 ≤ v ∧ v ≤ 4294967295 := by
    have h2 := beN_bds [x1, x2, x3, x4] (fun x hx => hby x (by simp at hx ⊢; omega))
    rw [← hv] at h2
    have h3 : ((256 ^ [x1, x2, x3, x4].length : Nat) : Int) = 4294967296 := by simp
    omega
  obtain ⟨hv0, hv1⟩ := hvb
  rw [← hv]
  have HVV := Lib.hid hv
  clear hv hby
  go_enter Tryd.func56, Tryd.ntmps56
  go_wp2_with fail
  refine HP.out.mono ?_
  rintro e w1 ⟨rfl, hs1, hf1, hb1⟩
  have hR1 := hf1.blk HR.out HNR.out
  have q0 := hR1.cell (i := 0) rfl
  have hRl1 := hR1.lt
  have HS1 := Lib.hid hs1
  have HX1 := Lib.hid (And.intro hf1 hb1)
  clear hs1 hf1 hb1 hR1
  go_wp2_with fail
  refine (isfix_no 206 (by omega) (by omega) _).mono ?_
  rintro e w' ⟨rfl, rfl⟩
  go_wp2_with fail
  refine (isnfix_any 206 (by omega) (by omega) _).mono ?_
  rintro e w' ⟨rfl, rfl⟩
  go_wp2_with fail
  refine (next_any B _ S 5 (by omega) (by omega) _ w1 (HS1.out.less (by omega)) (by simp) HS1.out.kS).mono ?_
  rintro e w2 ⟨a, c, rfl, hv2, hs2, hf2, hb2⟩
  have HS2 := Lib.hid hs2
  have HX2 := Lib.hid (And.intro hf2 hb2)
  have HV2 : Hid (Vw w2 a 5 c (206 :: x1 :: x2 :: x3 :: x4 :: [])) := Lib.hid hv2
  clear hs2 hf2 hb2 hv2
  go_wp2_with fail
  refine (getMuint32_any a 5 c 206 x1 x2 x3 x4 [] w2 HV2.out).mono ?_
  rw [← HVV.out]
  rintro e w3 ⟨rfl, hb3⟩
  have HB3 := Lib.hid hb3
  clear hb3
  go_wp2_with fail
  go_ret2
  exact get_fin _ HR.out HNR.out HX1.out.1 HX1.out.2 HS2.out HX2.out.1 HX2.out.2 HB3.out
set_option maxRecDepth 100000 in
set_option maxHeartbeats 4000000 in
theorem rdi_211 (B : Nat) (K : Nat → Prop) (R : Nat) (x1 x2 x3 x4 x5 x6 x7 x8 : Int) (r : List Int) (w : World) (h : Rdr w B K R (211 :: x1 :: x2 :: x3 :: x4 :: x5 :: x6 :: x7 :: x8 :: r)) :
    Calls Tryd.prog 56 #[.pointer (some ⟨R, 0, none⟩)] w (GetRes B K R r (.int .i64 (wrap64 (beN [x1, x2, x3, x4, x5, x6, x7, x8]))) w) := by
  obtain ⟨S, sa, sn, sc, d, mr, me, ms, hR, hnR, hS⟩ := h
  have hby := hS.byt
  have q0 := hR.cell (i := 0) rfl
  have hRl := hR.lt
  have HP := Lib.hid (peekByte_any B K S 211 _ w hS)
  have HR := Lib.hid hR
  have HNR := Lib.hid hnR
  clear hS hR hnR
  obtain ⟨v, hv⟩ : ∃ v, v = wrap64 (beN [x1, x2, x3, x4, x5, x6, x7, x8]) := ⟨_, rfl⟩
  have hvb : -9223372036854775808 ≤ v ∧ v ≤ 9223372036854775807 := by rw [hv]; exact i64_bd _
  obtain ⟨hv0, hv1⟩ := hvb
  rw [← hv]
  have HVV := Lib.hid hv
  clear hv hby
  go_enter Tryd.func56, Tryd.ntmps56
  go_wp2_with fail
  refine HP.out.mono ?_
  rintro e w1 ⟨rfl, hs1, hf1, hb1⟩
  have hR1 := hf1.blk HR.out HNR.out
  have q0 := hR1.cell (i := 0) rfl
  have hRl1 := hR1.lt
  have HS1 := Lib.hid hs1
  have HX1 := Lib.hid (And.intro hf1 hb1)
  clear hs1 hf1 hb1 hR1
  go_wp2_with fail
  refine (isfix_no 211 (by omega) (by omega) _).mono ?_
  rintro e w' ⟨rfl, rfl⟩
  go_wp2_with fail
  refine (isnfix_any 211 (by omega) (by omega) _).mono ?_
  rintro e w' ⟨rfl, rfl⟩
  go_wp2_with fail
  refine (next_any B _ S 9 (by omega) (by omega) _ w1 (HS1.out.less (by omega)) (by simp) HS1.out.kS).mono ?_
  rintro e w2 ⟨a, c, rfl, hv2, hs2, hf2, hb2⟩
  have HS2 := Lib.hid hs2
  have HX2 := Lib.hid (And.intro hf2 hb2)
  have HV2 : Hid (Vw w2 a 9 c (211 :: x1 :: x2 :: x3 :: x4 :: x5 :: x6 :: x7 :: x8 :: [])) := Lib.hid hv2
  clear hs2 hf2 hb2 hv2
  go_wp2_with fail
  refine (getMint64_any a 9 c 211 x1 x2 x3 x4 x5 x6 x7 x8 [] w2 HV2.out).mono ?_
  rw [← HVV.out]
  rintro e w3 ⟨rfl, hb3⟩
  have HB3 := Lib.hid hb3
  clear hb3
  go_wp2_with fail
  go_ret2
  exact get_fin _ HR.out HNR.out HX1.out.1 HX1.out.2 HS2.out HX2.out.1 HX2.out.2 HB3.out
set_option maxRecDepth 100000 in
set_option maxHeartbeats 4000000 in
theorem rdi_207 (B : Nat) (K : Nat → Prop) (R : Nat) (x1 x2 x3 x4 x5 x6 x7 x8 : Int) (r : List Int) (w : World) (h : Rdr w B K R (207 :: x1 :: x2 :: x3 :: x4 :: x5 :: x6 :: x7 :: x8 :: r)) (hu : ¬ beN [x1, x2, x3, x4, x5, x6, x7, x8] > 9223372036854775807) :
    Calls Tryd.prog 56 #[.pointer (some ⟨R, 0, none⟩)] w (GetRes B K R r (.int .i64 (beN [x1, x2, x3, x4, x5, x6, x7, x8])) w) := by
  obtain ⟨S, sa, sn, sc, d, mr, me, ms, hR, hnR, hS⟩ := h
  have hby := hS.byt
  have q0 := hR.cell (i := 0) rfl
  have hRl := hR.lt
  have HP := Lib.hid (peekByte_any B K S 207 _ w hS)
  have HR := Lib.hid hR
  have HNR := Lib.hid hnR
  clear hS hR hnR
  obtain ⟨v, hv⟩ : ∃ v, v = beN [x1, x2, x3, x4, x5, x6, x7, x8] := ⟨_, rfl⟩
  have hvb : 0 ≤ v ∧ v ≤ 18446744073709551615 := by
    have h2 := beN_bds [x1, x2, x3, x4, x5, x6, x7, x8] (fun x hx => hby x (by simp at hx ⊢; omega))
    rw [← hv] at h2
    have h3 : ((256 ^ [x1, x2, x3, x4, x5, x6, x7, x8].length : Nat) : Int) = 18446744073709551616 := by simp
    omega
  obtain ⟨hv0, hv1⟩ := hvb
  rw [← hv] at hu
  rw [← hv]
  have HVV := Lib.hid hv
  clear hv hby
  go_enter Tryd.func56, Tryd.ntmps56
  go_wp2_with fail
  refine HP.out.mono ?_
  rintro e w1 ⟨rfl, hs1, hf1, hb1⟩
  have hR1 := hf1.blk HR.out HNR.out
  have q0 := hR1.cell (i := 0) rfl
  have hRl1 := hR1.lt
  have HS1 := Lib.hid hs1
  have HX1 := Lib.hid (And.intro hf1 hb1)
  clear hs1 hf1 hb1 hR1
  go_wp2_with fail
  refine (isfix_no 207 (by omega) (by omega) _).mono ?_
  rintro e w' ⟨rfl, rfl⟩
  go_wp2_with fail
  refine (isnfix_any 207 (by omega) (by omega) _).mono ?_
  rintro e w' ⟨rfl, rfl⟩
  go_wp2_with fail
  refine (next_any B _ S 9 (by omega) (by omega) _ w1 (HS1.out.less (by omega)) (by simp) HS1.out.kS).mono ?_
  rintro e w2 ⟨a, c, rfl, hv2, hs2, hf2, hb2⟩
  have HS2 := Lib.hid hs2
  have HX2 := Lib.hid (And.intro hf2 hb2)
  have HV2 : Hid (Vw w2 a 9 c (207 :: x1 :: x2 :: x3 :: x4 :: x5 :: x6 :: x7 :: x8 :: [])) := Lib.hid hv2
  clear hs2 hf2 hb2 hv2
  go_wp2_with fail
  refine (getMuint64_any a 9 c 207 x1 x2 x3 x4 x5 x6 x7 x8 [] w2 HV2.out).mono ?_
  rw [← HVV.out]
  rintro e w3 ⟨rfl, hb3⟩
  have HB3 := Lib.hid hb3
  clear hb3
  go_wp2_with fail
  go_ret2
  exact get_fin _ HR.out HNR.out HX1.out.1 HX1.out.2 HS2.out HX2.out.1 HX2.out.2 HB3.out
theorem rdi_good (B : Nat) (K : Nat → Prop) (R : Nat) (tot : List Int) (u : Int) (k : Nat) (hd : dInt tot = some (u, k)) (w : World) (h : Rdr w B K R tot) :
    Calls Tryd.prog 56 #[.pointer (some ⟨R, 0, none⟩)] w (GetRes B K R (tot.drop k) (.int .i64 u) w) := by
  unfold dInt at hd
  by_cases h1 : tot.length < 1
  · rw [if_pos h1] at hd; cases hd
  rw [if_neg h1] at hd
  have s1 : tot = tot.getD 0 0 :: tot.drop 1 := by
    rcases tot with _ | ⟨a, t⟩
    · simp at h1
    · rfl
  by_cases z0 : tot.getD 0 0 < 128
  · rw [if_pos z0] at hd
    injection hd with hd; injection hd with x y; subst x; subst y
    rw [s1] at h
    have := rdi_fix B K R _ _ w h z0
    exact this
  rw [if_neg z0] at hd
  by_cases z1 : 224 ≤ tot.getD 0 0
  · rw [if_pos z1] at hd
    injection hd with hd; injection hd with x y; subst x; subst y
    rw [s1] at h
    exact rdi_nfix B K R _ _ w h z1
  rw [if_neg z1] at hd
  by_cases z208 : tot.getD 0 0 = 208
  · rw [if_pos z208] at hd
    by_cases h2 : tot.length < 2
    · rw [if_pos h2] at hd; cases hd
    rw [if_neg h2] at hd
    injection hd with hd; injection hd with x y; subst x; subst y
    have s2 := spl2 tot h2
    rw [z208] at s2
    rw [s2] at h
    exact rdi_208 B K R _ _ w h
  rw [if_neg z208] at hd
  by_cases z204 : tot.getD 0 0 = 204
  · rw [if_pos z204] at hd
    by_cases h2 : tot.length < 2
    · rw [if_pos h2] at hd; cases hd
    rw [if_neg h2] at hd
    injection hd with hd; injection hd with x y; subst x; subst y
    have s2 := spl2 tot h2
    rw [z204] at s2
    rw [s2] at h
    exact rdi_204 B K R _ _ w h
  rw [if_neg z204] at hd
  by_cases z209 : tot.getD 0 0 = 209
  · rw [if_pos z209] at hd
    by_cases h2 : tot.length < 3
    · rw [if_pos h2] at hd; cases hd
    rw [if_neg h2] at hd
    injection hd with hd; injection hd with x y; subst x; subst y
    have s2 := spl3 tot h2
    rw [z209] at s2
    rw [s2] at h
    exact rdi_209 B K R _ _ _ w h
  rw [if_neg z209] at hd
  by_cases z205 : tot.getD 0 0 = 205
  · rw [if_pos z205] at hd
    by_cases h2 : tot.length < 3
    · rw [if_pos h2] at hd; cases hd
    rw [if_neg h2] at hd
    injection hd with hd; injection hd with x y; subst x; subst y
    have s2 := spl3 tot h2
    rw [z205] at s2
    rw [s2] at h
    exact rdi_205 B K R _ _ _ w h
  rw [if_neg z205] at hd
  by_cases z210 : tot.getD 0 0 = 210
  · rw [if_pos z210] at hd
    by_cases h2 : tot.length < 5
    · rw [if_pos h2] at hd; cases hd
    rw [if_neg h2] at hd
    injection hd with hd; injection hd with x y; subst x; subst y
    have s2 := spl5 tot h2
    rw [z210] at s2
    rw [s2] at h
    exact rdi_210 B K R _ _ _ _ _ w h
  rw [if_neg z210] at hd
  by_cases z206 : tot.getD 0 0 = 206
  · rw [if_pos z206] at hd
    by_cases h2 : tot.length < 5
    · rw [if_pos h2] at hd; cases hd
    rw [if_neg h2] at hd
    injection hd with hd; injection hd with x y; subst x; subst y
    have s2 := spl5 tot h2
    rw [z206] at s2
    rw [s2] at h
    exact rdi_206 B K R _ _ _ _ _ w h
  rw [if_neg z206] at hd
  by_cases z211 : tot.getD 0 0 = 211
  · rw [if_pos z211] at hd
    by_cases h2 : tot.length < 9
    · rw [if_pos h2] at hd; cases hd
    rw [if_neg h2] at hd
    injection hd with hd; injection hd with x y; subst x; subst y
    have s2 := spl9 tot h2
    rw [z211] at s2
    rw [s2] at h
    exact rdi_211 B K R _ _ _ _ _ _ _ _ _ w h
  rw [if_neg z211] at hd
  by_cases z207 : tot.getD 0 0 = 207
  · rw [if_pos z207] at hd
    by_cases h2 : tot.length < 9
    · rw [if_pos h2] at hd; cases hd
    rw [if_neg h2] at hd
    by_cases h3 : beN [tot.getD 1 0, tot.getD 2 0, tot.getD 3 0, tot.getD 4 0, tot.getD 5 0, tot.getD 6 0, tot.getD 7 0, tot.getD 8 0] > 9223372036854775807
    · rw [if_pos h3] at hd; cases hd
    rw [if_neg h3] at hd
    injection hd with hd; injection hd with x y; subst x; subst y
    have s2 := spl9 tot h2
    rw [z207] at s2
    rw [s2] at h
    exact rdi_207 B K R _ _ _ _ _ _ _ _ _ w h h3
  rw [if_neg z207] at hd
  cases hd
end Go.Proofs.YtfaangichifbgaaDoor
