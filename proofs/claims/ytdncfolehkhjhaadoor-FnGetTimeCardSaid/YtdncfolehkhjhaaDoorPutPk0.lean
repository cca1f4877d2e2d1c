/- spec.PutPack of the kinds without text and kids. -/
import Derived.Test.YtdncfolehkhjhaaDoorPutExt
import Derived.Test.YtdncfolehkhjhaaDoorPack
import Derived.Test.YtdncfolehkhjhaaDoorFitD
import Derived.Test.YtdncfolehkhjhaaDoorAppS
namespace Go.Proofs.YtdncfolehkhjhaaDoor
open Go.RowKit
set_option linter.unusedVariables false
set_option linter.unusedSimpArgs false

/-- What may be written for a value. -/
def PEnc (k num : Int) (t : ByteArray) (ext : Int) (n : Nat) (l : List Int) : Prop :=
  (k = 0 ∧ l = [192]) ∨ (k = 1 ∧ l = [194 + num]) ∨ (k = 2 ∧ 9223372036854775808 ≤ num ∧ NegL num l) ∨ ((k = 2 ∧ num < 9223372036854775808 ∨ k = 3) ∧ PosL num l) ∨
  (k = 4 ∧ l = 202 :: beL num 4) ∨ (k = 5 ∧ l = 203 :: beL num 8) ∨
  (k = 6 ∧ ∃ h, HeadL t.size 160 32 formsT h ∧ l = h ++ btL t) ∨ (k = 7 ∧ ∃ h, HeadL t.size (-1) 0 formsB h ∧ l = h ++ btL t) ∨
  (k = 8 ∧ ∃ h r, HeadL n 144 16 formsA h ∧ l = h ++ r) ∨ (k = 9 ∧ ∃ h r, HeadL (n / 2) 128 16 formsM h ∧ l = h ++ r) ∨
  (k = 10 ∧ ∃ h, ExtL t.size (ext % 256) h ∧ l = h ++ btL t)

set_option maxRecDepth 100000 in
set_option maxHeartbeats 4000000 in
theorem putPack_nil (num : Int) (t : ByteArray) (ext : Int) (a : Option Addr) (n c : Nat) (F : Nat) (b : Bool) (w : World) (hB : FB w F b) :
    Calls Tryd.prog 13 #[pkV 0 num t ext a n c, .pointer (some ⟨F, 0, none⟩)] w (PutRes F b (PEnc 0 num t ext n) w) := by
  have hFl := hB.lt
  have hl : PEnc 0 num t ext n [192] := .inl ⟨rfl, rfl⟩
  have HL := Lib.hid hl
  clear hl
  unfold pkV
  go_enter Tryd.func13, Tryd.ntmps13
  go_wp2_with fail
  go_ret
  exact ⟨_, 1, 1, [192], rfl, Own.lit1 _ _ (by omega) (by omega) (by simp) (by simp), HL.out, (hB.alloc _).alloc _, Kp.of_below (by (repeat (first | with_reducible exact Below.refl _ _ | with_reducible assumption | with_reducible refine below_drewN ?_ _ | with_reducible refine Below.drew ?_ | with_reducible refine below_row ?_ (by first | omega | (simp; done) | (simp; omega)) _ | with_reducible refine Below.alloc ?_ (by first | omega | (simp; done) | (simp; omega)) _ | with_reducible refine Below.setCell ?_ (by first | omega | (simp; done) | (simp; omega)) _)))⟩

set_option maxRecDepth 100000 in
set_option maxHeartbeats 4000000 in
theorem putPack_bool (num : Int) (h0 : 0 ≤ num) (h1 : num ≤ 1) (t : ByteArray) (ext : Int) (a : Option Addr) (n c : Nat) (F : Nat) (b : Bool) (w : World) (hB : FB w F b) :
    Calls Tryd.prog 13 #[pkV 1 num t ext a n c, .pointer (some ⟨F, 0, none⟩)] w (PutRes F b (PEnc 1 num t ext n) w) := by
  have hFl := hB.lt
  have hl : PEnc 1 num t ext n [194 + num] := .inr (.inl ⟨rfl, rfl⟩)
  have HL := Lib.hid hl
  clear hl
  have hw1 : IntKind.u64.wrap (194 + num) = 194 + num := by rw [wrap_u64]; omega
  have hw2 : (194 + num) % 256 = 194 + num := by omega
  have hw3 : (194 + num) % 18446744073709551616 = 194 + num := by omega
  unfold pkV
  go_enter Tryd.func13, Tryd.ntmps13
  go_wp2_with fail
  go_ret
  exact ⟨_, 1, 1, [194 + num], rfl, Own.lit1 _ _ (by omega) (by omega) (by simp) (by simp), HL.out, (hB.alloc _).alloc _, Kp.of_below (by (repeat (first | with_reducible exact Below.refl _ _ | with_reducible assumption | with_reducible refine below_drewN ?_ _ | with_reducible refine Below.drew ?_ | with_reducible refine below_row ?_ (by first | omega | (simp; done) | (simp; omega)) _ | with_reducible refine Below.alloc ?_ (by first | omega | (simp; done) | (simp; omega)) _ | with_reducible refine Below.setCell ?_ (by first | omega | (simp; done) | (simp; omega)) _)))⟩
theorem putRes_lift {F : Nat} {b : Bool} {L L' : List Int → Prop} {w w1 : World} (hb : Below w.heap.size w w1) (hL : ∀ l, L l → L' l) {e : Ending} {w' : World} (h : PutRes F b L w1 e w') : PutRes F b L' w e w' := by
  obtain ⟨a, m, c, l, rfl, ho, hL1, hF, hk⟩ := h
  exact ⟨a, m, c, l, rfl, ho.mono hb.size, hL l hL1, hF, (Kp.of_below hb).trans (hk.mono hb.size)⟩
set_option maxRecDepth 100000 in
set_option maxHeartbeats 4000000 in
theorem putPack_int (k : Int) (hk : k = 2 ∨ k = 3) (num : Int) (h0 : 0 ≤ num) (h1 : num < 18446744073709551616) (t : ByteArray) (ext : Int) (a : Option Addr) (n c : Nat) (F : Nat) (b : Bool) (w : World) (hB : FB w F b) :
    Calls Tryd.prog 13 #[pkV k num t ext a n c, .pointer (some ⟨F, 0, none⟩)] w (PutRes F b (PEnc k num t ext n) w) := by
  have hFl := hB.lt
  have hlift : ∀ (k : Int) (L : List Int → Prop), (∀ l, L l → PEnc k num t ext n l) → ∀ (cs : Array Value) (g : Nat) e w', PutRes F b L (w.alloc (.cells cs g)) e w' → PutRes F b (PEnc k num t ext n) w e w' := fun k L hL cs g e w' h => putRes_lift (Below.alloc (Below.refl _ _) (Nat.le_refl _) _) hL h
  have HLF := Lib.hid hlift
  clear hlift
  unfold pkV
  obtain rfl | rfl := hk
  · by_cases hn : 9223372036854775808 ≤ num
    · go_enter Tryd.func13, Tryd.ntmps13
      go_wp2_with fail
      refine (putInt_neg num hn h1 F b _ (hB.alloc _)).mono ?_
      rintro e w' h
      have h' := HLF.out 2 (NegL num) (fun l h => .inr (.inr (.inl ⟨rfl, hn, h⟩))) _ _ _ _ h
      clear h
      obtain ⟨a, m, c, l, rfl, hres⟩ := h'
      go_wp2_with fail
      go_ret
      exact ⟨a, m, c, l, rfl, hres⟩
    · go_enter Tryd.func13, Tryd.ntmps13
      go_wp2_with fail
      refine (putInt_pos num h0 h1 true (fun _ => by omega) F b _ (hB.alloc _)).mono ?_
      rintro e w' h
      have h' := HLF.out 2 (PosL num) (fun l h => .inr (.inr (.inr (.inl ⟨.inl ⟨rfl, by omega⟩, h⟩)))) _ _ _ _ h
      clear h
      obtain ⟨a, m, c, l, rfl, hres⟩ := h'
      go_wp2_with fail
      go_ret
      exact ⟨a, m, c, l, rfl, hres⟩
  · go_enter Tryd.func13, Tryd.ntmps13
    go_wp2_with fail
    refine (putInt_pos num h0 h1 false (fun h => by cases h) F b _ (hB.alloc _)).mono ?_
    rintro e w' h
    have h' := HLF.out 3 (PosL num) (fun l h => .inr (.inr (.inr (.inl ⟨.inr rfl, h⟩)))) _ _ _ _ h
    clear h
    obtain ⟨a, m, c, l, rfl, hres⟩ := h'
    go_wp2_with fail
    go_ret
    exact ⟨a, m, c, l, rfl, hres⟩

set_option maxRecDepth 100000 in
set_option maxHeartbeats 4000000 in
theorem putPack_float (k : Int) (hk : k = 4 ∨ k = 5) (num : Int) (h0 : 0 ≤ num) (h1 : num < 18446744073709551616) (t : ByteArray) (ext : Int) (a : Option Addr) (n c : Nat) (F : Nat) (b : Bool) (w : World) (hB : FB w F b) :
    Calls Tryd.prog 13 #[pkV k num t ext a n c, .pointer (some ⟨F, 0, none⟩)] w (PutRes F b (PEnc k num t ext n) w) := by
  have hFl := hB.lt
  unfold pkV
  obtain rfl | rfl := hk
  · have hl : PEnc 4 num t ext n (202 :: beL num 4) := .inr (.inr (.inr (.inr (.inl ⟨rfl, rfl⟩))))
    have HL := Lib.hid hl
    clear hl
    go_enter Tryd.func13, Tryd.ntmps13
    go_wp2_with fail
    refine (headed_any 202 (by omega) (by omega) 4 (by omega) num h0 h1 _).mono ?_
    rintro e w' ⟨a3, c3, rfl, ho, hb⟩
    have hbw : Below w.heap.size w w' := Below.trans (b := _) (by (repeat (first | with_reducible exact Below.refl _ _ | with_reducible assumption | with_reducible refine below_drewN ?_ _ | with_reducible refine Below.drew ?_ | with_reducible refine below_row ?_ (by first | omega | (simp; done) | (simp; omega)) _ | with_reducible refine Below.alloc ?_ (by first | omega | (simp; done) | (simp; omega)) _ | with_reducible refine Below.setCell ?_ (by first | omega | (simp; done) | (simp; omega)) _))) (hb.mono (by (first | omega | (simp; done) | (simp; omega))))
    have ho' := ho.mono (B' := w.heap.size) (by (first | omega | (simp; done) | (simp; omega)))
    clear ho
    go_wp2_with fail
    go_ret
    exact ⟨a3, _, c3, _, rfl, ho', HL.out, hB.below hbw hFl, Kp.of_below hbw⟩
  · have hl : PEnc 5 num t ext n (203 :: beL num 8) := .inr (.inr (.inr (.inr (.inr (.inl ⟨rfl, rfl⟩)))))
    have HL := Lib.hid hl
    clear hl
    go_enter Tryd.func13, Tryd.ntmps13
    go_wp2_with fail
    refine (headed_any 203 (by omega) (by omega) 8 (by omega) num h0 h1 _).mono ?_
    rintro e w' ⟨a3, c3, rfl, ho, hb⟩
    have hbw : Below w.heap.size w w' := Below.trans (b := _) (by (repeat (first | with_reducible exact Below.refl _ _ | with_reducible assumption | with_reducible refine below_drewN ?_ _ | with_reducible refine Below.drew ?_ | with_reducible refine below_row ?_ (by first | omega | (simp; done) | (simp; omega)) _ | with_reducible refine Below.alloc ?_ (by first | omega | (simp; done) | (simp; omega)) _ | with_reducible refine Below.setCell ?_ (by first | omega | (simp; done) | (simp; omega)) _))) (hb.mono (by (first | omega | (simp; done) | (simp; omega))))
    have ho' := ho.mono (B' := w.heap.size) (by (first | omega | (simp; done) | (simp; omega)))
    clear ho
    go_wp2_with fail
    go_ret
    exact ⟨a3, _, c3, _, rfl, ho', HL.out, hB.below hbw hFl, Kp.of_below hbw⟩
end Go.Proofs.YtdncfolehkhjhaaDoor
