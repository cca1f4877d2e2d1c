/- spec.takeConstructor at a descriptor; spec.TakeValue over it; the empty list. -/
import Derived.Test.YtkbfppjniaejnaaDoorDesc
namespace Go.Proofs.YtkbfppjniaejnaaDoor
open Go.RowKit
set_option linter.unusedVariables false
set_option linter.unusedSimpArgs false

theorem cell_below {B : Nat} {w w' : World} (h : Below B w w') {p : Addr} (hp : p.block < B) : w'.cell? p = w.cell? p := by
  simp only [World.cell?, h.block _ hp]

/-- The result of a constructor with a descriptor. -/
def GotCon (w : World) (z dk dnum : Int) (dtext : ByteArray) (a : Option Addr) (n c : Nat) (e : Ending) (w' : World) : Prop :=
  ∃ b, e = .returned (.tuple #[ct (at1 b) z, .slice a n c, .bool true]) ∧ w.heap.size ≤ b ∧ One w' b dk dnum dtext ∧ Below w.heap.size w w'

set_option maxRecDepth 100000 in
set_option maxHeartbeats 4000000 in
theorem takeCon_desc (a : Option Addr) (n c : Nat) (l : List Int) (lv : Int) (hlv : 0 < lv) (hlm : lv < 1000) (w0 : World) (hv : Vw w0 a n c (0 :: l)) :
    ∃ a1, Vw w0 a1 (n - 1) (c - 1) l ∧ ∀ (dk dnum : Int) (dtext : ByteArray) (a2 : Option Addr) (n2 c2 : Nat) (z : Int) (l2 : List Int), z ≠ 0 → Vw w0 a2 n2 c2 (z :: l2) →
      (∀ w, Below w0.heap.size w0 w → Calls Tryd.prog 29 #[.slice a1 (n - 1) (c - 1), .int .i64 (lv - 1)] w fun e w' => e = .returned (got (av dk dnum dtext nilS 0 nilS) a2 n2 c2) ∧ Below w.heap.size w w') →
      ∃ a3, Vw w0 a3 (n2 - 1) (c2 - 1) l2 ∧ ∀ w, Below w0.heap.size w0 w → Calls Tryd.prog 41 #[.slice a n c, .int .i64 lv] w (GotCon w z dk dnum dtext a3 (n2 - 1) (c2 - 1)) := by
  have hn : 1 ≤ n := by have := hv.len; simp at this; omega
  obtain ⟨a1, hs, hv'⟩ := off_of hv 1 1 rfl hn
  simp only [List.drop_succ_cons, List.drop_zero] at hv'
  refine ⟨a1, hv', fun dk dnum dtext a2 n2 c2 z l2 hz hv2 ht => ?_⟩
  have hn2 : 1 ≤ n2 := by have := hv2.len; simp at this; omega
  have hzb := hv2.byt z (by simp)
  obtain ⟨a3, hs3, hv3⟩ := off_of hv2 1 1 rfl hn2
  simp only [List.drop_succ_cons, List.drop_zero] at hv3
  refine ⟨a3, hv3, fun w hx => ?_⟩
  have HT := Lib.hid ht
  clear ht
  unfold Off at hs hs3
  have hzz : (z == 0) = false := by simpa using hz
  have e1 : decide (lv ≤ 0) = false := by simp; omega
  have en : ((n : Int) == 0) = false := by simp; omega
  have en2 : ((n2 : Int) == 0) = false := by simp; omega
  have hn0 : (0 : Int) < (n : Int) := by omega
  have hn20 : (0 : Int) < (n2 : Int) := by omega
  have hw1 : IntKind.i64.wrap (lv - 1) = lv - 1 := by simp [IntKind.wrap, IntKind.bits, IntKind.signed]; omega
  have hw2 : wrap64 (lv - 1) = lv - 1 := by unfold wrap64; omega
  rcases (Vw.below hx (Nat.le_refl _) hv).cells with h0 | ⟨bl, off, rfl, hc⟩
  · omega
  · have hc0 := hc 0 (by omega)
    simp at hc0
    clear hc
    have hbl : bl < w.heap.size := by
      rcases Nat.lt_or_ge bl w.heap.size with h | h
      · exact h
      · simp [World.cell?, Array.getElem?_eq_none h] at hc0
    rcases (Vw.below hx (Nat.le_refl _) hv2).cells with h0 | ⟨bl2, off2, rfl, hc2⟩
    · omega
    · have hc20 := hc2 0 (by omega)
      simp at hc20
      clear hc2
      have hbl2 : bl2 < w.heap.size := by
        rcases Nat.lt_or_ge bl2 w.heap.size with h | h
        · exact h
        · simp [World.cell?, Array.getElem?_eq_none h] at hc20
      have hxa : ∀ o, Below w0.heap.size w0 (w.alloc o) := fun o => hx.alloc hx.size o
      go_enter Tryd.func41, Tryd.ntmps41
      go_wp2_with (go_at_call 29; go_loud (refine (HT.out _ (hxa _)).mono ?_; rintro e w1 ⟨rfl, hb1⟩; unfold got av; have hs1 : w.heap.size + 1 ≤ w1.heap.size := (by have := hb1.size; simp at this; omega); have hk2 : w1.cell? ⟨bl2, off2, none⟩ = some (.int .u8 z) := (by rw [cell_below hb1 (by simp; omega), World.cell?_alloc_lt _ _ _ hbl2]; exact hc20); have hbl3 : bl2 < w1.heap.size := (by omega); have hB4 : Blk w1 w.heap.size 81 #[nilS, .int .i64 0] := Blk.below (Blk.new _ _ _) hb1 (by simp); have hB4a := fun o => hB4.alloc o; have hB4b := fun o o' => (hB4.alloc o).alloc o'; have hk40 := fun o o' => (hB4b o o').cell (i := 0) rfl; have hk41 := fun o o' => (hB4b o o').cell (i := 1) rfl; have hf4 := fun o o' i => (hB4b o o').frozen i))
      go_region
      go_wp2_with fail
      have hone : ∀ o, One ((w1.alloc o).alloc (.cells #[.int .i64 dk, .int .u64 dnum, .string dtext, nilS, .int .i64 0, nilS] 29)) (w1.heap.size + 1) dk dnum dtext := fun o => by simpa using Blk.new (w1.alloc o) _ _
      have hbw : Below w.heap.size w w1 := Below.trans ((Below.refl _ _).alloc (Nat.le_refl _) _) (hb1.mono (by simp))
      refine bodyPost_ret (results_ctt rfl _ _ w.heap.size 81 _ _ rfl ((Blk.set2 (hB4b _ _) rfl _ _).drew) Tryd.underlying81 rfl (by kernel_rfl)) rfl ⟨w1.heap.size + 1, rfl, by omega, ?_, ?_⟩
      · exact (((hone _).other (by simp; omega) _).other (by simp; omega) _).drew
      · (repeat (first | with_reducible exact Below.refl _ _ | with_reducible assumption | with_reducible refine below_drewN ?_ _ | with_reducible refine Below.drew ?_ | with_reducible refine below_row ?_ (by first | omega | (simp; done) | (simp; omega)) _ | with_reducible refine Below.alloc ?_ (by first | omega | (simp; done) | (simp; omega)) _ | with_reducible refine Below.setCell ?_ (by first | omega | (simp; done) | (simp; omega)) _))

set_option maxRecDepth 100000 in
set_option maxHeartbeats 4000000 in
theorem take_list0 (a : Option Addr) (n cap : Nat) (l : List Int) (lv : Int) (w0 : World) (hv : Vw w0 a n cap l) :
    ∃ a', Vw w0 a' n cap l ∧ ∀ (da : Option Addr) (dn dc : Nat) (w : World), Below w0.heap.size w0 w → Calls Tryd.prog 42 #[ct (.slice da dn dc) 69, .slice a n cap, .int .i64 lv] w fun e w' => e = .returned (got (av 21 0 ⟨#[]⟩ nilS 0 (.slice da dn dc)) a' n cap) ∧ Below w.heap.size w w' := by
  obtain ⟨a', hoff, hv'⟩ := off_of hv 0 0 rfl (by omega)
  simp at hv'
  refine ⟨a', hv', fun da dn dc w hx => ?_⟩
  have hvw := Vw.below hx (Nat.le_refl _) hv
  have HS := Lib.hid hoff
  clear hoff
  unfold ct
  go_enter Tryd.func42, Tryd.ntmps42
  go_wp2_with (go_at_call 53; refine (kindOf_ok 69 21 0 ⟨rfl, rfl⟩ _).mono ?_; rintro e w1 ⟨rfl, hb1⟩; have hs1 : w.heap.size + 3 ≤ w1.heap.size := (by have := hb1.size; simp at this; omega); have hB3 : Blk w1 w.heap.size 81 #[.slice da dn dc, .int .i64 69] := Blk.below (((Blk.new _ _ _).alloc _).alloc _) hb1 (by simp; omega); have hB6 : Blk w1 (w.heap.size + 1) 29 #[.int .i64 0, .int .u64 0, .string ⟨#[]⟩, nilS, .int .i64 0, nilS] := Blk.below ((by simpa using Blk.new (w.alloc _) _ _ : Blk ((w.alloc _).alloc _) (w.heap.size + 1) _ _).alloc _) hb1 (by simp); have hc30 := hB3.cell (i := 0) rfl; have hc31 := hB3.cell (i := 1) rfl; have hf6 := fun i => hB6.frozen i; have hc60 := hB6.cell (i := 0) rfl; have hc61 := hB6.cell (i := 1) rfl; have hc62 := hB6.cell (i := 2) rfl; have hc63 := hB6.cell (i := 3) rfl; have hc64 := hB6.cell (i := 4) rfl; have hc65 := hB6.cell (i := 5) rfl)
  have hv1 := Vw.below hb1 (Nat.le_refl _) (((hvw.alloc _).alloc _).alloc _)
  go_wp2_with (go_at_call 54; refine (takeBig_ok _ _ _ _ 0 rfl l _ (hv1.alloc _) _ HS.out (by omega) (by omega)).mono ?_; rintro e w2 ⟨rfl, nq, rfl⟩; have hd31 := fun o => ((hB3.alloc o).drewN nq).cell (i := 1) rfl; have hg6 := fun o i => ((hB6.alloc o).drewN nq).frozen i; have hd60 := fun o => ((hB6.alloc o).drewN nq).cell (i := 0) rfl; have hd61 := fun o => ((hB6.alloc o).drewN nq).cell (i := 1) rfl; have hd62 := fun o => ((hB6.alloc o).drewN nq).cell (i := 2) rfl; have hd63 := fun o => ((hB6.alloc o).drewN nq).cell (i := 3) rfl; have hd64 := fun o => ((hB6.alloc o).drewN nq).cell (i := 4) rfl; have hd65 := fun o => ((hB6.alloc o).drewN nq).cell (i := 5) rfl)
  have hbw : Below w.heap.size w w1 := Below.trans ((((Below.refl _ _).alloc (Nat.le_refl _) _).alloc (by simp) _).alloc (by simp; omega) _) (hb1.mono (by simp; omega))
  refine bodyPost_ret (results_ctt rfl _ _ (w.heap.size + 1) 29 _ _ rfl (Blk.set6 ((hB6.alloc _).drewN nq) rfl _ _ _ _ _ _) Tryd.underlying29 rfl (by kernel_rfl)) rfl ⟨rfl, ?_⟩
  (repeat (first | with_reducible exact Below.refl _ _ | with_reducible assumption | with_reducible refine below_drewN ?_ _ | with_reducible refine Below.drew ?_ | with_reducible refine below_row ?_ (by first | omega | (simp; done) | (simp; omega)) _ | with_reducible refine Below.alloc ?_ (by first | omega | (simp; done) | (simp; omega)) _ | with_reducible refine Below.setCell ?_ (by first | omega | (simp; done) | (simp; omega)) _))

set_option maxRecDepth 100000 in
set_option maxHeartbeats 4000000 in
theorem takeValueD_of (a : Option Addr) (n c : Nat) (w0 : World) (lv : Int) (z dk dnum : Int) (dtext : ByteArray) (a3 : Option Addr) (n3 c3 : Nat)
    (hcon : ∀ w, Below w0.heap.size w0 w → Calls Tryd.prog 41 #[.slice a n c, .int .i64 lv] w (GotCon w z dk dnum dtext a3 n3 c3))
    (k num : Int) (text : ByteArray) (a2 : Option Addr) (n2 c2 : Nat)
    (ht : ∀ b w, Below w0.heap.size w0 w → Calls Tryd.prog 42 #[ct (at1 b) z, .slice a3 n3 c3, .int .i64 lv] w fun e w' => e = .returned (got (av k num text nilS 0 (at1 b)) a2 n2 c2) ∧ Below w.heap.size w w') (w : World) (hx : Below w0.heap.size w0 w) :
    Calls Tryd.prog 29 #[.slice a n c, .int .i64 lv] w fun e w' => ∃ b, e = .returned (got (av k num text nilS 0 (at1 b)) a2 n2 c2) ∧ w.heap.size ≤ b ∧ One w' b dk dnum dtext ∧ Below w.heap.size w w' := by
  have HT := Lib.hid ht
  clear ht
  have hxa : ∀ o, Below w0.heap.size w0 (w.alloc o) := fun o => hx.alloc hx.size o
  go_enter Tryd.func29, Tryd.ntmps29
  go_wp2_with (go_at_call 41; refine (hcon _ (hxa _)).mono ?_; rintro e w1 ⟨b, rfl, hbge, hone, hb1⟩; unfold ct; have hs1 : w.heap.size + 1 ≤ w1.heap.size := (by have := hb1.size; simp at this; omega); have hB4 : Blk w1 w.heap.size 29 #[.int .i64 0, .int .u64 0, .string ⟨#[]⟩, nilS, .int .i64 0, nilS] := Blk.below (Blk.new _ _ _) hb1 (by simp); have hc0 := hB4.cell (i := 0) rfl; have hc1 := hB4.cell (i := 1) rfl; have hc2 := hB4.cell (i := 2) rfl; have hc3 := hB4.cell (i := 3) rfl; have hc4 := hB4.cell (i := 4) rfl; have hc5 := hB4.cell (i := 5) rfl; have hf := fun i => hB4.frozen i)
  have hbw : Below w.heap.size w w1 := Below.trans ((Below.refl _ _).alloc (Nat.le_refl _) _) (hb1.mono (by simp))
  have hx1 : ∀ o, Below w0.heap.size w0 (w1.alloc o) := fun o => (hx.trans (hbw.mono hx.size)).alloc (Nat.le_trans hx.size hbw.size) o
  refine (HT.out b _ (hx1 _)).mono ?_
  rintro e w2 ⟨rfl, hb2⟩
  have hB4b := fun o (h : Below (w1.alloc o).heap.size (w1.alloc o) w2) => Blk.below (hB4.alloc o) h (by simp; omega)
  have hB4c := hB4b _ hb2
  have hbl := hone.lt
  have hone2 : One w2 b dk dnum dtext := Blk.below (hone.alloc _) hb2 (by simp; omega)
  have hc0 := hB4c.cell (i := 0) rfl
  have hc1 := hB4c.cell (i := 1) rfl
  have hc2 := hB4c.cell (i := 2) rfl
  have hc3 := hB4c.cell (i := 3) rfl
  have hc4 := hB4c.cell (i := 4) rfl
  have hc5 := hB4c.cell (i := 5) rfl
  have hf := fun i => hB4c.frozen i
  simp at hbge
  unfold got av
  go_wp2_with fail
  refine bodyPost_ret (results_ctt rfl _ _ w.heap.size 29 _ _ rfl (Blk.set6 hB4c rfl _ _ _ _ _ _) Tryd.underlying29 rfl (by kernel_rfl)) rfl ⟨b, rfl, by omega, ?_, ?_⟩
  · have hne : b ≠ w.heap.size := by omega
    exact ((((((hone2.other (by simpa using hne) _).other (by simpa using hne) _).other (by simpa using hne) _).other (by simpa using hne) _).other (by simpa using hne) _).other (by simpa using hne) _)
  · have hbz : Below w.heap.size w w2 := (hbw.alloc hbw.size _).trans (hb2.mono (by simp; omega))
    (repeat (first | with_reducible exact Below.refl _ _ | with_reducible assumption | with_reducible refine below_drewN ?_ _ | with_reducible refine Below.drew ?_ | with_reducible refine below_row ?_ (by first | omega | (simp; done) | (simp; omega)) _ | with_reducible refine Below.alloc ?_ (by first | omega | (simp; done) | (simp; omega)) _ | with_reducible refine Below.setCell ?_ (by first | omega | (simp; done) | (simp; omega)) _))

set_option maxRecDepth 100000 in
set_option maxHeartbeats 4000000 in
theorem wrote_desc (a : Option Addr) (n c : Nat) (k num : Int) (text : ByteArray) (dk dnum : Int) (dtext : ByteArray) (a2 : Option Addr) (c2 : Nat) (w : World) (b : Nat) (hb : One w b dk dnum dtext)
    (ht : ∀ w', Below w.heap.size w w' → Calls Tryd.prog 29 #[.slice a n c, .int .i64 8] w' fun e w'' => ∃ b', e = .returned (got (av k num text nilS 0 (at1 b')) a2 0 c2) ∧ w'.heap.size ≤ b' ∧ One w'' b' dk dnum dtext ∧ Below w'.heap.size w' w'') :
    Calls Tryd.prog 12 #[.slice a n c, .bool true, av k num text nilS 0 (at1 b)] w fun e w' => e = .returned (.bool true) ∧ Below w.heap.size w w' := by
  have HT := Lib.hid ht
  clear ht
  have hxa : ∀ o, Below w.heap.size w (w.alloc o) := fun o => (Below.refl _ _).alloc (Nat.le_refl _) o
  have hblt := hb.lt
  unfold av
  go_enter Tryd.func12, Tryd.ntmps12
  go_wp2_with (go_at_call 29; refine (HT.out _ (hxa _)).mono ?_; rintro e w1 ⟨b2, rfl, hbge, hone, hb1⟩; unfold got av; have hs1 : w.heap.size + 1 ≤ w1.heap.size := (by have := hb1.size; simp at this; omega); have hB5 : Blk w1 w.heap.size 29 #[.int .i64 k, .int .u64 num, .string text, nilS, .int .i64 0, at1 b] := Blk.below (Blk.new _ _ _) hb1 (by simp); have hc0 := fun o => (hB5.alloc o).cell (i := 0) rfl; have hc1 := fun o => (hB5.alloc o).cell (i := 1) rfl; have hc2 := fun o => (hB5.alloc o).cell (i := 2) rfl; have hc3 := fun o => (hB5.alloc o).cell (i := 3) rfl; have hc4 := fun o => (hB5.alloc o).cell (i := 4) rfl; have hc5 := fun o => (hB5.alloc o).cell (i := 5) rfl)
  have hb1' : One w1 b dk dnum dtext := Blk.below (hb.alloc _) hb1 (by simp; omega)
  refine (same_desc k num text b b2 dk dnum dtext _ (hb1'.alloc _) (hone.alloc _)).mono ?_
  rintro e w2 ⟨rfl, hb2⟩
  go_wp2_with fail
  go_ret
  refine ⟨rfl, ?_⟩
  have hbw : Below w.heap.size w w1 := Below.trans ((Below.refl _ _).alloc (Nat.le_refl _) _) (hb1.mono (by simp))
  exact (hbw.alloc hbw.size _).trans (hb2.mono (by simp; omega))
end Go.Proofs.YtkbfppjniaejnaaDoor
