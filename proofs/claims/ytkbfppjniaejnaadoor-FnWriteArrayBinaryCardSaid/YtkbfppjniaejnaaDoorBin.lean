/- Bytes in AMQP: take at a binary; '[]byte(s)'; writeVariableArrayHeader. -/
import Derived.Test.YtkbfppjniaejnaaDoorArrW
import Derived.Laws.IdiomStrings
namespace Go.Proofs.YtkbfppjniaejnaaDoor
open Go.RowKit
set_option linter.unusedVariables false
set_option linter.unusedSimpArgs false

set_option maxRecDepth 100000 in
set_option maxHeartbeats 4000000 in
theorem take_bink (k : Int) (hk20 : k = 18) (c : Int) (n' : Nat) (hk : Kind c k n') (h8 : n' ≤ 8) (h45 : c ≠ 69) (da : Option Addr) (dn dc : Nat) (a : Option Addr) (n cap : Nat) (l : List Int) (lv : Int) (w0 : World) (hv : Vw w0 a n cap l) (hkn : n' ≤ n)
    (u : Nat) (hu : beN (l.take n') = u) (hun : u ≤ n - n') (t : ByteArray) (ht : strOfNums ((l.drop n').take u) = t) :
    ∃ a', Vw w0 a' (n - n' - u) (cap - n' - u) ((l.drop n').drop u) ∧ ∀ w, Below w0.heap.size w0 w → Calls Tryd.prog 42 #[ct (.slice da dn dc) c, .slice a n cap, .int .i64 lv] w fun e w' => e = .returned (got (av k 0 t nilS 0 (.slice da dn dc)) a' (n - n' - u) (cap - n' - u)) ∧ Below w.heap.size w w' := by
  obtain ⟨a1, hoff, hv'⟩ := off_of hv (n' : Int) n' rfl hkn
  obtain ⟨a2, hoff2, hv2⟩ := off_u64 hv' (u : Int) u rfl hun
  have hcn := hv'.cap
  have hcb := hv'.big
  have huc : u ≤ cap - n' := by omega
  refine ⟨a2, hv2, fun w hx => ?_⟩
  have hvw := Vw.below hx (Nat.le_refl _) hv
  have hvw1 := Vw.below hx (Nat.le_refl _) hv'
  have e1 : ((n' : Int) == 16) = false := by simp; omega
  have e6 : (c == 69) = false := by simpa using h45
  have hgt : decide ((u : Int) > ((n - n' : Nat) : Int)) = false := by simp; omega
  have y1 : (k == 0) = false := by subst hk20; decide
  have y2 : (k == 1) = false := by subst hk20; decide
  have y3 : decide (k ≥ 21) = false := by subst hk20; decide
  have y4 : decide (k ≥ 18) = true := by subst hk20; decide
  have y5 : (k != 19) = true := by subst hk20; decide
  have y6 : (k != 20) = true := by subst hk20; decide
  clear hk20
  have HS := Lib.hid hoff
  have HK := Lib.hid hk
  unfold Off64 at hoff2
  clear hoff hk
  unfold ct
  go_enter Tryd.func42, Tryd.ntmps42
  go_wp2_with (go_at_call 53; refine (kindOf_ok c k n' HK.out _).mono ?_; rintro e w1 ⟨rfl, hb1⟩; have hs1 : w.heap.size + 3 ≤ w1.heap.size := (by have := hb1.size; simp at this; omega); have hB3 : Blk w1 w.heap.size 81 #[.slice da dn dc, .int .i64 c] := Blk.below (((Blk.new _ _ _).alloc _).alloc _) hb1 (by simp; omega); have hB6 : Blk w1 (w.heap.size + 1) 29 #[.int .i64 0, .int .u64 0, .string ⟨#[]⟩, nilS, .int .i64 0, nilS] := Blk.below ((by simpa using Blk.new (w.alloc _) _ _ : Blk ((w.alloc _).alloc _) (w.heap.size + 1) _ _).alloc _) hb1 (by simp); have hc30 := hB3.cell (i := 0) rfl; have hc31 := hB3.cell (i := 1) rfl; have hf6 := fun i => hB6.frozen i; have hc60 := hB6.cell (i := 0) rfl; have hc61 := hB6.cell (i := 1) rfl; have hc62 := hB6.cell (i := 2) rfl; have hc63 := hB6.cell (i := 3) rfl; have hc64 := hB6.cell (i := 4) rfl; have hc65 := hB6.cell (i := 5) rfl)
  have hv1 := Vw.below hb1 (Nat.le_refl _) (((hvw.alloc _).alloc _).alloc _)
  go_wp2_with (go_at_call 54; (refine (takeBig_ok _ _ _ _ n' rfl l _ (hv1.alloc _) _ HS.out hkn (by omega)).mono ?_); rw [hu]; rintro e w2 ⟨rfl, nq, rfl⟩; have hcv := fun o => conv_of ((((Vw.below hb1 (Nat.le_refl _) (((hvw1.alloc _).alloc _).alloc _)).take hun).alloc o).drewN nq); rw [ht] at hcv; have hd31 := fun o => ((hB3.alloc o).drewN nq).cell (i := 1) rfl; have hg6 := fun o i => ((hB6.alloc o).drewN nq).frozen i; have hd60 := fun o => ((hB6.alloc o).drewN nq).cell (i := 0) rfl; have hd61 := fun o => ((hB6.alloc o).drewN nq).cell (i := 1) rfl; have hd62 := fun o => ((hB6.alloc o).drewN nq).cell (i := 2) rfl; have hd63 := fun o => ((hB6.alloc o).drewN nq).cell (i := 3) rfl; have hd64 := fun o => ((hB6.alloc o).drewN nq).cell (i := 4) rfl; have hd65 := fun o => ((hB6.alloc o).drewN nq).cell (i := 5) rfl)
  have hB13 : Blk ((((w1.alloc (.cells #[.int .i64 k, .int .u64 0, .string ⟨#[]⟩, nilS, .int .i64 0, .slice da dn dc] 29)).drewN nq).setCell ⟨w1.heap.size, 2, none⟩ (.string t))) w1.heap.size 29 #[.int .i64 k, .int .u64 0, .string t, nilS, .int .i64 0, .slice da dn dc] := by
    have := ((Blk.new w1 29 #[.int .i64 k, .int .u64 0, .string ⟨#[]⟩, nilS, .int .i64 0, .slice da dn dc]).drewN nq).set 2 (.string t)
    simpa using this
  have hB6x : Blk ((((w1.alloc (.cells #[.int .i64 k, .int .u64 0, .string ⟨#[]⟩, nilS, .int .i64 0, .slice da dn dc] 29)).drewN nq).setCell ⟨w1.heap.size, 2, none⟩ (.string t))) (w.heap.size + 1) 29 #[.int .i64 0, .int .u64 0, .string ⟨#[]⟩, nilS, .int .i64 0, nilS] := ((hB6.alloc _).drewN nq).other (by simp; omega) _
  have hbw : Below w.heap.size w w1 := Below.trans ((((Below.refl _ _).alloc (Nat.le_refl _) _).alloc (by simp) _).alloc (by simp; omega) _) (hb1.mono (by simp; omega))
  have hbx : Below w.heap.size w ((((w1.alloc (.cells #[.int .i64 k, .int .u64 0, .string ⟨#[]⟩, nilS, .int .i64 0, .slice da dn dc] 29)).drewN nq).setCell ⟨w1.heap.size, 2, none⟩ (.string t))) := by (repeat (first | with_reducible exact Below.refl _ _ | with_reducible assumption | with_reducible refine below_drewN ?_ _ | with_reducible refine Below.drew ?_ | with_reducible refine below_row ?_ (by first | omega | (simp; done) | (simp; omega)) _ | with_reducible refine Below.alloc ?_ (by first | omega | (simp; done) | (simp; omega)) _ | with_reducible refine Below.setCell ?_ (by first | omega | (simp; done) | (simp; omega)) _))
  have hne : ¬ w.heap.size + 1 = w1.heap.size := by omega
  have hne2 : ¬ w1.heap.size = w.heap.size + 1 := by omega
  generalize hW : ((((w1.alloc (.cells #[.int .i64 k, .int .u64 0, .string ⟨#[]⟩, nilS, .int .i64 0, .slice da dn dc] 29)).drewN nq).setCell ⟨w1.heap.size, 2, none⟩ (.string t))) = W2 at *
  have hg6' : w.heap.size + 1 ≤ w.heap.size + 1 := Nat.le_refl _
  generalize hg6 : w.heap.size + 1 = g6 at *
  generalize hg13 : w1.heap.size = g13 at *
  clear hW hd60 hd61 hd62 hd63 hd64 hd65 hd31 hc60 hc61 hc62 hc63 hc64 hc65 hg6 hf6 hcv hc30 hc31 hB3 hB6
  clear hv1 hb1 hg13 hs1
  have hH : Has6 W2 g6 := ⟨_, hB6x, rfl⟩
  clear hB6x
  have hgw : w.heap.size ≤ g6 := by omega
  have K : ∀ W, Below w.heap.size w W → Has6 W g6 → Blk W g13 29 #[.int .i64 k, .int .u64 0, .string t, nilS, .int .i64 0, .slice da dn dc] → (fun W => (Below w.heap.size w W ∧ Has6 W g6 ∧ Blk W g13 29 #[.int .i64 k, .int .u64 0, .string t, nilS, .int .i64 0, .slice da dn dc]) ∧ ((W.cell? ⟨g6, 0, none⟩ = some (oldc W g6 0) ∧ W.cell? ⟨g6, 1, none⟩ = some (oldc W g6 1) ∧ W.cell? ⟨g6, 2, none⟩ = some (oldc W g6 2) ∧ W.cell? ⟨g6, 3, none⟩ = some (oldc W g6 3) ∧ W.cell? ⟨g6, 4, none⟩ = some (oldc W g6 4) ∧ W.cell? ⟨g6, 5, none⟩ = some (oldc W g6 5)) ∧ (∀ i, W.frozen? ⟨g6, i, none⟩ = false)) ∧ W.cell? ⟨g13, 0, none⟩ = some (.int .i64 k) ∧ W.cell? ⟨g13, 1, none⟩ = some (.int .u64 0) ∧ W.cell? ⟨g13, 2, none⟩ = some (.string t) ∧ W.cell? ⟨g13, 3, none⟩ = some (.slice none 0 0) ∧ W.cell? ⟨g13, 4, none⟩ = some (.int .i64 0) ∧ W.cell? ⟨g13, 5, none⟩ = some (.slice da dn dc)) W := fun W h1 h2 h3 => ⟨⟨h1, h2, h3⟩, h2.cells, h3.cell rfl, h3.cell rfl, h3.cell rfl, h3.cell rfl, h3.cell rfl, h3.cell rfl⟩
  refine wp_region_held_drew (S := (fun W => (Below w.heap.size w W ∧ Has6 W g6 ∧ Blk W g13 29 #[.int .i64 k, .int .u64 0, .string t, nilS, .int .i64 0, .slice da dn dc]) ∧ ((W.cell? ⟨g6, 0, none⟩ = some (oldc W g6 0) ∧ W.cell? ⟨g6, 1, none⟩ = some (oldc W g6 1) ∧ W.cell? ⟨g6, 2, none⟩ = some (oldc W g6 2) ∧ W.cell? ⟨g6, 3, none⟩ = some (oldc W g6 3) ∧ W.cell? ⟨g6, 4, none⟩ = some (oldc W g6 4) ∧ W.cell? ⟨g6, 5, none⟩ = some (oldc W g6 5)) ∧ (∀ i, W.frozen? ⟨g6, i, none⟩ = false)) ∧ W.cell? ⟨g13, 0, none⟩ = some (.int .i64 k) ∧ W.cell? ⟨g13, 1, none⟩ = some (.int .u64 0) ∧ W.cell? ⟨g13, 2, none⟩ = some (.string t) ∧ W.cell? ⟨g13, 3, none⟩ = some (.slice none 0 0) ∧ W.cell? ⟨g13, 4, none⟩ = some (.int .i64 0) ∧ W.cell? ⟨g13, 5, none⟩ = some (.slice da dn dc))) (by kernel_rfl) ?hS0 (fun hHeld => ?hR0)
  case hS0 => (exact K _ (by (repeat (first | with_reducible exact Below.refl _ _ | with_reducible assumption | with_reducible refine below_drewN ?_ _ | with_reducible refine Below.drew ?_ | with_reducible refine below_row ?_ (by first | omega | (simp; done) | (simp; omega)) _ | with_reducible refine Below.alloc ?_ (by first | omega | (simp; done) | (simp; omega)) _ | with_reducible refine Below.setCell ?_ (by first | omega | (simp; done) | (simp; omega)) _))) (by repeat (first | with_reducible assumption | with_reducible refine Has6.set ?_ _ _ | with_reducible refine Has6.drew ?_ | with_reducible refine Has6.drewN ?_ _)) (by (repeat (first | with_reducible exact Blk.new _ _ _ | with_reducible assumption | with_reducible refine Blk.alloc ?_ _ | with_reducible refine Blk.drewN ?_ _ | with_reducible refine Blk.drew ?_ | with_reducible refine Blk.other ?_ (by first | omega | (simp; done) | (simp; omega)) _))))
  refine wpAnyH_take (i := 0) (v := ?_) (by simp only [List.getElem?_toArray, List.getElem?_cons_succ, List.getElem?_cons_zero]; rfl) (by kernel_rfl) (by kernel_rfl) (by kernel_rfl) (by intro _ _ _ h; exact h) (Or.inl ⟨by rfl, ?h0_1⟩) (by assumption) ?r0_1
  case h0_1 => (intro w hSw; (try dsimp only at hSw); go_simp; try with_reducible rfl)
  try simp only [Act.put, List.setIfInBounds_toArray, List.set_cons_zero, List.set_cons_succ]
  refine wpAnyH_take (i := 1) (v := ?_) (by simp only [List.getElem?_toArray, List.getElem?_cons_succ, List.getElem?_cons_zero]; rfl) (by kernel_rfl) (by kernel_rfl) (by kernel_rfl) (by intro _ _ _ h; exact h) (Or.inl ⟨by rfl, ?h1_2⟩) (by assumption) ?r1_2
  case h1_2 => (intro w hSw; (try dsimp only at hSw); go_simp; try with_reducible rfl)
  try simp only [Act.put, List.setIfInBounds_toArray, List.set_cons_zero, List.set_cons_succ]
  refine wpAnyH_take (i := 2) (v := ?_) (by simp only [List.getElem?_toArray, List.getElem?_cons_succ, List.getElem?_cons_zero]; rfl) (by kernel_rfl) (by kernel_rfl) (by kernel_rfl) (by intro _ _ _ h; exact h) (Or.inl ⟨by rfl, ?h2_3⟩) (by assumption) ?r2_3
  case h2_3 => (intro w hSw; (try dsimp only at hSw); go_simp; try with_reducible rfl)
  try simp only [Act.put, List.setIfInBounds_toArray, List.set_cons_zero, List.set_cons_succ]
  refine wpAnyH_take (i := 3) (v := ?_) (by simp only [List.getElem?_toArray, List.getElem?_cons_succ, List.getElem?_cons_zero]; rfl) (by kernel_rfl) (by kernel_rfl) (by kernel_rfl) (by intro _ _ _ h; exact h) (Or.inl ⟨by rfl, ?h3_4⟩) (by assumption) ?r3_4
  case h3_4 => (intro w hSw; (try dsimp only at hSw); go_simp; try with_reducible rfl)
  try simp only [Act.put, List.setIfInBounds_toArray, List.set_cons_zero, List.set_cons_succ]
  refine wpAnyH_take (i := 4) (v := ?_) (by simp only [List.getElem?_toArray, List.getElem?_cons_succ, List.getElem?_cons_zero]; rfl) (by kernel_rfl) (by kernel_rfl) (by kernel_rfl) (by intro _ _ _ h; exact h) (Or.inl ⟨by rfl, ?h4_5⟩) (by assumption) ?r4_5
  case h4_5 => (intro w hSw; (try dsimp only at hSw); go_simp; try with_reducible rfl)
  try simp only [Act.put, List.setIfInBounds_toArray, List.set_cons_zero, List.set_cons_succ]
  refine wpAnyH_take (i := 5) (v := ?_) (by simp only [List.getElem?_toArray, List.getElem?_cons_succ, List.getElem?_cons_zero]; rfl) (by kernel_rfl) (by kernel_rfl) (by kernel_rfl) (by intro _ _ _ h; exact h) (Or.inl ⟨by rfl, ?h5_6⟩) (by assumption) ?r5_6
  case h5_6 => (intro w hSw; (try dsimp only at hSw); go_simp; try with_reducible rfl)
  try simp only [Act.put, List.setIfInBounds_toArray, List.set_cons_zero, List.set_cons_succ]
  refine wpAnyH_take (i := 6) (v := ?_) (by simp only [List.getElem?_toArray, List.getElem?_cons_succ, List.getElem?_cons_zero]; rfl) (by kernel_rfl) (by kernel_rfl) (by kernel_rfl) (by intro _ _ _ h; exact h) (Or.inl ⟨by rfl, ?h6_7⟩) (by assumption) ?r6_7
  case h6_7 => (intro w hSw; (try dsimp only at hSw); go_simp; try with_reducible rfl)
  try simp only [Act.put, List.setIfInBounds_toArray, List.set_cons_zero, List.set_cons_succ]
  refine wpAnyH_take (i := 7) (v := undef) (by simp only [List.getElem?_toArray, List.getElem?_cons_succ, List.getElem?_cons_zero]; rfl) (by kernel_rfl) (by kernel_rfl) (by kernel_rfl) (by intro _ _ _ h; exact h) (Or.inr ⟨by rfl, rfl⟩) (by assumption) ?r7_8
  try simp only [Act.put, List.setIfInBounds_toArray, List.set_cons_zero, List.set_cons_succ]
  refine wpAnyH_take (i := 8) (v := undef) (by simp only [List.getElem?_toArray, List.getElem?_cons_succ, List.getElem?_cons_zero]; rfl) (by kernel_rfl) (by kernel_rfl) (by kernel_rfl) (by intro _ _ _ h; exact h) (Or.inr ⟨by rfl, rfl⟩) (by assumption) ?r8_9
  try simp only [Act.put, List.setIfInBounds_toArray, List.set_cons_zero, List.set_cons_succ]
  refine wpAnyH_take (i := 9) (v := undef) (by simp only [List.getElem?_toArray, List.getElem?_cons_succ, List.getElem?_cons_zero]; rfl) (by kernel_rfl) (by kernel_rfl) (by kernel_rfl) (by intro _ _ _ h; exact h) (Or.inr ⟨by rfl, rfl⟩) (by assumption) ?r9_10
  try simp only [Act.put, List.setIfInBounds_toArray, List.set_cons_zero, List.set_cons_succ]
  refine wpAnyH_take (i := 10) (v := ?_) (by simp only [List.getElem?_toArray, List.getElem?_cons_succ, List.getElem?_cons_zero]; rfl) (by kernel_rfl) (by kernel_rfl) (by kernel_rfl) (by intro _ _ _ h; exact h) (Or.inl ⟨by rfl, ?h10_11⟩) (by assumption) ?r10_11
  case h10_11 => (intro w hSw; (try dsimp only at hSw); go_simp; try with_reducible rfl)
  try simp only [Act.put, List.setIfInBounds_toArray, List.set_cons_zero, List.set_cons_succ]
  refine wpAnyH_take (i := 11) (v := ?_) (by simp only [List.getElem?_toArray, List.getElem?_cons_succ, List.getElem?_cons_zero]; rfl) (by kernel_rfl) (by kernel_rfl) (by kernel_rfl) (by intro _ _ _ h; exact h) (Or.inl ⟨by rfl, ?h11_12⟩) (by assumption) ?r11_12
  case h11_12 => (intro w hSw; (try dsimp only at hSw); go_simp; try with_reducible rfl)
  try simp only [Act.put, List.setIfInBounds_toArray, List.set_cons_zero, List.set_cons_succ]
  refine wpAnyH_take (i := 12) (v := ?_) (by simp only [List.getElem?_toArray, List.getElem?_cons_succ, List.getElem?_cons_zero]; rfl) (by kernel_rfl) (by kernel_rfl) (by kernel_rfl) (by intro _ _ _ h; exact h) (Or.inl ⟨by rfl, ?h12_13⟩) (by assumption) ?r12_13
  case h12_13 => (intro w hSw; (try dsimp only at hSw); go_simp; try with_reducible rfl)
  try simp only [Act.put, List.setIfInBounds_toArray, List.set_cons_zero, List.set_cons_succ]
  refine wpAnyH_take (i := 13) (v := ?_) (by simp only [List.getElem?_toArray, List.getElem?_cons_succ, List.getElem?_cons_zero]; rfl) (by kernel_rfl) (by kernel_rfl) (by kernel_rfl) (by intro _ _ _ h; exact h) (Or.inl ⟨by rfl, ?h13_14⟩) (by assumption) ?r13_14
  case h13_14 => (intro w hSw; (try dsimp only at hSw); go_simp; try with_reducible rfl)
  try simp only [Act.put, List.setIfInBounds_toArray, List.set_cons_zero, List.set_cons_succ]
  refine wpAnyH_take (i := 14) (v := ?_) (by simp only [List.getElem?_toArray, List.getElem?_cons_succ, List.getElem?_cons_zero]; rfl) (by kernel_rfl) (by kernel_rfl) (by kernel_rfl) (by intro _ _ _ h; exact h) (Or.inl ⟨by rfl, ?h14_15⟩) (by assumption) ?r14_15
  case h14_15 => (intro w hSw; (try dsimp only at hSw); go_simp; try with_reducible rfl)
  try simp only [Act.put, List.setIfInBounds_toArray, List.set_cons_zero, List.set_cons_succ]
  refine wpAnyH_take (i := 15) (v := undef) (by simp only [List.getElem?_toArray, List.getElem?_cons_succ, List.getElem?_cons_zero]; rfl) (by kernel_rfl) (by kernel_rfl) (by kernel_rfl) (by intro _ _ _ h; exact h) (Or.inr ⟨by rfl, rfl⟩) (by assumption) ?r15_16
  try simp only [Act.put, List.setIfInBounds_toArray, List.set_cons_zero, List.set_cons_succ]
  refine wpAnyH_take (i := 16) (v := undef) (by simp only [List.getElem?_toArray, List.getElem?_cons_succ, List.getElem?_cons_zero]; rfl) (by kernel_rfl) (by kernel_rfl) (by kernel_rfl) (by intro _ _ _ h; exact h) (Or.inr ⟨by rfl, rfl⟩) (by assumption) ?r16_17
  try simp only [Act.put, List.setIfInBounds_toArray, List.set_cons_zero, List.set_cons_succ]
  refine wpAnyH_take (i := 17) (v := undef) (by simp only [List.getElem?_toArray, List.getElem?_cons_succ, List.getElem?_cons_zero]; rfl) (by kernel_rfl) (by kernel_rfl) (by kernel_rfl) (by intro _ _ _ h; exact h) (Or.inr ⟨by rfl, rfl⟩) (by assumption) ?r17_18
  try simp only [Act.put, List.setIfInBounds_toArray, List.set_cons_zero, List.set_cons_succ]
  refine wpAnyH_take (i := 18) (v := ?_) (by simp only [List.getElem?_toArray, List.getElem?_cons_succ, List.getElem?_cons_zero]; rfl) (by kernel_rfl) (by kernel_rfl) (by kernel_rfl) (by intro _ _ _ h; exact h) (Or.inl ⟨by rfl, ?h18_19⟩) (by assumption) ?r18_19
  case h18_19 => (intro w hSw; (try dsimp only at hSw); go_simp; try with_reducible rfl)
  try simp only [Act.put, List.setIfInBounds_toArray, List.set_cons_zero, List.set_cons_succ]
  refine wpAnyH_take (i := 19) (v := ?_) (by simp only [List.getElem?_toArray, List.getElem?_cons_succ, List.getElem?_cons_zero]; rfl) (by kernel_rfl) (by kernel_rfl) (by kernel_rfl) (by intro _ _ _ h; exact h) (Or.inl ⟨by rfl, ?h19_20⟩) (by assumption) ?r19_20
  case h19_20 => (intro w hSw; (try dsimp only at hSw); go_simp; try with_reducible rfl)
  try simp only [Act.put, List.setIfInBounds_toArray, List.set_cons_zero, List.set_cons_succ]
  refine wpAnyH_ready (rs := [20]) (by kernel_rfl) (by simp) ?_
  refine AllReadyH.cons (by simp only [List.getElem?_toArray, List.getElem?_cons_succ, List.getElem?_cons_zero]; rfl) (fun Kr hKr => ?_) AllReadyH.nil
  go_simp
  refine hKr.out _ _ ?hS20_21 (fun hHeld => ?hR20_21)
  case hS20_21 => (exact K _ (by (repeat (first | with_reducible exact Below.refl _ _ | with_reducible assumption | with_reducible refine below_drewN ?_ _ | with_reducible refine Below.drew ?_ | with_reducible refine below_row ?_ (by first | omega | (simp; done) | (simp; omega)) _ | with_reducible refine Below.alloc ?_ (by first | omega | (simp; done) | (simp; omega)) _ | with_reducible refine Below.setCell ?_ (by first | omega | (simp; done) | (simp; omega)) _))) (by repeat (first | with_reducible assumption | with_reducible refine Has6.set ?_ _ _ | with_reducible refine Has6.drew ?_ | with_reducible refine Has6.drewN ?_ _)) (by (repeat (first | with_reducible exact Blk.new _ _ _ | with_reducible assumption | with_reducible refine Blk.alloc ?_ _ | with_reducible refine Blk.drewN ?_ _ | with_reducible refine Blk.drew ?_ | with_reducible refine Blk.other ?_ (by first | omega | (simp; done) | (simp; omega)) _))))
  clear hKr Kr
  try simp only [Act.put, List.setIfInBounds_toArray, List.set_cons_zero, List.set_cons_succ]
  refine wpAnyH_take (i := 21) (v := ?_) (by simp only [List.getElem?_toArray, List.getElem?_cons_succ, List.getElem?_cons_zero]; rfl) (by kernel_rfl) (by kernel_rfl) (by kernel_rfl) (by intro _ _ _ h; exact h) (Or.inl ⟨by rfl, ?h21_22⟩) (by assumption) ?r21_22
  case h21_22 => (intro w hSw; (try dsimp only at hSw); go_simp; try with_reducible rfl)
  try simp only [Act.put, List.setIfInBounds_toArray, List.set_cons_zero, List.set_cons_succ]
  refine wpAnyH_take (i := 22) (v := ?_) (by simp only [List.getElem?_toArray, List.getElem?_cons_succ, List.getElem?_cons_zero]; rfl) (by kernel_rfl) (by kernel_rfl) (by kernel_rfl) (by intro _ _ _ h; exact h) (Or.inl ⟨by rfl, ?h22_23⟩) (by assumption) ?r22_23
  case h22_23 => (intro w hSw; (try dsimp only at hSw); go_simp; try with_reducible rfl)
  try simp only [Act.put, List.setIfInBounds_toArray, List.set_cons_zero, List.set_cons_succ]
  refine wpAnyH_done (by kernel_rfl) ?_ _
  go_wp2_with fail
  obtain ⟨cs, hBc, hcs⟩ := hH
  refine bodyPost_ret (results_ctt rfl _ _ g6 29 _ _ rfl ((Blk.set6 hBc hcs _ _ _ _ _ _).drew) Tryd.underlying29 rfl (by kernel_rfl)) rfl ⟨rfl, ?_⟩
  exact (((((((hbx.setCell hgw _).setCell hgw _).setCell hgw _).setCell hgw _).setCell hgw _).setCell hgw _)).drew

theorem take_bin (c : Int) (n' : Nat) (hk : Kind c 18 n') (h8 : n' ≤ 8) (h45 : c ≠ 69) (da : Option Addr) (dn dc : Nat) (a : Option Addr) (n cap : Nat) (l : List Int) (lv : Int) (w0 : World) (hv : Vw w0 a n cap l) (hkn : n' ≤ n)
    (u : Nat) (hu : beN (l.take n') = u) (hun : u ≤ n - n') (t : ByteArray) (ht : strOfNums ((l.drop n').take u) = t) :
    ∃ a', Vw w0 a' (n - n' - u) (cap - n' - u) ((l.drop n').drop u) ∧ ∀ w, Below w0.heap.size w0 w → Calls Tryd.prog 42 #[ct (.slice da dn dc) c, .slice a n cap, .int .i64 lv] w fun e w' => e = .returned (got (av 18 0 t nilS 0 (.slice da dn dc)) a' (n - n' - u) (cap - n' - u)) ∧ Below w.heap.size w w' :=
  take_bink 18 rfl c n' hk h8 h45 da dn dc a n cap l lv w0 hv hkn u hu hun t ht

theorem cell_of_heap {W : World} {g i : Nat} {cs : Array Value} {t : TypeId} {f : Nat × Nat} {v : Value} (h : W.heap[g]? = some (.cells cs t f)) (hv : cs[i]? = some v) : W.cell? ⟨g, i, none⟩ = some v := by
  simp [World.cell?, h, hv]

/-- '[]byte(s)': new bytes. -/
theorem conv_new (t : ByteArray) (ht : t.size ≤ 9223372036854775807) (w : World) : ∃ c W', (convert 9 22 (.string t)).run Tryd.prog w = .ok (.slice (some ⟨w.heap.size, 0, none⟩) t.size c) W' ∧ Vw W' (some ⟨w.heap.size, 0, none⟩) t.size c (ints t) ∧ Below w.heap.size w W' ∧ w.heap.size < W'.heap.size := by
  refine ⟨_, _, run_bytes_of_string (P := Tryd.prog) w 9 22 5 t Tryd.underlying9 Tryd.underlying22 Tryd.underlying5, ?_, by (repeat (first | with_reducible exact Below.refl _ _ | with_reducible assumption | with_reducible refine below_drewN ?_ _ | with_reducible refine Below.drew ?_ | with_reducible refine below_row ?_ (by first | omega | (simp; done) | (simp; omega)) _ | with_reducible refine Below.alloc ?_ (by first | omega | (simp; done) | (simp; omega)) _ | with_reducible refine Below.setCell ?_ (by first | omega | (simp; done) | (simp; omega)) _)), by simp⟩
  refine ⟨ints_length t, grownCap_ge _ _ _ _, by have := grownCap_le_maxLen w t.size 0 5 (by simp only [maxLen]; omega); simpa [maxLen] using this, ints_bytes t, fun e => (by cases e), ?_⟩
  by_cases h0 : t.size = 0
  · exact .inl h0
  · refine .inr ⟨w.heap.size, 0, rfl, fun i hi => ?_⟩
    have hb : (w.drew.alloc (.cells (bytesRow t (grownCap w t.size 0 5)) 5 ((bytesRow t (grownCap w t.size 0 5)).size, (bytesRow t (grownCap w t.size 0 5)).size + 1))).heap[w.heap.size]? = some (.cells (bytesRow t (grownCap w t.size 0 5)) 5 ((bytesRow t (grownCap w t.size 0 5)).size, (bytesRow t (grownCap w t.size 0 5)).size + 1)) := heap_alloc_new w.drew _
    have hq : (bytesRow t (grownCap w t.size 0 5))[i]? = some (.int .u8 ((ints t).getD i 0)) := by
      have hit : i < t.data.size := hi
      unfold bytesRow
      rw [Array.getElem?_append_left (by simpa using hit), Array.getElem?_map, Array.getElem?_eq_getElem hit]
      simp [ints, List.getD, hit]
      rw [Array.getElem?_eq_getElem hit]
      rfl
    rw [Nat.zero_add]
    exact cell_of_heap hb hq

def binE (lw : Bool) (t : ByteArray) : List Int := (if lw then [(t.size : Int) / 16777216, (t.size : Int) / 65536 % 256, (t.size : Int) / 256 % 256, (t.size : Int) % 256] else [(t.size : Int)]) ++ ints t
def elB (lw : Bool) (t : ByteArray) : List Int × Int × ByteArray := (binE lw t, 0, t)
def lwz (lw : Bool) : Int := if lw then 176 else 160
def lws (lw : Bool) : Nat := if lw then 4 else 1

theorem ints_take' (t : ByteArray) (l : List Int) : (ints t ++ l).take t.size = ints t := List.take_left' (ints_length t)
theorem ints_drop' (t : ByteArray) (l : List Int) : (ints t ++ l).drop t.size = l := List.drop_left' (ints_length t)

theorem elemB (lw : Bool) (t : ByteArray) (ht : t.size ≤ 4096) (hlw : lw = false → t.size < 256) : Elem (lwz lw) 18 (elB lw t) := by
  intro w0 a n c tail lv hv
  cases lw with
  | true =>
    simp only [elB, binE, if_true] at hv
    have hn := hv.len
    simp [ints_length] at hn
    obtain ⟨a2, hv2, h⟩ := take_bin 176 4 ⟨rfl, rfl⟩ (by omega) (by omega) none 0 0 a n c _ lv w0 hv (by omega) t.size (by simp [beN]; omega) (by omega) t (by simp [ints_take', strOfNums_ints])
    have e1 : (elB true t).1.length = 4 + t.size := by simp [elB, binE, ints_length]; omega
    rw [e1, Nat.sub_add_eq n, Nat.sub_add_eq c]
    exact ⟨a2, by simpa [ints_drop'] using hv2, h⟩
  | false =>
    have hl := hlw rfl
    simp only [elB, binE, if_false, Bool.false_eq_true] at hv
    have hn := hv.len
    simp [ints_length] at hn
    obtain ⟨a2, hv2, h⟩ := take_bin 160 1 ⟨rfl, rfl⟩ (by omega) (by omega) none 0 0 a n c _ lv w0 hv (by omega) t.size (by simp [beN]) (by omega) t (by simp [ints_take', strOfNums_ints])
    have e1 : (elB false t).1.length = 1 + t.size := by simp [elB, binE, ints_length]; omega
    rw [e1, Nat.sub_add_eq n, Nat.sub_add_eq c]
    exact ⟨a2, by simpa [ints_drop'] using hv2, h⟩

set_option maxRecDepth 100000 in
set_option maxHeartbeats 4000000 in
theorem varHead_buf (lw : Bool) (g : Nat) (w : World) (hb : Bf w g []) (m q s : Nat) (hm : m ≤ 1000) (hq : q ≤ 8000000) (hs : s = q + m * lws lw) :
    Calls Tryd.prog 52 #[.pointer (some ⟨g, 0, none⟩), .int .i64 m, .int .i64 q, .int .u8 (lwz lw)] w fun e w' => e = .returned (.tuple #[]) ∧ Bf w' g (arrHd (lwz lw) m s) ∧ Below g w w' := by
  have hbl := hb.lt
  have hz0 : 0 ≤ lwz lw ∧ lwz lw < 256 := by cases lw <;> simp [lwz]
  have hls : lws lw ≤ 4 := by cases lw <;> simp [lws]
  have hml : m * lws lw ≤ 1000 * 4 := Nat.mul_le_mul hm hls
  have hml2 : m ≤ m * lws lw := Nat.le_mul_of_pos_right m (by cases lw <;> simp [lws])
  have hsb : s ≤ 8004000 := by omega
  have hms : m ≤ s := by omega
  unfold arrHd
  by_cases hsm : s + 2 ≤ 255
  · rw [if_pos hsm]
    have w1 : ((s : Int) + 2) % 256 = (s : Int) + 2 := by omega
    have w2 : (m : Int) % 256 = (m : Int) := by omega
    have d1 : decide ((s : Int) + 2 ≤ 255) = true := by simp; omega
    have hl := Own.lit 5 w [224, (s : Int) + 2, (m : Int), lwz lw] (by simp; omega) (by simp)
    cases lw with
    | true =>
      have hqi : (q : Int) + (m : Int) * 4 = (s : Int) := by simp [lws] at hs; omega
      clear hs hls hml hml2
      simp only [lwz, if_true] at hl ⊢
      go_enter Tryd.func52, Tryd.ntmps52
      go_wp2_with fail
      refine (bufAppend g [] _ 4 4 [224, (s : Int) + 2, (m : Int), 176] _ (hb.alloc _) hl.vw (by simp)).mono ?_
      rintro e w1 ⟨rfl, hb1, hl1⟩
      go_wp2_with fail
      first | go_end0 | refine bodyPost_ret (results_none rfl _ _ _) rfl ?_
      exact ⟨rfl, hb1, Below.trans ((Below.refl _ _).alloc (by omega) _) hl1⟩
    | false =>
      have hqi : (q : Int) + (m : Int) = (s : Int) := by simp [lws] at hs; omega
      clear hs hls hml hml2
      simp only [lwz, if_false, Bool.false_eq_true] at hl ⊢
      go_enter Tryd.func52, Tryd.ntmps52
      go_wp2_with fail
      refine (bufAppend g [] _ 4 4 [224, (s : Int) + 2, (m : Int), 160] _ (hb.alloc _) hl.vw (by simp)).mono ?_
      rintro e w1 ⟨rfl, hb1, hl1⟩
      go_wp2_with fail
      first | go_end0 | refine bodyPost_ret (results_none rfl _ _ _) rfl ?_
      exact ⟨rfl, hb1, Below.trans ((Below.refl _ _).alloc (by omega) _) hl1⟩
  · rw [if_neg hsm]
    have w1 : ((s : Int) + 5) % 4294967296 = (s : Int) + 5 := by omega
    have w2 : (m : Int) % 4294967296 = (m : Int) := by omega
    have d1 : decide ((s : Int) + 2 ≤ 255) = false := by simp; omega
    cases lw with
    | true =>
      have hqi : (q : Int) + (m : Int) * 4 = (s : Int) := by simp [lws] at hs; omega
      clear hs hls hml hml2
      simp only [lwz, if_true] at ⊢
      go_enter Tryd.func52, Tryd.ntmps52
      go_wp2_with fail
      refine (bufByte g [] 240 _ hb (by omega) (by omega) (by simp)).mono ?_
      rintro e w1 ⟨rfl, hb1, hl1⟩
      go_wp2_with fail
      refine (bufU32 g _ ((s : Int) + 5) _ hb1 (by omega) (by omega) (by simp)).mono ?_
      rintro e w2 ⟨rfl, hb2, hl2⟩
      go_wp2_with fail
      refine (bufU32 g _ (m : Int) _ hb2 (by omega) (by omega) (by simp)).mono ?_
      rintro e w3 ⟨rfl, hb3, hl3⟩
      go_wp2_with fail
      refine (bufByte g _ 176 _ hb3 (by omega) (by omega) (by simp)).mono ?_
      rintro e w4 ⟨rfl, hb4, hl4⟩
      go_wp2_with fail
      first | go_end0 | refine bodyPost_ret (results_none rfl _ _ _) rfl ?_
      exact ⟨rfl, by simpa using hb4, hl1.trans (hl2.trans (hl3.trans hl4))⟩
    | false =>
      have hqi : (q : Int) + (m : Int) = (s : Int) := by simp [lws] at hs; omega
      clear hs hls hml hml2
      simp only [lwz, if_false, Bool.false_eq_true] at ⊢
      go_enter Tryd.func52, Tryd.ntmps52
      go_wp2_with fail
      refine (bufByte g [] 240 _ hb (by omega) (by omega) (by simp)).mono ?_
      rintro e w1 ⟨rfl, hb1, hl1⟩
      go_wp2_with fail
      refine (bufU32 g _ ((s : Int) + 5) _ hb1 (by omega) (by omega) (by simp)).mono ?_
      rintro e w2 ⟨rfl, hb2, hl2⟩
      go_wp2_with fail
      refine (bufU32 g _ (m : Int) _ hb2 (by omega) (by omega) (by simp)).mono ?_
      rintro e w3 ⟨rfl, hb3, hl3⟩
      go_wp2_with fail
      refine (bufByte g _ 160 _ hb3 (by omega) (by omega) (by simp)).mono ?_
      rintro e w4 ⟨rfl, hb4, hl4⟩
      go_wp2_with fail
      first | go_end0 | refine bodyPost_ret (results_none rfl _ _ _) rfl ?_
      exact ⟨rfl, by simpa using hb4, hl1.trans (hl2.trans (hl3.trans hl4))⟩
end Go.Proofs.YtkbfppjniaejnaaDoor
