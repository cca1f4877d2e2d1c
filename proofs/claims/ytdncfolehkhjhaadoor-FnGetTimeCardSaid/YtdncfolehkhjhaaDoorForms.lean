/- spec.form.headed, spec.sizes, spec.Forms.pick, spec.Forms.putHead. -/
import Derived.Test.YtdncfolehkhjhaaDoorBigB
import Derived.Test.YtdncfolehkhjhaaDoorApp8
namespace Go.Proofs.YtdncfolehkhjhaaDoor
open Go.RowKit
set_option linter.unusedVariables false
set_option linter.unusedSimpArgs false

abbrev fm (c s : Int) : Value := .agg #[.int .i64 c, .int .i64 s]

set_option maxRecDepth 100000 in
set_option maxHeartbeats 4000000 in
theorem headed_any (z : Int) (hz0 : 0 ≤ z) (hz1 : z < 256) (k : Nat) (hk : k ≤ 8) (u : Int) (h0 : 0 ≤ u) (h1 : u < 18446744073709551616) (w : World) :
    Calls Tryd.prog 30 #[fm z k, .int .u64 u] w fun e w' => ∃ a c, e = .returned (.slice a (1 + k) c) ∧ O8 w' w.heap.size a (1 + k) c (z :: beL u k) ∧ Below w.heap.size w w' := by
  have hzm : z % 256 = z := by omega
  have K : ∀ W, Blk W w.heap.size 76 #[.int .i64 z, .int .i64 k] → (fun W => W.cell? ⟨w.heap.size, 0, none⟩ = some (.int .i64 z) ∧ W.cell? ⟨w.heap.size, 1, none⟩ = some (.int .i64 k)) W := fun W h => ⟨h.cell rfl, h.cell rfl⟩
  have hzb : ∀ x ∈ [z], 0 ≤ x ∧ x ≤ 255 := by intro x hx; simp only [List.mem_singleton] at hx; subst hx; omega
  have hzw : IntKind.u8.wrap z = z := by simp [IntKind.wrap, IntKind.signed, IntKind.bits]; omega
  unfold fm
  go_enter Tryd.func30, Tryd.ntmps30
  go_wp2_with fail
  refine wp_region_held_drew (S := fun W => W.cell? ⟨w.heap.size, 0, none⟩ = some (.int .i64 z) ∧ W.cell? ⟨w.heap.size, 1, none⟩ = some (.int .i64 k)) (by kernel_rfl) ?hS0 (fun hHeld => ?hR0)
  case hS0 => (exact K _ (by (repeat (first | with_reducible exact Blk.new _ _ _ | with_reducible assumption | with_reducible refine Blk.newAt (by first | rfl | (simp; done) | (simp; omega)) _ _ | with_reducible refine Blk.alloc ?_ _ | with_reducible refine Blk.drewN ?_ _ | with_reducible refine Blk.drew ?_ | with_reducible refine Blk.other ?_ (by first | omega | (simp; done) | (simp; omega)) _))))
  refine wpAnyH_take (i := 0) (v := ?_) (by simp only [List.getElem?_toArray, List.getElem?_cons_succ, List.getElem?_cons_zero]; rfl) (by kernel_rfl) (by kernel_rfl) (by kernel_rfl) (by intro _ _ _ h; exact h) (Or.inl ⟨by rfl, ?h0_1⟩) (by assumption) ?r0_1
  case h0_1 => (intro w hSw; (try dsimp only at hSw); go_simp; try with_reducible rfl)
  try simp only [Act.put, List.setIfInBounds_toArray, List.set_cons_zero, List.set_cons_succ]
  refine wpAnyH_take (i := 1) (v := ?_) (by simp only [List.getElem?_toArray, List.getElem?_cons_succ, List.getElem?_cons_zero]; rfl) (by kernel_rfl) (by kernel_rfl) (by kernel_rfl) (by intro _ _ _ h; exact h) (Or.inl ⟨by rfl, ?h1_2⟩) (by assumption) ?r1_2
  case h1_2 => (intro w hSw; (try dsimp only at hSw); go_simp; try with_reducible rfl)
  try simp only [Act.put, List.setIfInBounds_toArray, List.set_cons_zero, List.set_cons_succ]
  refine wpAnyH_take (i := 2) (v := ?_) (by simp only [List.getElem?_toArray, List.getElem?_cons_succ, List.getElem?_cons_zero]; rfl) (by kernel_rfl) (by kernel_rfl) (by kernel_rfl) (by intro _ _ _ h; exact h) (Or.inl ⟨by rfl, ?h2_3⟩) (by assumption) ?r2_3
  case h2_3 => (intro w hSw; (try dsimp only at hSw); go_simp; try with_reducible rfl)
  try simp only [Act.put, List.setIfInBounds_toArray, List.set_cons_zero, List.set_cons_succ]
  refine wpAnyH_take (i := 4) (v := ?_) (by simp only [List.getElem?_toArray, List.getElem?_cons_succ, List.getElem?_cons_zero]; rfl) (by kernel_rfl) (by kernel_rfl) (by kernel_rfl) (by intro _ _ _ h; exact h) (Or.inl ⟨by rfl, ?h4_4⟩) (by assumption) ?r4_4
  case h4_4 => (intro w hSw; (try dsimp only at hSw); go_simp; try with_reducible rfl)
  try simp only [Act.put, List.setIfInBounds_toArray, List.set_cons_zero, List.set_cons_succ]
  refine wpAnyH_take (i := 5) (v := ?_) (by simp only [List.getElem?_toArray, List.getElem?_cons_succ, List.getElem?_cons_zero]; rfl) (by kernel_rfl) (by kernel_rfl) (by kernel_rfl) (by intro _ _ _ h; exact h) (Or.inl ⟨by rfl, ?h5_5⟩) (by assumption) ?r5_5
  case h5_5 => (intro w hSw; (try dsimp only at hSw); go_simp; try with_reducible rfl)
  try simp only [Act.put, List.setIfInBounds_toArray, List.set_cons_zero, List.set_cons_succ]
  refine wpAnyH_take (i := 6) (v := ?_) (by simp only [List.getElem?_toArray, List.getElem?_cons_succ, List.getElem?_cons_zero]; rfl) (by kernel_rfl) (by kernel_rfl) (by kernel_rfl) (by intro _ _ _ h; exact h) (Or.inl ⟨by rfl, ?h6_6⟩) (by assumption) ?r6_6
  case h6_6 => (intro w hSw; (try dsimp only at hSw); go_simp; try with_reducible rfl)
  try simp only [Act.put, List.setIfInBounds_toArray, List.set_cons_zero, List.set_cons_succ]
  refine wpAnyH_ready (rs := [3, 7]) (by kernel_rfl) (by simp) ?_
  refine AllReadyH.cons (by simp only [List.getElem?_toArray, List.getElem?_cons_succ, List.getElem?_cons_zero]; rfl) (fun Kr hKr => ?_) (AllReadyH.cons (by simp only [List.getElem?_toArray, List.getElem?_cons_succ, List.getElem?_cons_zero]; rfl) (fun Kr hKr => ?_) AllReadyH.nil)
  · go_simp
    refine hKr.out _ _ ?hS3_8 (fun hHeld => ?hR3_8)
    case hS3_8 => (exact K _ (by (repeat (first | with_reducible exact Blk.new _ _ _ | with_reducible assumption | with_reducible refine Blk.newAt (by first | rfl | (simp; done) | (simp; omega)) _ _ | with_reducible refine Blk.alloc ?_ _ | with_reducible refine Blk.drewN ?_ _ | with_reducible refine Blk.drew ?_ | with_reducible refine Blk.other ?_ (by first | omega | (simp; done) | (simp; omega)) _))))
    clear hKr Kr
    try simp only [Act.put, List.setIfInBounds_toArray, List.set_cons_zero, List.set_cons_succ]
    refine wpAnyH_ready (rs := [7]) (by kernel_rfl) (by simp) ?_
    refine AllReadyH.cons (by simp only [List.getElem?_toArray, List.getElem?_cons_succ, List.getElem?_cons_zero]; rfl) (fun Kr hKr => ?_) AllReadyH.nil
    go_simp
    go_wp2_with (go_at_call 28; refine (big_any u h0 h1 k hk _).mono ?_; rintro e w9 ⟨a9, c9, rfl, ho9, hb9⟩; have hB9 : Blk w9 w.heap.size 76 #[.int .i64 z, .int .i64 k] := Blk.below (by (repeat (first | with_reducible exact Blk.new _ _ _ | with_reducible assumption | with_reducible refine Blk.newAt (by first | rfl | (simp; done) | (simp; omega)) _ _ | with_reducible refine Blk.alloc ?_ _ | with_reducible refine Blk.drewN ?_ _ | with_reducible refine Blk.drew ?_ | with_reducible refine Blk.other ?_ (by first | omega | (simp; done) | (simp; omega)) _))) hb9 (by (first | omega | (simp; done) | (simp; omega))); have hs9 : w.heap.size + 1 ≤ w9.heap.size := (by have := hb9.size; simp at this; omega))
    refine hKr.out _ _ ?hS7_9 (fun hHeld => ?hR7_9)
    case hS7_9 => (exact K _ (by (repeat (first | with_reducible exact Blk.new _ _ _ | with_reducible assumption | with_reducible refine Blk.newAt (by first | rfl | (simp; done) | (simp; omega)) _ _ | with_reducible refine Blk.alloc ?_ _ | with_reducible refine Blk.drewN ?_ _ | with_reducible refine Blk.drew ?_ | with_reducible refine Blk.other ?_ (by first | omega | (simp; done) | (simp; omega)) _))))
    clear hKr Kr
    try simp only [Act.put, List.setIfInBounds_toArray, List.set_cons_zero, List.set_cons_succ]
    refine wpAnyH_ready (rs := [8]) (by kernel_rfl) (by simp) ?_
    refine AllReadyH.cons (by simp only [List.getElem?_toArray, List.getElem?_cons_succ, List.getElem?_cons_zero]; rfl) (fun Kr hKr => ?_) AllReadyH.nil
    have hl9 := ((Own.lit 5 (w.alloc (.cells #[.int .i64 z, .int .i64 k] 76)).drew [z] hzb (by simp)).mono (B' := w.heap.size) (by (first | omega | (simp; done) | (simp; omega)))).below hb9 (Nat.le_refl _); have hl9q : O8 w9 w.heap.size (some ⟨w.heap.size + 1, 0, none⟩) 1 1 [z] := (by simpa using hl9); have hbW : Below w.heap.size w w9 := Below.trans (b := _) (by (repeat (first | with_reducible exact Below.refl _ _ | with_reducible assumption | with_reducible refine below_drewN ?_ _ | with_reducible refine Below.drew ?_ | with_reducible refine below_row ?_ (by first | omega | (simp; done) | (simp; omega)) _ | with_reducible refine Below.alloc ?_ (by first | omega | (simp; done) | (simp; omega)) _ | with_reducible refine Below.setCell ?_ (by first | omega | (simp; done) | (simp; omega)) _))) (hb9.mono (by (first | omega | (simp; done) | (simp; omega)))); refine step_app8 (by rfl) _ _ (by rfl) w.heap.size _ 1 1 [z] (by rfl) (hl9q) _ k c9 (beL u k) (by rfl) (ho9.vw) (by omega) (by (first | omega | (simp; done) | (simp; omega))) ?_; intro a5 c5 w5 ho5 hg5; have hb5 := below_of_grown (B := w.heap.size + 1) hg5 (by (first | omega | (simp; done) | (simp; omega))) (fun x hx => by injection hx with hx; subst hx; (first | omega | (simp; done) | (simp; omega))); have hB5 : Blk w5 w.heap.size 76 #[.int .i64 z, .int .i64 k] := Blk.below (by (repeat (first | with_reducible exact Blk.new _ _ _ | with_reducible assumption | with_reducible refine Blk.newAt (by first | rfl | (simp; done) | (simp; omega)) _ _ | with_reducible refine Blk.alloc ?_ _ | with_reducible refine Blk.drewN ?_ _ | with_reducible refine Blk.drew ?_ | with_reducible refine Blk.other ?_ (by first | omega | (simp; done) | (simp; omega)) _))) hb5 (by omega)
    refine hKr.out _ _ ?hS8_10 (fun hHeld => ?hR8_10)
    case hS8_10 => (exact K _ (by (repeat (first | with_reducible exact Blk.new _ _ _ | with_reducible assumption | with_reducible refine Blk.newAt (by first | rfl | (simp; done) | (simp; omega)) _ _ | with_reducible refine Blk.alloc ?_ _ | with_reducible refine Blk.drewN ?_ _ | with_reducible refine Blk.drew ?_ | with_reducible refine Blk.other ?_ (by first | omega | (simp; done) | (simp; omega)) _))))
    clear hKr Kr
    try simp only [Act.put, List.setIfInBounds_toArray, List.set_cons_zero, List.set_cons_succ]
    refine wpAnyH_take (i := 9) (v := ?_) (by simp only [List.getElem?_toArray, List.getElem?_cons_succ, List.getElem?_cons_zero]; rfl) (by kernel_rfl) (by kernel_rfl) (by kernel_rfl) (by intro _ _ _ h; exact h) (Or.inl ⟨by rfl, ?h9_11⟩) (by assumption) ?r9_11
    case h9_11 => (intro w hSw; (try dsimp only at hSw); go_simp; try with_reducible rfl)
    try simp only [Act.put, List.setIfInBounds_toArray, List.set_cons_zero, List.set_cons_succ]
    refine wpAnyH_done (by kernel_rfl) ?_ _
    go_wp2_with fail
    go_ret
    exact ⟨a5, c5, rfl, by simpa using ho5, Below.trans (b := _) (by (repeat (first | with_reducible exact Below.refl _ _ | with_reducible assumption | with_reducible refine below_drewN ?_ _ | with_reducible refine Below.drew ?_ | with_reducible refine below_row ?_ (by first | omega | (simp; done) | (simp; omega)) _ | with_reducible refine Below.alloc ?_ (by first | omega | (simp; done) | (simp; omega)) _ | with_reducible refine Below.setCell ?_ (by first | omega | (simp; done) | (simp; omega)) _))) (hb5.mono (by omega))⟩
  · go_simp
    go_wp2_with (go_at_call 28; refine (big_any u h0 h1 k hk _).mono ?_; rintro e w9 ⟨a9, c9, rfl, ho9, hb9⟩; have hB9 : Blk w9 w.heap.size 76 #[.int .i64 z, .int .i64 k] := Blk.below (by (repeat (first | with_reducible exact Blk.new _ _ _ | with_reducible assumption | with_reducible refine Blk.newAt (by first | rfl | (simp; done) | (simp; omega)) _ _ | with_reducible refine Blk.alloc ?_ _ | with_reducible refine Blk.drewN ?_ _ | with_reducible refine Blk.drew ?_ | with_reducible refine Blk.other ?_ (by first | omega | (simp; done) | (simp; omega)) _))) hb9 (by (first | omega | (simp; done) | (simp; omega))); have hs9 : w.heap.size + 1 ≤ w9.heap.size := (by have := hb9.size; simp at this; omega))
    refine hKr.out _ _ ?hS7_12 (fun hHeld => ?hR7_12)
    case hS7_12 => (exact K _ (by (repeat (first | with_reducible exact Blk.new _ _ _ | with_reducible assumption | with_reducible refine Blk.newAt (by first | rfl | (simp; done) | (simp; omega)) _ _ | with_reducible refine Blk.alloc ?_ _ | with_reducible refine Blk.drewN ?_ _ | with_reducible refine Blk.drew ?_ | with_reducible refine Blk.other ?_ (by first | omega | (simp; done) | (simp; omega)) _))))
    clear hKr Kr
    try simp only [Act.put, List.setIfInBounds_toArray, List.set_cons_zero, List.set_cons_succ]
    refine wpAnyH_ready (rs := [3]) (by kernel_rfl) (by simp) ?_
    refine AllReadyH.cons (by simp only [List.getElem?_toArray, List.getElem?_cons_succ, List.getElem?_cons_zero]; rfl) (fun Kr hKr => ?_) AllReadyH.nil
    go_simp
    refine hKr.out _ _ ?hS3_13 (fun hHeld => ?hR3_13)
    case hS3_13 => (exact K _ (by (repeat (first | with_reducible exact Blk.new _ _ _ | with_reducible assumption | with_reducible refine Blk.newAt (by first | rfl | (simp; done) | (simp; omega)) _ _ | with_reducible refine Blk.alloc ?_ _ | with_reducible refine Blk.drewN ?_ _ | with_reducible refine Blk.drew ?_ | with_reducible refine Blk.other ?_ (by first | omega | (simp; done) | (simp; omega)) _))))
    clear hKr Kr
    try simp only [Act.put, List.setIfInBounds_toArray, List.set_cons_zero, List.set_cons_succ]
    refine wpAnyH_ready (rs := [8]) (by kernel_rfl) (by simp) ?_
    refine AllReadyH.cons (by simp only [List.getElem?_toArray, List.getElem?_cons_succ, List.getElem?_cons_zero]; rfl) (fun Kr hKr => ?_) AllReadyH.nil
    have hl9 := (Own.lit 5 w9 [z] hzb (by simp)).mono (B' := w.heap.size) (by omega); have hbW : Below w.heap.size w w9 := Below.trans (b := _) (by (repeat (first | with_reducible exact Below.refl _ _ | with_reducible assumption | with_reducible refine below_drewN ?_ _ | with_reducible refine Below.drew ?_ | with_reducible refine below_row ?_ (by first | omega | (simp; done) | (simp; omega)) _ | with_reducible refine Below.alloc ?_ (by first | omega | (simp; done) | (simp; omega)) _ | with_reducible refine Below.setCell ?_ (by first | omega | (simp; done) | (simp; omega)) _))) (hb9.mono (by (first | omega | (simp; done) | (simp; omega)))); have hsz9 := hbW.size; refine step_app8 (by rfl) _ _ (by rfl) w.heap.size _ 1 1 [z] (by rfl) (hl9) _ k c9 (beL u k) (by rfl) ((ho9.alloc _).vw) (by omega) (by (first | omega | (simp; done) | (simp; omega))) ?_; intro a5 c5 w5 ho5 hg5; have hb5 := below_of_grown (B := w.heap.size + 1) hg5 (by (first | omega | (simp; done) | (simp; omega))) (fun x hx => by injection hx with hx; subst hx; (first | omega | (simp; done) | (simp; omega))); have hB5 : Blk w5 w.heap.size 76 #[.int .i64 z, .int .i64 k] := Blk.below (by (repeat (first | with_reducible exact Blk.new _ _ _ | with_reducible assumption | with_reducible refine Blk.newAt (by first | rfl | (simp; done) | (simp; omega)) _ _ | with_reducible refine Blk.alloc ?_ _ | with_reducible refine Blk.drewN ?_ _ | with_reducible refine Blk.drew ?_ | with_reducible refine Blk.other ?_ (by first | omega | (simp; done) | (simp; omega)) _))) hb5 (by omega)
    refine hKr.out _ _ ?hS8_14 (fun hHeld => ?hR8_14)
    case hS8_14 => (exact K _ (by (repeat (first | with_reducible exact Blk.new _ _ _ | with_reducible assumption | with_reducible refine Blk.newAt (by first | rfl | (simp; done) | (simp; omega)) _ _ | with_reducible refine Blk.alloc ?_ _ | with_reducible refine Blk.drewN ?_ _ | with_reducible refine Blk.drew ?_ | with_reducible refine Blk.other ?_ (by first | omega | (simp; done) | (simp; omega)) _))))
    clear hKr Kr
    try simp only [Act.put, List.setIfInBounds_toArray, List.set_cons_zero, List.set_cons_succ]
    refine wpAnyH_take (i := 9) (v := ?_) (by simp only [List.getElem?_toArray, List.getElem?_cons_succ, List.getElem?_cons_zero]; rfl) (by kernel_rfl) (by kernel_rfl) (by kernel_rfl) (by intro _ _ _ h; exact h) (Or.inl ⟨by rfl, ?h9_15⟩) (by assumption) ?r9_15
    case h9_15 => (intro w hSw; (try dsimp only at hSw); go_simp; try with_reducible rfl)
    try simp only [Act.put, List.setIfInBounds_toArray, List.set_cons_zero, List.set_cons_succ]
    refine wpAnyH_done (by kernel_rfl) ?_ _
    go_wp2_with fail
    go_ret
    exact ⟨a5, c5, rfl, by simpa using ho5, Below.trans (b := _) (by (repeat (first | with_reducible exact Below.refl _ _ | with_reducible assumption | with_reducible refine below_drewN ?_ _ | with_reducible refine Below.drew ?_ | with_reducible refine below_row ?_ (by first | omega | (simp; done) | (simp; omega)) _ | with_reducible refine Below.alloc ?_ (by first | omega | (simp; done) | (simp; omega)) _ | with_reducible refine Below.setCell ?_ (by first | omega | (simp; done) | (simp; omega)) _))) (hb5.mono (by omega))⟩
/-! ### sizes -/
def fcells (l : List (Int × Nat)) : List Value := l.flatMap fun f => [.int .i64 f.1, .int .i64 (f.2 : Int)]
def holds (u : Int) (f : Int × Nat) : Bool := decide (8 ≤ f.2) || decide (u / 2 ^ (8 * f.2) = 0)
def may (u : Int) (l : List (Int × Nat)) : List (Int × Nat) := l.filter (holds u)

theorem fcells_len (l : List (Int × Nat)) : (fcells l).length = l.length * 2 := by
  induction l with
  | nil => rfl
  | cons f l ih => simp [fcells] at ih ⊢; omega
theorem fcells_get (l : List (Int × Nat)) (j : Nat) (h : j < l.length) : (fcells l)[j * 2]? = some (.int .i64 l[j].1) ∧ (fcells l)[j * 2 + 1]? = some (.int .i64 (l[j].2 : Int)) := by
  induction l generalizing j with
  | nil => simp at h
  | cons f l ih =>
    cases j with
    | zero => simp [fcells]
    | succ j =>
      have := ih j (by simpa using h)
      simp only [fcells, List.flatMap_cons, List.getElem_cons_succ] at this ⊢
      rw [show (j + 1) * 2 = j * 2 + 1 + 1 by omega, show j * 2 + 1 + 1 + 1 = (j * 2 + 1) + 1 + 1 by omega]
      simpa using this
theorem Rd.form_at {w : World} {a : Option Addr} {l : List (Int × Nat)} (h : Rd w a (fcells l)) (j : Nat) (hj : j < l.length) (f : Int × Nat) (hf : f = l[j]) : ∃ b off, a = some ⟨b, off, none⟩ ∧ w.cell? ⟨b, off + j * 2, none⟩ = some (.int .i64 f.1) ∧ w.cell? ⟨b, off + j * 2 + 1, none⟩ = some (.int .i64 (f.2 : Int)) := by
  subst hf
  rcases h with h | ⟨b, off, ha, hx⟩
  · have := fcells_len l; rw [h] at this; simp at this; omega
  · exact ⟨b, off, ha, hx _ _ (fcells_get l j hj).1, by rw [Nat.add_assoc]; exact hx _ _ (fcells_get l j hj).2⟩
theorem may_snoc (u : Int) (l : List (Int × Nat)) (j : Nat) (h : j < l.length) : may u (l.take (j + 1)) = may u (l.take j) ++ (if holds u l[j] then [l[j]] else []) := by
  unfold may
  rw [List.take_succ_eq_append_getElem h, List.filter_append]
  by_cases hh : holds u l[j] <;> simp [hh]
theorem may_le (u : Int) (l : List (Int × Nat)) : (may u l).length ≤ l.length := List.length_filter_le _ _
theorem fcells_app (a b : List (Int × Nat)) : fcells (a ++ b) = fcells a ++ fcells b := by simp [fcells]

set_option maxRecDepth 100000 in
set_option maxHeartbeats 4000000 in
theorem sizes_any (u : Int) (h0 : 0 ≤ u) (h1 : u < 18446744073709551616) (l : List (Int × Nat)) (hl : ∀ f ∈ l, f.2 ≤ 8) (hn : l.length ≤ 100) (a0 : Option Addr) (c0 : Nat) (w : World) (hr : Rd w a0 (fcells l)) :
    Calls Tryd.prog 46 #[.int .u64 u, .slice a0 l.length c0] w fun e w' => ∃ a c, e = .returned (.slice a (may u l).length c) ∧ w'.ownsRow w.heap.size 76 2 (.slice a (may u l).length c) (may u l).length (fcells (may u l)) ∧ Below w.heap.size w w' := by
  obtain ⟨m, hm⟩ : ∃ m, m = l.length := ⟨_, rfl⟩
  rw [← hm] at hn ⊢
  have HM := Lib.hid hm
  have HL := Lib.hid hl
  clear hm hl
  go_enter Tryd.func46, Tryd.ntmps46
  go_wp2_with fail
  go_loopw [5, 10] (fun v i wr => ∃ j a c n, j ≤ m ∧ i = .int .i64 j ∧ v = .slice a n c ∧ n = (may u (l.take j)).length ∧ wr.ownsRow w.heap.size 76 2 (.slice a n c) n (fcells (may u (l.take j))) ∧ Below w.heap.size w wr) (fun _ i _ => m - (intOf i).toNat)
  case atStart => exact ⟨0, none, 0, 0, Nat.zero_le _, rfl, rfl, rfl, World.ownsRow_nil _ _ _ _, Below.refl _ _⟩
  case round =>
    obtain ⟨j, a, c, n, hj, rfl, rfl, hnn, hown, hbw⟩ := hrel
    have hn100 : n ≤ 100 := by
      have := may_le u (l.take j)
      rw [List.length_take] at this
      have := HM.out
      omega
    have HN := Lib.hid hnn
    clear hnn
    have hsz := hbw.size
    by_cases hlt : j < m
    · have hje : j < l.length := by rw [← HM.out]; exact hlt
      obtain ⟨⟨z, s⟩, hf⟩ : ∃ f, f = l[j] := ⟨_, rfl⟩
      have hs8 : s ≤ 8 := by have := HL.out (z, s) (by rw [hf]; exact List.getElem_mem hje); simpa using this
      obtain ⟨b, off, rfl, q0, q1⟩ := (Rd.below hbw (Nat.le_refl _) hr).form_at j hje _ hf
      simp only at q0 q1
      have hsn := may_snoc u l j hje
      rw [← hf] at hsn
      have HS := Lib.hid hsn
      have HF := Lib.hid hf
      clear hsn hf
      have hjm : n ≤ 1099511627775 := by omega
      obtain ⟨B, hB⟩ : ∃ B, B = holds u (z, s) := ⟨_, rfl⟩
      by_cases h8 : 8 ≤ s
      · have d1 : decide ((s : Int) ≥ 8) = true := by simp; omega
        have hB' : holds u (z, s) = true := by simp [holds, h8]
        rw [if_pos hB'] at HS
        clear hB
        go_wp2_with (at_builtin; refine appN (by rfl) _ _ 98 76 2 16 (by rfl) Tryd.underlying98 (by kernel_rfl) (by omega) (by omega) w.heap.size a n c (fcells (may u (l.take j))) (by rfl) (owns_below hown (by (repeat (first | with_reducible exact Below.refl _ _ | with_reducible assumption | with_reducible refine below_drewN ?_ _ | with_reducible refine Below.drew ?_ | with_reducible refine below_row ?_ (by first | omega | (simp; done) | (simp; omega)) _ | with_reducible refine Below.alloc ?_ (by first | omega | (simp; done) | (simp; omega)) _ | with_reducible refine Below.setCell ?_ (by first | omega | (simp; done) | (simp; omega)) _)))) (wr.heap.size + 1) (by rfl) [.int .i64 z, .int .i64 (s : Int)] rfl (by intro q hq; simp only [List.mem_cons, List.not_mem_nil, or_false] at hq; rcases hq with rfl | rfl <;> rfl) (by (repeat (first | with_reducible exact Blk.new _ _ _ | with_reducible assumption | with_reducible refine Blk.newAt (by first | rfl | (simp; done) | (simp; omega)) _ _ | with_reducible refine Blk.alloc ?_ _ | with_reducible refine Blk.drewN ?_ _ | with_reducible refine Blk.drew ?_ | with_reducible refine Blk.other ?_ (by first | omega | (simp; done) | (simp; omega)) _))) hjm (by (first | omega | (simp; done) | (simp; omega))) ?_; intro a5 c5 w3 hown3 hg3; have hb3 := below_of_grown (B := w.heap.size) hg3 (by (first | omega | (simp; done) | (simp; omega))) (ge_of_owns hown))
        go_roundw
        case rel => exact ⟨j + 1, a5, c5, n + 1, by omega, by go_num, rfl, by rw [HS.out, List.length_append, ← HN.out]; rfl, by rw [HS.out, fcells_app]; exact hown3, Below.trans (b := _) (by (repeat (first | with_reducible exact Below.refl _ _ | with_reducible assumption | with_reducible refine below_drewN ?_ _ | with_reducible refine Below.drew ?_ | with_reducible refine below_row ?_ (by first | omega | (simp; done) | (simp; omega)) _ | with_reducible refine Below.alloc ?_ (by first | omega | (simp; done) | (simp; omega)) _ | with_reducible refine Below.setCell ?_ (by first | omega | (simp; done) | (simp; omega)) _))) hb3⟩
        case measure => simp [intOf]; omega
      · have d1 : decide ((s : Int) ≥ 8) = false := by simp; omega
        by_cases hz : u / 2 ^ (8 * s) = 0
        · have d2 : (u / 2 ^ (8 * s) == 0) = true := by simpa using hz
          have hB' : holds u (z, s) = true := by simp [holds, hz]
          rw [if_pos hB'] at HS
          have HZ := Lib.hid hz
          clear hB hz
          go_wp2_with (at_builtin; refine appN (by rfl) _ _ 98 76 2 16 (by rfl) Tryd.underlying98 (by kernel_rfl) (by omega) (by omega) w.heap.size a n c (fcells (may u (l.take j))) (by rfl) (owns_below hown (by (repeat (first | with_reducible exact Below.refl _ _ | with_reducible assumption | with_reducible refine below_drewN ?_ _ | with_reducible refine Below.drew ?_ | with_reducible refine below_row ?_ (by first | omega | (simp; done) | (simp; omega)) _ | with_reducible refine Below.alloc ?_ (by first | omega | (simp; done) | (simp; omega)) _ | with_reducible refine Below.setCell ?_ (by first | omega | (simp; done) | (simp; omega)) _)))) (wr.heap.size + 1) (by rfl) [.int .i64 z, .int .i64 (s : Int)] rfl (by intro q hq; simp only [List.mem_cons, List.not_mem_nil, or_false] at hq; rcases hq with rfl | rfl <;> rfl) (by (repeat (first | with_reducible exact Blk.new _ _ _ | with_reducible assumption | with_reducible refine Blk.newAt (by first | rfl | (simp; done) | (simp; omega)) _ _ | with_reducible refine Blk.alloc ?_ _ | with_reducible refine Blk.drewN ?_ _ | with_reducible refine Blk.drew ?_ | with_reducible refine Blk.other ?_ (by first | omega | (simp; done) | (simp; omega)) _))) hjm (by (first | omega | (simp; done) | (simp; omega))) ?_; intro a5 c5 w3 hown3 hg3; have hb3 := below_of_grown (B := w.heap.size) hg3 (by (first | omega | (simp; done) | (simp; omega))) (ge_of_owns hown))
          go_roundw
          case rel => exact ⟨j + 1, a5, c5, n + 1, by omega, by go_num, rfl, by rw [HS.out, List.length_append, ← HN.out]; rfl, by rw [HS.out, fcells_app]; exact hown3, Below.trans (b := _) (by (repeat (first | with_reducible exact Below.refl _ _ | with_reducible assumption | with_reducible refine below_drewN ?_ _ | with_reducible refine Below.drew ?_ | with_reducible refine below_row ?_ (by first | omega | (simp; done) | (simp; omega)) _ | with_reducible refine Below.alloc ?_ (by first | omega | (simp; done) | (simp; omega)) _ | with_reducible refine Below.setCell ?_ (by first | omega | (simp; done) | (simp; omega)) _))) hb3⟩
          case measure => simp [intOf]; omega
        · have d2 : (u / 2 ^ (8 * s) == 0) = false := by simpa using hz
          have hB' : holds u (z, s) = false := by simp [holds, hz, h8]
          rw [hB', if_neg (by simp)] at HS
          have HZ := Lib.hid hz
          clear hB hz
          go_wp2_with fail
          go_roundw
          case rel => exact ⟨j + 1, a, c, n, by omega, by go_num, rfl, by rw [HS.out, List.append_nil]; exact HN.out, by rw [HS.out, List.append_nil]; exact owns_below hown (by (repeat (first | with_reducible exact Below.refl _ _ | with_reducible assumption | with_reducible refine below_drewN ?_ _ | with_reducible refine Below.drew ?_ | with_reducible refine below_row ?_ (by first | omega | (simp; done) | (simp; omega)) _ | with_reducible refine Below.alloc ?_ (by first | omega | (simp; done) | (simp; omega)) _ | with_reducible refine Below.setCell ?_ (by first | omega | (simp; done) | (simp; omega)) _))), by (repeat (first | with_reducible exact Below.refl _ _ | with_reducible assumption | with_reducible refine below_drewN ?_ _ | with_reducible refine Below.drew ?_ | with_reducible refine below_row ?_ (by first | omega | (simp; done) | (simp; omega)) _ | with_reducible refine Below.alloc ?_ (by first | omega | (simp; done) | (simp; omega)) _ | with_reducible refine Below.setCell ?_ (by first | omega | (simp; done) | (simp; omega)) _))⟩
          case measure => simp [intOf]; omega
    · obtain rfl : j = m := by omega
      have et : l.take j = l := List.take_of_length_le (by rw [← HM.out]; exact Nat.le_refl _)
      rw [et] at hown HN
      have hn' := HN.out
      subst hn'
      clear et
      go_wp2_with fail
      go_ret
      exact ⟨a, c, rfl, hown, hbw⟩
end Go.Proofs.YtdncfolehkhjhaaDoor
