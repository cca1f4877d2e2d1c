/- spec.Forms.putExt. -/
import Derived.Test.YtdncfolehkhjhaaDoorPutPos
namespace Go.Proofs.YtdncfolehkhjhaaDoor
open Go.RowKit
set_option linter.unusedVariables false
set_option linter.unusedSimpArgs false

abbrev ikE : List (Nat × Nat) := [(0, 1), (1, 2), (2, 4), (3, 8), (4, 16)]
abbrev formsE : List (Int × Nat) := [(199, 1), (200, 2), (201, 4)]
/-- The heads of an extension. -/
def ExtL (n : Nat) (kb : Int) (l : List Int) : Prop := (∃ i k : Nat, (i, k) ∈ ikE ∧ n = k ∧ l = [212 + (i : Int), kb]) ∨ ∃ f, f ∈ may n formsE ∧ l = (f.1 :: beL n f.2) ++ [kb]

set_option maxRecDepth 100000 in
set_option maxHeartbeats 8000000 in
theorem putExt_any (n : Nat) (hn : n ≤ 131072) (kind : Int) (F : Nat) (b : Bool) (w : World) (hB : FB w F b) :
    Calls Tryd.prog 32 #[.pointer (some ⟨F, 0, none⟩), .int .i64 n, .int .i64 kind] w (PutRes F b (ExtL n (kind % 256)) w) := by
  have hFl := hB.lt
  obtain ⟨kb, hkb⟩ : ∃ kb, kind % 256 = kb := ⟨_, rfl⟩
  rw [hkb]
  have hkb0 : 0 ≤ kb := by omega
  have hkb1 : kb ≤ 255 := by omega
  have hml := may_le n formsE
  have hm0 : 0 < (may n formsE).length := may4 n (by omega) formsE 201 (by simp)
  obtain ⟨m, hm⟩ : ∃ m, m = (may n formsE).length := ⟨_, rfl⟩
  have hfl : ∀ f ∈ formsE, 0 ≤ f.1 ∧ f.1 < 256 ∧ f.2 ≤ 8 := by simp
  have hS := fun (W : World) => sizes_any n (by omega) (by omega) formsE (by simp) (by simp) (some ⟨W.heap.size, 0, none⟩) 3 _ (Rd.lit W 76 (fcells formsE))
  rw [← hm] at hml hm0
  have hml4 : m ≤ 3 := hml
  have HM := Lib.hid hm
  have hS' : (∀ W : World, Calls Tryd.prog 46 #[.int .u64 n, .slice (some ⟨W.heap.size, 0, none⟩) 3 3] (W.alloc (.cells (fcells formsE).toArray 76)) fun e w' => ∃ a c, e = .returned (.slice a m c) ∧ w'.ownsRow (W.alloc (.cells (fcells formsE).toArray 76)).heap.size 76 2 (.slice a m c) m (fcells (may n formsE)) ∧ Below (W.alloc (.cells (fcells formsE).toArray 76)).heap.size (W.alloc (.cells (fcells formsE).toArray 76)) w') := (fun W => by rw [hm]; exact hS W)
  have HS := Lib.hid hS'
  have HF := Lib.hid hfl
  have hcv : IntKind.u64.wrap (n : Int) = n := by rw [wrap_u64]; omega
  clear hm hS hS' hml hfl
  go_enter Tryd.func32, Tryd.ntmps32
  go_wp2_with fail
  go_loopw [7, 14] (fun v i wr => ∃ (j : Nat) (a : Option Addr) (c q : Nat), j ≤ 5 ∧ i = .int .i64 j ∧ v = .slice a q c ∧ q ≤ j ∧ Rows wr w.heap.size a q c (ExtL n kb) ∧ Blk wr w.heap.size 3 #[.int .i64 1, .int .i64 2, .int .i64 4, .int .i64 8, .int .i64 16] ∧ Below w.heap.size w wr) (fun _ i _ => 5 - (intOf i).toNat)
  case atStart => exact ⟨0, none, 0, 0, by omega, rfl, rfl, by omega, Rows.nil _ _ _, Blk.new _ _ _, by (repeat (first | with_reducible exact Below.refl _ _ | with_reducible assumption | with_reducible refine below_drewN ?_ _ | with_reducible refine Below.drew ?_ | with_reducible refine below_row ?_ (by first | omega | (simp; done) | (simp; omega)) _ | with_reducible refine Below.alloc ?_ (by first | omega | (simp; done) | (simp; omega)) _ | with_reducible refine Below.setCell ?_ (by first | omega | (simp; done) | (simp; omega)) _))⟩
  case round =>
    obtain ⟨j, a, c, q, hj, rfl, rfl, hq, hR, hL, hbw⟩ := hrel
    have hsz := hbw.size
    have hLl := hL.lt
    obtain rfl | rfl | rfl | rfl | rfl | rfl : j = 0 ∨ j = 1 ∨ j = 2 ∨ j = 3 ∨ j = 4 ∨ j = 5 := by omega
    · have qc := hL.cell (i := 0) rfl
      by_cases hc : n = 1
      · have hcd : ((n : Int) == 1) = true := by simp; omega
        have HC := Lib.hid hc
        clear hc
        have hlit := (Own.lit 5 wr [212, kb] (by intro x hx; simp only [List.mem_cons, List.not_mem_nil, or_false] at hx; rcases hx with rfl | rfl <;> omega) (by simp)).mono (B' := w.heap.size) hsz
        go_wp2_with (at_builtin; refine rows_app (by rfl) _ _ (by rfl) w.heap.size a q c (ExtL n kb) (by rfl) (hR.keep (by (repeat (first | with_reducible exact Below.refl _ _ | with_reducible assumption | with_reducible refine below_drewN ?_ _ | with_reducible refine Below.drew ?_ | with_reducible refine below_row ?_ (by first | omega | (simp; done) | (simp; omega)) _ | with_reducible refine Below.alloc ?_ (by first | omega | (simp; done) | (simp; omega)) _ | with_reducible refine Below.setCell ?_ (by first | omega | (simp; done) | (simp; omega)) _)))) (wr.heap.size + 1) (some ⟨wr.heap.size, 0, none⟩) 2 2 [212, kb] (by rfl) (by (repeat (first | with_reducible exact Blk.new _ _ _ | with_reducible assumption | with_reducible refine Blk.newAt (by first | rfl | (simp; done) | (simp; omega)) _ _ | with_reducible refine Blk.alloc ?_ _ | with_reducible refine Blk.drewN ?_ _ | with_reducible refine Blk.drew ?_ | with_reducible refine Blk.other ?_ (by first | omega | (simp; done) | (simp; omega)) _))) (hlit.alloc _) (Or.inl ⟨0, 1, by simp, HC.out, by rfl⟩) (by omega) (by (first | omega | (simp; done) | (simp; omega))) ?_; intro a8 c8 w8 hR8 hb8 hk8 ho8)
        have hb68 : Below w.heap.size w w8 := Below.trans (b := _) (hbw.trans (Below.trans (b := _) (Below.refl _ wr) (by (repeat (first | with_reducible exact Below.refl _ _ | with_reducible assumption | with_reducible refine below_drewN ?_ _ | with_reducible refine Below.drew ?_ | with_reducible refine below_row ?_ (by first | omega | (simp; done) | (simp; omega)) _ | with_reducible refine Below.alloc ?_ (by first | omega | (simp; done) | (simp; omega)) _ | with_reducible refine Below.setCell ?_ (by first | omega | (simp; done) | (simp; omega)) _))))) hb8
        go_roundw
        case rel => exact ⟨1, a8, c8, q + 1, by omega, by go_num, rfl, by omega, hR8, hk8 _ _ _ (by decide) ((hL.alloc _).alloc _), hb68⟩
        case measure => simp [intOf] <;> omega
      · have hcd : ((n : Int) == 1) = false := by simp; omega
        go_wp2_with fail
        go_roundw
        case rel => exact ⟨1, a, c, q, by omega, by go_num, rfl, by omega, hR, hL, hbw⟩
        case measure => simp [intOf] <;> omega
    · have qc := hL.cell (i := 1) rfl
      by_cases hc : n = 2
      · have hcd : ((n : Int) == 2) = true := by simp; omega
        have HC := Lib.hid hc
        clear hc
        have hlit := (Own.lit 5 wr [213, kb] (by intro x hx; simp only [List.mem_cons, List.not_mem_nil, or_false] at hx; rcases hx with rfl | rfl <;> omega) (by simp)).mono (B' := w.heap.size) hsz
        go_wp2_with (at_builtin; refine rows_app (by rfl) _ _ (by rfl) w.heap.size a q c (ExtL n kb) (by rfl) (hR.keep (by (repeat (first | with_reducible exact Below.refl _ _ | with_reducible assumption | with_reducible refine below_drewN ?_ _ | with_reducible refine Below.drew ?_ | with_reducible refine below_row ?_ (by first | omega | (simp; done) | (simp; omega)) _ | with_reducible refine Below.alloc ?_ (by first | omega | (simp; done) | (simp; omega)) _ | with_reducible refine Below.setCell ?_ (by first | omega | (simp; done) | (simp; omega)) _)))) (wr.heap.size + 1) (some ⟨wr.heap.size, 0, none⟩) 2 2 [213, kb] (by rfl) (by (repeat (first | with_reducible exact Blk.new _ _ _ | with_reducible assumption | with_reducible refine Blk.newAt (by first | rfl | (simp; done) | (simp; omega)) _ _ | with_reducible refine Blk.alloc ?_ _ | with_reducible refine Blk.drewN ?_ _ | with_reducible refine Blk.drew ?_ | with_reducible refine Blk.other ?_ (by first | omega | (simp; done) | (simp; omega)) _))) (hlit.alloc _) (Or.inl ⟨1, 2, by simp, HC.out, by rfl⟩) (by omega) (by (first | omega | (simp; done) | (simp; omega))) ?_; intro a8 c8 w8 hR8 hb8 hk8 ho8)
        have hb68 : Below w.heap.size w w8 := Below.trans (b := _) (hbw.trans (Below.trans (b := _) (Below.refl _ wr) (by (repeat (first | with_reducible exact Below.refl _ _ | with_reducible assumption | with_reducible refine below_drewN ?_ _ | with_reducible refine Below.drew ?_ | with_reducible refine below_row ?_ (by first | omega | (simp; done) | (simp; omega)) _ | with_reducible refine Below.alloc ?_ (by first | omega | (simp; done) | (simp; omega)) _ | with_reducible refine Below.setCell ?_ (by first | omega | (simp; done) | (simp; omega)) _))))) hb8
        go_roundw
        case rel => exact ⟨2, a8, c8, q + 1, by omega, by go_num, rfl, by omega, hR8, hk8 _ _ _ (by decide) ((hL.alloc _).alloc _), hb68⟩
        case measure => simp [intOf] <;> omega
      · have hcd : ((n : Int) == 2) = false := by simp; omega
        go_wp2_with fail
        go_roundw
        case rel => exact ⟨2, a, c, q, by omega, by go_num, rfl, by omega, hR, hL, hbw⟩
        case measure => simp [intOf] <;> omega
    · have qc := hL.cell (i := 2) rfl
      by_cases hc : n = 4
      · have hcd : ((n : Int) == 4) = true := by simp; omega
        have HC := Lib.hid hc
        clear hc
        have hlit := (Own.lit 5 wr [214, kb] (by intro x hx; simp only [List.mem_cons, List.not_mem_nil, or_false] at hx; rcases hx with rfl | rfl <;> omega) (by simp)).mono (B' := w.heap.size) hsz
        go_wp2_with (at_builtin; refine rows_app (by rfl) _ _ (by rfl) w.heap.size a q c (ExtL n kb) (by rfl) (hR.keep (by (repeat (first | with_reducible exact Below.refl _ _ | with_reducible assumption | with_reducible refine below_drewN ?_ _ | with_reducible refine Below.drew ?_ | with_reducible refine below_row ?_ (by first | omega | (simp; done) | (simp; omega)) _ | with_reducible refine Below.alloc ?_ (by first | omega | (simp; done) | (simp; omega)) _ | with_reducible refine Below.setCell ?_ (by first | omega | (simp; done) | (simp; omega)) _)))) (wr.heap.size + 1) (some ⟨wr.heap.size, 0, none⟩) 2 2 [214, kb] (by rfl) (by (repeat (first | with_reducible exact Blk.new _ _ _ | with_reducible assumption | with_reducible refine Blk.newAt (by first | rfl | (simp; done) | (simp; omega)) _ _ | with_reducible refine Blk.alloc ?_ _ | with_reducible refine Blk.drewN ?_ _ | with_reducible refine Blk.drew ?_ | with_reducible refine Blk.other ?_ (by first | omega | (simp; done) | (simp; omega)) _))) (hlit.alloc _) (Or.inl ⟨2, 4, by simp, HC.out, by rfl⟩) (by omega) (by (first | omega | (simp; done) | (simp; omega))) ?_; intro a8 c8 w8 hR8 hb8 hk8 ho8)
        have hb68 : Below w.heap.size w w8 := Below.trans (b := _) (hbw.trans (Below.trans (b := _) (Below.refl _ wr) (by (repeat (first | with_reducible exact Below.refl _ _ | with_reducible assumption | with_reducible refine below_drewN ?_ _ | with_reducible refine Below.drew ?_ | with_reducible refine below_row ?_ (by first | omega | (simp; done) | (simp; omega)) _ | with_reducible refine Below.alloc ?_ (by first | omega | (simp; done) | (simp; omega)) _ | with_reducible refine Below.setCell ?_ (by first | omega | (simp; done) | (simp; omega)) _))))) hb8
        go_roundw
        case rel => exact ⟨3, a8, c8, q + 1, by omega, by go_num, rfl, by omega, hR8, hk8 _ _ _ (by decide) ((hL.alloc _).alloc _), hb68⟩
        case measure => simp [intOf] <;> omega
      · have hcd : ((n : Int) == 4) = false := by simp; omega
        go_wp2_with fail
        go_roundw
        case rel => exact ⟨3, a, c, q, by omega, by go_num, rfl, by omega, hR, hL, hbw⟩
        case measure => simp [intOf] <;> omega
    · have qc := hL.cell (i := 3) rfl
      by_cases hc : n = 8
      · have hcd : ((n : Int) == 8) = true := by simp; omega
        have HC := Lib.hid hc
        clear hc
        have hlit := (Own.lit 5 wr [215, kb] (by intro x hx; simp only [List.mem_cons, List.not_mem_nil, or_false] at hx; rcases hx with rfl | rfl <;> omega) (by simp)).mono (B' := w.heap.size) hsz
        go_wp2_with (at_builtin; refine rows_app (by rfl) _ _ (by rfl) w.heap.size a q c (ExtL n kb) (by rfl) (hR.keep (by (repeat (first | with_reducible exact Below.refl _ _ | with_reducible assumption | with_reducible refine below_drewN ?_ _ | with_reducible refine Below.drew ?_ | with_reducible refine below_row ?_ (by first | omega | (simp; done) | (simp; omega)) _ | with_reducible refine Below.alloc ?_ (by first | omega | (simp; done) | (simp; omega)) _ | with_reducible refine Below.setCell ?_ (by first | omega | (simp; done) | (simp; omega)) _)))) (wr.heap.size + 1) (some ⟨wr.heap.size, 0, none⟩) 2 2 [215, kb] (by rfl) (by (repeat (first | with_reducible exact Blk.new _ _ _ | with_reducible assumption | with_reducible refine Blk.newAt (by first | rfl | (simp; done) | (simp; omega)) _ _ | with_reducible refine Blk.alloc ?_ _ | with_reducible refine Blk.drewN ?_ _ | with_reducible refine Blk.drew ?_ | with_reducible refine Blk.other ?_ (by first | omega | (simp; done) | (simp; omega)) _))) (hlit.alloc _) (Or.inl ⟨3, 8, by simp, HC.out, by rfl⟩) (by omega) (by (first | omega | (simp; done) | (simp; omega))) ?_; intro a8 c8 w8 hR8 hb8 hk8 ho8)
        have hb68 : Below w.heap.size w w8 := Below.trans (b := _) (hbw.trans (Below.trans (b := _) (Below.refl _ wr) (by (repeat (first | with_reducible exact Below.refl _ _ | with_reducible assumption | with_reducible refine below_drewN ?_ _ | with_reducible refine Below.drew ?_ | with_reducible refine below_row ?_ (by first | omega | (simp; done) | (simp; omega)) _ | with_reducible refine Below.alloc ?_ (by first | omega | (simp; done) | (simp; omega)) _ | with_reducible refine Below.setCell ?_ (by first | omega | (simp; done) | (simp; omega)) _))))) hb8
        go_roundw
        case rel => exact ⟨4, a8, c8, q + 1, by omega, by go_num, rfl, by omega, hR8, hk8 _ _ _ (by decide) ((hL.alloc _).alloc _), hb68⟩
        case measure => simp [intOf] <;> omega
      · have hcd : ((n : Int) == 8) = false := by simp; omega
        go_wp2_with fail
        go_roundw
        case rel => exact ⟨4, a, c, q, by omega, by go_num, rfl, by omega, hR, hL, hbw⟩
        case measure => simp [intOf] <;> omega
    · have qc := hL.cell (i := 4) rfl
      by_cases hc : n = 16
      · have hcd : ((n : Int) == 16) = true := by simp; omega
        have HC := Lib.hid hc
        clear hc
        have hlit := (Own.lit 5 wr [216, kb] (by intro x hx; simp only [List.mem_cons, List.not_mem_nil, or_false] at hx; rcases hx with rfl | rfl <;> omega) (by simp)).mono (B' := w.heap.size) hsz
        go_wp2_with (at_builtin; refine rows_app (by rfl) _ _ (by rfl) w.heap.size a q c (ExtL n kb) (by rfl) (hR.keep (by (repeat (first | with_reducible exact Below.refl _ _ | with_reducible assumption | with_reducible refine below_drewN ?_ _ | with_reducible refine Below.drew ?_ | with_reducible refine below_row ?_ (by first | omega | (simp; done) | (simp; omega)) _ | with_reducible refine Below.alloc ?_ (by first | omega | (simp; done) | (simp; omega)) _ | with_reducible refine Below.setCell ?_ (by first | omega | (simp; done) | (simp; omega)) _)))) (wr.heap.size + 1) (some ⟨wr.heap.size, 0, none⟩) 2 2 [216, kb] (by rfl) (by (repeat (first | with_reducible exact Blk.new _ _ _ | with_reducible assumption | with_reducible refine Blk.newAt (by first | rfl | (simp; done) | (simp; omega)) _ _ | with_reducible refine Blk.alloc ?_ _ | with_reducible refine Blk.drewN ?_ _ | with_reducible refine Blk.drew ?_ | with_reducible refine Blk.other ?_ (by first | omega | (simp; done) | (simp; omega)) _))) (hlit.alloc _) (Or.inl ⟨4, 16, by simp, HC.out, by rfl⟩) (by omega) (by (first | omega | (simp; done) | (simp; omega))) ?_; intro a8 c8 w8 hR8 hb8 hk8 ho8)
        have hb68 : Below w.heap.size w w8 := Below.trans (b := _) (hbw.trans (Below.trans (b := _) (Below.refl _ wr) (by (repeat (first | with_reducible exact Below.refl _ _ | with_reducible assumption | with_reducible refine below_drewN ?_ _ | with_reducible refine Below.drew ?_ | with_reducible refine below_row ?_ (by first | omega | (simp; done) | (simp; omega)) _ | with_reducible refine Below.alloc ?_ (by first | omega | (simp; done) | (simp; omega)) _ | with_reducible refine Below.setCell ?_ (by first | omega | (simp; done) | (simp; omega)) _))))) hb8
        go_roundw
        case rel => exact ⟨5, a8, c8, q + 1, by omega, by go_num, rfl, by omega, hR8, hk8 _ _ _ (by decide) ((hL.alloc _).alloc _), hb68⟩
        case measure => simp [intOf] <;> omega
      · have hcd : ((n : Int) == 16) = false := by simp; omega
        go_wp2_with fail
        go_roundw
        case rel => exact ⟨5, a, c, q, by omega, by go_num, rfl, by omega, hR, hL, hbw⟩
        case measure => simp [intOf] <;> omega
    · go_wp2_with fail
      refine (HS.out wr).mono ?_
      rintro e w1 ⟨a1, c1, rfl, hown, hb1⟩
      have hbw1 : Below w.heap.size w w1 := Below.trans (b := _) (by (repeat (first | with_reducible exact Below.refl _ _ | with_reducible assumption | with_reducible refine below_drewN ?_ _ | with_reducible refine Below.drew ?_ | with_reducible refine below_row ?_ (by first | omega | (simp; done) | (simp; omega)) _ | with_reducible refine Below.alloc ?_ (by first | omega | (simp; done) | (simp; omega)) _ | with_reducible refine Below.setCell ?_ (by first | omega | (simp; done) | (simp; omega)) _))) (hb1.mono (by (first | omega | (simp; done) | (simp; omega))))
      have hown1 := owns_mono (B' := w.heap.size) hown (by (first | omega | (simp; done) | (simp; omega)))
      have hR1 := hR.keep ((((Below.refl _ _).alloc (Nat.le_refl _) _ : Below wr.heap.size wr _)).trans (hb1.mono (by (first | omega | (simp; done) | (simp; omega)))))
      have hlen := hown1.1
      obtain ⟨q0, hq0⟩ : ∃ q0, q0 = q := ⟨_, rfl⟩
      rw [← hq0] at hR1 hq
      have hbwO := hbw
      clear hown hb1 hR hL hLl
      subst hq0
      obtain ⟨wo, rfl⟩ : ∃ wo, wo = wr := ⟨_, rfl⟩
      go_wp2_with fail
      go_loopw [7, 40] (fun v i wr => ∃ (j : Nat) (a : Option Addr) (c q : Nat), j ≤ m ∧ i = .int .i64 j ∧ v = .slice a q c ∧ q ≤ 5 + j ∧ j ≤ q ∧ Rows wr w.heap.size a q c (ExtL n kb) ∧ wr.ownsRow w.heap.size 76 2 (.slice a1 m c1) m (fcells (may n formsE)) ∧ Below w.heap.size w wr) (fun _ i _ => m - (intOf i).toNat)
      case atStart => exact ⟨0, a, c, q0, by omega, rfl, rfl, by omega, by omega, hR1, hown1, hbw1⟩
      case round =>
        obtain ⟨j, a, c, q, hj, rfl, rfl, hq, hjq, hR, hown, hbw⟩ := hrel
        have hsz := hbw.size
        by_cases hlt : j < m
        · have hje : j < (may n formsE).length := by rw [← HM.out]; exact hlt
          obtain ⟨⟨z, s⟩, hf⟩ : ∃ f, f = (may n formsE)[j] := ⟨_, rfl⟩
          have hfm : (z, s) ∈ may n formsE := by rw [hf]; exact List.getElem_mem _
          obtain ⟨hz0, hz1, hs8⟩ := HF.out (z, s) (List.mem_filter.1 hfm).1
          obtain ⟨bb, off, rfl, q0, q1⟩ := (Rd.of_owns hown).form_at j hje _ hf
          simp only at q0 q1 hz0 hz1 hs8
          have HFM := Lib.hid hfm
          clear hf hfm
          go_wp2_with fail
          refine (headed_any z hz0 hz1 s hs8 (n : Int) (by omega) (by omega) _).mono ?_
          rintro e w3 ⟨a3, c3, rfl, ho3, hb3⟩
          have hb3k : Below wr.heap.size wr w3 := Below.trans (b := _) (by (repeat (first | with_reducible exact Below.refl _ _ | with_reducible assumption | with_reducible refine below_drewN ?_ _ | with_reducible refine Below.drew ?_ | with_reducible refine below_row ?_ (by first | omega | (simp; done) | (simp; omega)) _ | with_reducible refine Below.alloc ?_ (by first | omega | (simp; done) | (simp; omega)) _ | with_reducible refine Below.setCell ?_ (by first | omega | (simp; done) | (simp; omega)) _))) (hb3.mono (by (first | omega | (simp; done) | (simp; omega))))
          have hs3 := hb3k.size
          have ho3m := ho3.mono (B' := wr.heap.size) (by (first | omega | (simp; done) | (simp; omega)))
          have hR3 := hR.keep hb3k
          have hown3 := owns_below hown hb3k
          have hlit := Own.lit1 w3 kb hkb0 hkb1 (B := wr.heap.size) rfl hs3
          clear ho3
          go_wp2_with (first | (at_builtin; refine app8 (by rfl) _ _ (by rfl) wr.heap.size a3 _ c3 _ (by rfl) (ho3m.alloc _) _ 1 1 [kb] (by rfl) hlit.vw (by omega) (by (first | omega | (simp; done) | (simp; omega))) ?_; intro a7 c7 w7 ho7 hg7; have hb7 : Below wr.heap.size wr w7 := hb3k.trans (Below.trans (b := _) (by (repeat (first | with_reducible exact Below.refl _ _ | with_reducible assumption | with_reducible refine below_drewN ?_ _ | with_reducible refine Below.drew ?_ | with_reducible refine below_row ?_ (by first | omega | (simp; done) | (simp; omega)) _ | with_reducible refine Below.alloc ?_ (by first | omega | (simp; done) | (simp; omega)) _ | with_reducible refine Below.setCell ?_ (by first | omega | (simp; done) | (simp; omega)) _))) (below_of_grown (B := wr.heap.size) hg7 (by (first | omega | (simp; done) | (simp; omega))) ho3m.ge)); have hs7 := hb7.size; have hR7 := hR.keep hb7; have hown7 := owns_below hown hb7; have ho7m := ho7.mono (B' := w.heap.size) hsz) | (at_builtin; refine rows_app (by rfl) _ _ (by rfl) w.heap.size a q c (ExtL n kb) (by rfl) (hR7.keep (by (repeat (first | with_reducible exact Below.refl _ _ | with_reducible assumption | with_reducible refine below_drewN ?_ _ | with_reducible refine Below.drew ?_ | with_reducible refine below_row ?_ (by first | omega | (simp; done) | (simp; omega)) _ | with_reducible refine Below.alloc ?_ (by first | omega | (simp; done) | (simp; omega)) _ | with_reducible refine Below.setCell ?_ (by first | omega | (simp; done) | (simp; omega)) _)))) w7.heap.size a7 _ c7 _ (by rfl) (by (repeat (first | with_reducible exact Blk.new _ _ _ | with_reducible assumption | with_reducible refine Blk.newAt (by first | rfl | (simp; done) | (simp; omega)) _ _ | with_reducible refine Blk.alloc ?_ _ | with_reducible refine Blk.drewN ?_ _ | with_reducible refine Blk.drew ?_ | with_reducible refine Blk.other ?_ (by first | omega | (simp; done) | (simp; omega)) _))) (ho7m.alloc _) (Or.inr ⟨(z, s), HFM.out, by rfl⟩) (by omega) (by (first | omega | (simp; done) | (simp; omega))) ?_; intro a8 c8 w8 hR8 hb8 hk8 ho8))
          have hb68 : Below w.heap.size w w8 := Below.trans (b := _) (hbw.trans (Below.trans (b := _) (hb7.mono hsz) (by (repeat (first | with_reducible exact Below.refl _ _ | with_reducible assumption | with_reducible refine below_drewN ?_ _ | with_reducible refine Below.drew ?_ | with_reducible refine below_row ?_ (by first | omega | (simp; done) | (simp; omega)) _ | with_reducible refine Below.alloc ?_ (by first | omega | (simp; done) | (simp; omega)) _ | with_reducible refine Below.setCell ?_ (by first | omega | (simp; done) | (simp; omega)) _))))) hb8
          go_roundw
          case rel => exact ⟨j + 1, a8, c8, q + 1, by omega, by go_num, rfl, by omega, by omega, hR8, ho8 _ _ _ _ _ _ (by decide) (owns_below hown7 (by (repeat (first | with_reducible exact Below.refl _ _ | with_reducible assumption | with_reducible refine below_drewN ?_ _ | with_reducible refine Below.drew ?_ | with_reducible refine below_row ?_ (by first | omega | (simp; done) | (simp; omega)) _ | with_reducible refine Below.alloc ?_ (by first | omega | (simp; done) | (simp; omega)) _ | with_reducible refine Below.setCell ?_ (by first | omega | (simp; done) | (simp; omega)) _)))), hb68⟩
          case measure => simp [intOf] <;> omega
        · obtain rfl : j = m := by omega
          go_wp2_with fail
          refine (pickF b (q : Int) (by omega) (by omega) F _ (hB.below hbw hFl)).mono ?_
          rintro e w2 ⟨k, rfl, hk0, hk1, hk2, hB2, hs2, v, rfl⟩
          obtain ⟨i, rfl⟩ : ∃ i : Nat, k = (i : Int) := ⟨k.toNat, by omega⟩
          have hi : i < q := by have := hk2 (by omega); omega
          clear hk2 hk1
          have hRs := hR.set (i := 0) hFl v
          obtain ⟨bb, off, a9, n9, c9, l9, rfl, q0, ho9, hL9⟩ := hRs.at_ i hi
          go_wp2_with fail
          go_ret
          exact ⟨a9, n9, c9, l9, rfl, ho9, hL9, hB2, (Kp.of_below hbw).trans (Kp.set F _ wr 0 v)⟩
end Go.Proofs.YtdncfolehkhjhaaDoor
