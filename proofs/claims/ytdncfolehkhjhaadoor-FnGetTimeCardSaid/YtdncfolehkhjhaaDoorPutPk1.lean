/- spec.PutPack of texts and bytes. -/
import Derived.Test.YtdncfolehkhjhaaDoorPutPk0
namespace Go.Proofs.YtdncfolehkhjhaaDoor
open Go.RowKit
set_option linter.unusedVariables false
set_option linter.unusedSimpArgs false

theorem headL_le {n : Nat} {fx : Int} {un : Nat} {l : List (Int × Nat)} {x : List Int} (hl : ∀ f ∈ l, f.2 ≤ 4) (h : HeadL n fx un l x) : x.length ≤ 5 := by
  rcases h with ⟨_, _, rfl⟩ | ⟨f, hf, rfl⟩
  · simp
  · have := hl f (List.mem_filter.1 hf).1
    simp [beL_len]; omega

set_option maxRecDepth 100000 in
set_option maxHeartbeats 4000000 in
theorem putPack_text (num : Int) (t : ByteArray) (ht : t.size ≤ 131072) (ext : Int) (a : Option Addr) (n c : Nat) (F : Nat) (b : Bool) (w : World) (hB : FB w F b) :
    Calls Tryd.prog 13 #[pkV 6 num t ext a n c, .pointer (some ⟨F, 0, none⟩)] w (PutRes F b (PEnc 6 num t ext n) w) := by
  have hFl := hB.lt
  have K : ∀ W, Blk W w.heap.size 27 #[.int .i64 6, .int .u64 num, .string t, .int .i64 ext, .slice a n c] → (fun W => W.cell? ⟨w.heap.size, 2, none⟩ = some (.string t)) W := fun W h => h.cell rfl
  unfold pkV
  go_enter Tryd.func13, Tryd.ntmps13
  go_wp2_with fail
  refine wp_region_held_drew (S := fun W => W.cell? ⟨w.heap.size, 2, none⟩ = some (.string t)) (by kernel_rfl) ?hS0 (fun hHeld => ?hR0)
  case hS0 => (exact K _ (by first | (repeat (first | with_reducible exact Blk.new _ _ _ | with_reducible assumption | with_reducible refine Blk.newAt (by first | rfl | (simp; done) | (simp; omega)) _ _ | with_reducible refine Blk.alloc ?_ _ | with_reducible refine Blk.drewN ?_ _ | with_reducible refine Blk.drew ?_ | with_reducible refine Blk.other ?_ (by first | omega | (simp; done) | (simp; omega)) _)) | assumption))
  refine wpAnyH_take (i := 0) (v := ?_) (by simp only [List.getElem?_toArray, List.getElem?_cons_succ, List.getElem?_cons_zero]; rfl) (by kernel_rfl) (by kernel_rfl) (by kernel_rfl) (by intro _ _ _ h; exact h) (Or.inl ⟨by rfl, ?h0_1⟩) (by assumption) ?r0_1
  case h0_1 => (intro w hSw; (try dsimp only at hSw); go_simp; try with_reducible rfl)
  try simp only [Act.put, List.setIfInBounds_toArray, List.set_cons_zero, List.set_cons_succ]
  refine wpAnyH_take (i := 1) (v := ?_) (by simp only [List.getElem?_toArray, List.getElem?_cons_succ, List.getElem?_cons_zero]; rfl) (by kernel_rfl) (by kernel_rfl) (by kernel_rfl) (by intro _ _ _ h; exact h) (Or.inl ⟨by rfl, ?h1_2⟩) (by assumption) ?r1_2
  case h1_2 => (intro w hSw; (try dsimp only at hSw); go_simp; try with_reducible rfl)
  try simp only [Act.put, List.setIfInBounds_toArray, List.set_cons_zero, List.set_cons_succ]
  refine wpAnyH_take (i := 2) (v := ?_) (by simp only [List.getElem?_toArray, List.getElem?_cons_succ, List.getElem?_cons_zero]; rfl) (by kernel_rfl) (by kernel_rfl) (by kernel_rfl) (by intro _ _ _ h; exact h) (Or.inl ⟨by rfl, ?h2_3⟩) (by assumption) ?r2_3
  case h2_3 => (intro w hSw; (try dsimp only at hSw); go_simp; try with_reducible rfl)
  try simp only [Act.put, List.setIfInBounds_toArray, List.set_cons_zero, List.set_cons_succ]
  refine wpAnyH_take (i := 3) (v := ?_) (by simp only [List.getElem?_toArray, List.getElem?_cons_succ, List.getElem?_cons_zero]; rfl) (by kernel_rfl) (by kernel_rfl) (by kernel_rfl) (by intro _ _ _ h; exact h) (Or.inl ⟨by rfl, ?h3_4⟩) (by assumption) ?r3_4
  case h3_4 => (intro w hSw; (try dsimp only at hSw); go_simp; try with_reducible rfl)
  try simp only [Act.put, List.setIfInBounds_toArray, List.set_cons_zero, List.set_cons_succ]
  refine wpAnyH_take (i := 4) (v := ?_) (by simp only [List.getElem?_toArray, List.getElem?_cons_succ, List.getElem?_cons_zero]; rfl) (by kernel_rfl) (by kernel_rfl) (by kernel_rfl) (by intro _ _ _ h; exact h) (Or.inl ⟨by rfl, ?h4_5⟩) (by assumption) ?r4_5
  case h4_5 => (intro w hSw; (try dsimp only at hSw); go_simp; try with_reducible rfl)
  try simp only [Act.put, List.setIfInBounds_toArray, List.set_cons_zero, List.set_cons_succ]
  refine wpAnyH_take (i := 5) (v := ?_) (by simp only [List.getElem?_toArray, List.getElem?_cons_succ, List.getElem?_cons_zero]; rfl) (by kernel_rfl) (by kernel_rfl) (by kernel_rfl) (by intro _ _ _ h; exact h) (Or.inl ⟨by rfl, ?h5_6⟩) (by assumption) ?r5_6
  case h5_6 => (intro w hSw; (try dsimp only at hSw); go_simp; try with_reducible rfl)
  try simp only [Act.put, List.setIfInBounds_toArray, List.set_cons_zero, List.set_cons_succ]
  refine wpAnyH_take (i := 6) (v := ?_) (by simp only [List.getElem?_toArray, List.getElem?_cons_succ, List.getElem?_cons_zero]; rfl) (by kernel_rfl) (by kernel_rfl) (by kernel_rfl) (by intro _ _ _ h; exact h) (Or.inl ⟨by rfl, ?h6_7⟩) (by assumption) ?r6_7
  case h6_7 => (intro w hSw; (try dsimp only at hSw); go_simp; try with_reducible rfl)
  try simp only [Act.put, List.setIfInBounds_toArray, List.set_cons_zero, List.set_cons_succ]
  refine wpAnyH_take (i := 9) (v := ?_) (by simp only [List.getElem?_toArray, List.getElem?_cons_succ, List.getElem?_cons_zero]; rfl) (by kernel_rfl) (by kernel_rfl) (by kernel_rfl) (by intro _ _ _ h; exact h) (Or.inl ⟨by rfl, ?h9_8⟩) (by assumption) ?r9_8
  case h9_8 => (intro w hSw; (try dsimp only at hSw); go_simp; try with_reducible rfl)
  try simp only [Act.put, List.setIfInBounds_toArray, List.set_cons_zero, List.set_cons_succ]
  refine wpAnyH_take (i := 10) (v := ?_) (by simp only [List.getElem?_toArray, List.getElem?_cons_succ, List.getElem?_cons_zero]; rfl) (by kernel_rfl) (by kernel_rfl) (by kernel_rfl) (by intro _ _ _ h; exact h) (Or.inl ⟨by rfl, ?h10_9⟩) (by assumption) ?r10_9
  case h10_9 => (intro w hSw; (try dsimp only at hSw); go_simp; try with_reducible rfl)
  try simp only [Act.put, List.setIfInBounds_toArray, List.set_cons_zero, List.set_cons_succ]
  refine wpAnyH_ready (rs := [7]) (by kernel_rfl) (by simp) ?_
  refine AllReadyH.cons (by simp only [List.getElem?_toArray, List.getElem?_cons_succ, List.getElem?_cons_zero]; rfl) (fun Kr hKr => ?_) AllReadyH.nil
  go_simp
  refine hKr.out _ _ ?hS7_10 (fun hHeld => ?hR7_10)
  case hS7_10 => (exact K _ (by first | (repeat (first | with_reducible exact Blk.new _ _ _ | with_reducible assumption | with_reducible refine Blk.newAt (by first | rfl | (simp; done) | (simp; omega)) _ _ | with_reducible refine Blk.alloc ?_ _ | with_reducible refine Blk.drewN ?_ _ | with_reducible refine Blk.drew ?_ | with_reducible refine Blk.other ?_ (by first | omega | (simp; done) | (simp; omega)) _)) | assumption))
  clear hKr Kr
  try simp only [Act.put, List.setIfInBounds_toArray, List.set_cons_zero, List.set_cons_succ]
  refine wpAnyH_ready (rs := [8]) (by kernel_rfl) (by simp) ?_
  refine AllReadyH.cons (by simp only [List.getElem?_toArray, List.getElem?_cons_succ, List.getElem?_cons_zero]; rfl) (fun Kr hKr => ?_) AllReadyH.nil
  go_simp
  (refine (putHead_any t.size (by omega) (160) (by omega) (by omega) 32 (by omega) (fun _ h => or32 _ h) formsT (by simp) (by simp) (may4 t.size (by omega) formsT 219 (by simp)) (some ⟨w.heap.size + 1, 0, none⟩) 3 F b _ (by exact ((hB.alloc _).alloc _)) (by have h := (Rd.lit (w.alloc (.cells #[.int .i64 6, .int .u64 num, .string t, .int .i64 ext, .slice a n c] 27)) 76 (fcells formsT)).drew; rw [World.size_alloc] at h; exact h)).mono ?_; rintro e w1 ⟨a1, n1, c1, l1, rfl, ho1, hL1, hB1, hk1⟩; have hk2 := (Kp.of_below (F := F) (Below.drew (Below.alloc (Below.alloc (Below.refl w.heap.size w) (by simp) _) (by simp) _))).trans (hk1.mono (by simp; omega)); have hBv := ((Blk.new w 27 #[.int .i64 6, .int .u64 num, .string t, .int .i64 ext, .slice a n c]).alloc _).drew.kp hk1 (by simp; omega) (by omega); have hs1 := hk1.size; have ho1m := ho1.mono (B' := w.heap.size + 1) (by simp))
  refine hKr.out _ _ ?hS8_11 (fun hHeld => ?hR8_11)
  case hS8_11 => (exact K _ (by first | (repeat (first | with_reducible exact Blk.new _ _ _ | with_reducible assumption | with_reducible refine Blk.newAt (by first | rfl | (simp; done) | (simp; omega)) _ _ | with_reducible refine Blk.alloc ?_ _ | with_reducible refine Blk.drewN ?_ _ | with_reducible refine Blk.drew ?_ | with_reducible refine Blk.other ?_ (by first | omega | (simp; done) | (simp; omega)) _)) | assumption))
  clear hKr Kr
  try simp only [Act.put, List.setIfInBounds_toArray, List.set_cons_zero, List.set_cons_succ]
  refine wpAnyH_ready (rs := [11]) (by kernel_rfl) (by simp) ?_
  refine AllReadyH.cons (by simp only [List.getElem?_toArray, List.getElem?_cons_succ, List.getElem?_cons_zero]; rfl) (fun Kr hKr => ?_) AllReadyH.nil
  have hn1 : n1 ≤ 5 := (by have h1 := headL_le (by simp) hL1; have h2 := ho1m.vw.len; omega); refine step_appS (by rfl) _ _ (by rfl) (w.heap.size + 1) a1 n1 c1 l1 (by rfl) ho1m t (by rfl) (by omega) (by simp at hs1; omega) ?_; intro a5 c5 w5 ho5 hg5; have hb5 := below_of_grown (B := w.heap.size + 1) hg5 (by simp at hs1; omega) ho1m.ge; have hB5 := Blk.below hBv hb5 (by omega)
  refine hKr.out _ _ ?hS11_12 (fun hHeld => ?hR11_12)
  case hS11_12 => (exact K _ (by first | (repeat (first | with_reducible exact Blk.new _ _ _ | with_reducible assumption | with_reducible refine Blk.newAt (by first | rfl | (simp; done) | (simp; omega)) _ _ | with_reducible refine Blk.alloc ?_ _ | with_reducible refine Blk.drewN ?_ _ | with_reducible refine Blk.drew ?_ | with_reducible refine Blk.other ?_ (by first | omega | (simp; done) | (simp; omega)) _)) | assumption))
  clear hKr Kr
  try simp only [Act.put, List.setIfInBounds_toArray, List.set_cons_zero, List.set_cons_succ]
  refine wpAnyH_take (i := 12) (v := ?_) (by simp only [List.getElem?_toArray, List.getElem?_cons_succ, List.getElem?_cons_zero]; rfl) (by kernel_rfl) (by kernel_rfl) (by kernel_rfl) (by intro _ _ _ h; exact h) (Or.inl ⟨by rfl, ?h12_13⟩) (by assumption) ?r12_13
  case h12_13 => (intro w hSw; (try dsimp only at hSw); go_simp; try with_reducible rfl)
  try simp only [Act.put, List.setIfInBounds_toArray, List.set_cons_zero, List.set_cons_succ]
  refine wpAnyH_done (by kernel_rfl) ?_ _
  go_wp2_with fail
  go_ret
  exact ⟨a5, _, c5, _, rfl, ho5.mono (by omega), .inr (.inr (.inr (.inr (.inr (.inr (.inl ⟨rfl, l1, hL1, rfl⟩)))))), hB1.below hb5 (by omega), hk2.trans (Kp.of_below (hb5.mono (by omega)))⟩
set_option maxRecDepth 100000 in
set_option maxHeartbeats 4000000 in
theorem putPack_bytes (num : Int) (t : ByteArray) (ht : t.size ≤ 131072) (ext : Int) (a : Option Addr) (n c : Nat) (F : Nat) (b : Bool) (w : World) (hB : FB w F b) :
    Calls Tryd.prog 13 #[pkV 7 num t ext a n c, .pointer (some ⟨F, 0, none⟩)] w (PutRes F b (PEnc 7 num t ext n) w) := by
  have hFl := hB.lt
  have K : ∀ W, Blk W w.heap.size 27 #[.int .i64 7, .int .u64 num, .string t, .int .i64 ext, .slice a n c] → (fun W => W.cell? ⟨w.heap.size, 2, none⟩ = some (.string t)) W := fun W h => h.cell rfl
  unfold pkV
  go_enter Tryd.func13, Tryd.ntmps13
  go_wp2_with fail
  refine wp_region_held_drew (S := fun W => W.cell? ⟨w.heap.size, 2, none⟩ = some (.string t)) (by kernel_rfl) ?hS0 (fun hHeld => ?hR0)
  case hS0 => (exact K _ (by first | (repeat (first | with_reducible exact Blk.new _ _ _ | with_reducible assumption | with_reducible refine Blk.newAt (by first | rfl | (simp; done) | (simp; omega)) _ _ | with_reducible refine Blk.alloc ?_ _ | with_reducible refine Blk.drewN ?_ _ | with_reducible refine Blk.drew ?_ | with_reducible refine Blk.other ?_ (by first | omega | (simp; done) | (simp; omega)) _)) | assumption))
  refine wpAnyH_take (i := 0) (v := ?_) (by simp only [List.getElem?_toArray, List.getElem?_cons_succ, List.getElem?_cons_zero]; rfl) (by kernel_rfl) (by kernel_rfl) (by kernel_rfl) (by intro _ _ _ h; exact h) (Or.inl ⟨by rfl, ?h0_14⟩) (by assumption) ?r0_14
  case h0_14 => (intro w hSw; (try dsimp only at hSw); go_simp; try with_reducible rfl)
  try simp only [Act.put, List.setIfInBounds_toArray, List.set_cons_zero, List.set_cons_succ]
  refine wpAnyH_take (i := 1) (v := ?_) (by simp only [List.getElem?_toArray, List.getElem?_cons_succ, List.getElem?_cons_zero]; rfl) (by kernel_rfl) (by kernel_rfl) (by kernel_rfl) (by intro _ _ _ h; exact h) (Or.inl ⟨by rfl, ?h1_15⟩) (by assumption) ?r1_15
  case h1_15 => (intro w hSw; (try dsimp only at hSw); go_simp; try with_reducible rfl)
  try simp only [Act.put, List.setIfInBounds_toArray, List.set_cons_zero, List.set_cons_succ]
  refine wpAnyH_take (i := 2) (v := ?_) (by simp only [List.getElem?_toArray, List.getElem?_cons_succ, List.getElem?_cons_zero]; rfl) (by kernel_rfl) (by kernel_rfl) (by kernel_rfl) (by intro _ _ _ h; exact h) (Or.inl ⟨by rfl, ?h2_16⟩) (by assumption) ?r2_16
  case h2_16 => (intro w hSw; (try dsimp only at hSw); go_simp; try with_reducible rfl)
  try simp only [Act.put, List.setIfInBounds_toArray, List.set_cons_zero, List.set_cons_succ]
  refine wpAnyH_take (i := 3) (v := ?_) (by simp only [List.getElem?_toArray, List.getElem?_cons_succ, List.getElem?_cons_zero]; rfl) (by kernel_rfl) (by kernel_rfl) (by kernel_rfl) (by intro _ _ _ h; exact h) (Or.inl ⟨by rfl, ?h3_17⟩) (by assumption) ?r3_17
  case h3_17 => (intro w hSw; (try dsimp only at hSw); go_simp; try with_reducible rfl)
  try simp only [Act.put, List.setIfInBounds_toArray, List.set_cons_zero, List.set_cons_succ]
  refine wpAnyH_take (i := 4) (v := ?_) (by simp only [List.getElem?_toArray, List.getElem?_cons_succ, List.getElem?_cons_zero]; rfl) (by kernel_rfl) (by kernel_rfl) (by kernel_rfl) (by intro _ _ _ h; exact h) (Or.inl ⟨by rfl, ?h4_18⟩) (by assumption) ?r4_18
  case h4_18 => (intro w hSw; (try dsimp only at hSw); go_simp; try with_reducible rfl)
  try simp only [Act.put, List.setIfInBounds_toArray, List.set_cons_zero, List.set_cons_succ]
  refine wpAnyH_take (i := 5) (v := ?_) (by simp only [List.getElem?_toArray, List.getElem?_cons_succ, List.getElem?_cons_zero]; rfl) (by kernel_rfl) (by kernel_rfl) (by kernel_rfl) (by intro _ _ _ h; exact h) (Or.inl ⟨by rfl, ?h5_19⟩) (by assumption) ?r5_19
  case h5_19 => (intro w hSw; (try dsimp only at hSw); go_simp; try with_reducible rfl)
  try simp only [Act.put, List.setIfInBounds_toArray, List.set_cons_zero, List.set_cons_succ]
  refine wpAnyH_take (i := 6) (v := ?_) (by simp only [List.getElem?_toArray, List.getElem?_cons_succ, List.getElem?_cons_zero]; rfl) (by kernel_rfl) (by kernel_rfl) (by kernel_rfl) (by intro _ _ _ h; exact h) (Or.inl ⟨by rfl, ?h6_20⟩) (by assumption) ?r6_20
  case h6_20 => (intro w hSw; (try dsimp only at hSw); go_simp; try with_reducible rfl)
  try simp only [Act.put, List.setIfInBounds_toArray, List.set_cons_zero, List.set_cons_succ]
  refine wpAnyH_take (i := 9) (v := ?_) (by simp only [List.getElem?_toArray, List.getElem?_cons_succ, List.getElem?_cons_zero]; rfl) (by kernel_rfl) (by kernel_rfl) (by kernel_rfl) (by intro _ _ _ h; exact h) (Or.inl ⟨by rfl, ?h9_21⟩) (by assumption) ?r9_21
  case h9_21 => (intro w hSw; (try dsimp only at hSw); go_simp; try with_reducible rfl)
  try simp only [Act.put, List.setIfInBounds_toArray, List.set_cons_zero, List.set_cons_succ]
  refine wpAnyH_take (i := 10) (v := ?_) (by simp only [List.getElem?_toArray, List.getElem?_cons_succ, List.getElem?_cons_zero]; rfl) (by kernel_rfl) (by kernel_rfl) (by kernel_rfl) (by intro _ _ _ h; exact h) (Or.inl ⟨by rfl, ?h10_22⟩) (by assumption) ?r10_22
  case h10_22 => (intro w hSw; (try dsimp only at hSw); go_simp; try with_reducible rfl)
  try simp only [Act.put, List.setIfInBounds_toArray, List.set_cons_zero, List.set_cons_succ]
  refine wpAnyH_ready (rs := [7]) (by kernel_rfl) (by simp) ?_
  refine AllReadyH.cons (by simp only [List.getElem?_toArray, List.getElem?_cons_succ, List.getElem?_cons_zero]; rfl) (fun Kr hKr => ?_) AllReadyH.nil
  go_simp
  refine hKr.out _ _ ?hS7_23 (fun hHeld => ?hR7_23)
  case hS7_23 => (exact K _ (by first | (repeat (first | with_reducible exact Blk.new _ _ _ | with_reducible assumption | with_reducible refine Blk.newAt (by first | rfl | (simp; done) | (simp; omega)) _ _ | with_reducible refine Blk.alloc ?_ _ | with_reducible refine Blk.drewN ?_ _ | with_reducible refine Blk.drew ?_ | with_reducible refine Blk.other ?_ (by first | omega | (simp; done) | (simp; omega)) _)) | assumption))
  clear hKr Kr
  try simp only [Act.put, List.setIfInBounds_toArray, List.set_cons_zero, List.set_cons_succ]
  refine wpAnyH_ready (rs := [8]) (by kernel_rfl) (by simp) ?_
  refine AllReadyH.cons (by simp only [List.getElem?_toArray, List.getElem?_cons_succ, List.getElem?_cons_zero]; rfl) (fun Kr hKr => ?_) AllReadyH.nil
  go_simp
  (refine (putHead_any t.size (by omega) (-1) (by omega) (by omega) 0 (by omega) (fun h => by omega) formsB (by simp) (by simp) (may4 t.size (by omega) formsB 198 (by simp)) (some ⟨w.heap.size + 1, 0, none⟩) 3 F b _ (by exact ((hB.alloc _).alloc _)) (by have h := (Rd.lit (w.alloc (.cells #[.int .i64 7, .int .u64 num, .string t, .int .i64 ext, .slice a n c] 27)) 76 (fcells formsB)).drew; rw [World.size_alloc] at h; exact h)).mono ?_; rintro e w1 ⟨a1, n1, c1, l1, rfl, ho1, hL1, hB1, hk1⟩; have hk2 := (Kp.of_below (F := F) (Below.drew (Below.alloc (Below.alloc (Below.refl w.heap.size w) (by simp) _) (by simp) _))).trans (hk1.mono (by simp; omega)); have hBv := ((Blk.new w 27 #[.int .i64 7, .int .u64 num, .string t, .int .i64 ext, .slice a n c]).alloc _).drew.kp hk1 (by simp; omega) (by omega); have hs1 := hk1.size; have ho1m := ho1.mono (B' := w.heap.size + 1) (by simp))
  refine hKr.out _ _ ?hS8_24 (fun hHeld => ?hR8_24)
  case hS8_24 => (exact K _ (by first | (repeat (first | with_reducible exact Blk.new _ _ _ | with_reducible assumption | with_reducible refine Blk.newAt (by first | rfl | (simp; done) | (simp; omega)) _ _ | with_reducible refine Blk.alloc ?_ _ | with_reducible refine Blk.drewN ?_ _ | with_reducible refine Blk.drew ?_ | with_reducible refine Blk.other ?_ (by first | omega | (simp; done) | (simp; omega)) _)) | assumption))
  clear hKr Kr
  try simp only [Act.put, List.setIfInBounds_toArray, List.set_cons_zero, List.set_cons_succ]
  refine wpAnyH_ready (rs := [11]) (by kernel_rfl) (by simp) ?_
  refine AllReadyH.cons (by simp only [List.getElem?_toArray, List.getElem?_cons_succ, List.getElem?_cons_zero]; rfl) (fun Kr hKr => ?_) AllReadyH.nil
  have hn1 : n1 ≤ 5 := (by have h1 := headL_le (by simp) hL1; have h2 := ho1m.vw.len; omega); refine step_appS (by rfl) _ _ (by rfl) (w.heap.size + 1) a1 n1 c1 l1 (by rfl) ho1m t (by rfl) (by omega) (by simp at hs1; omega) ?_; intro a5 c5 w5 ho5 hg5; have hb5 := below_of_grown (B := w.heap.size + 1) hg5 (by simp at hs1; omega) ho1m.ge; have hB5 := Blk.below hBv hb5 (by omega)
  refine hKr.out _ _ ?hS11_25 (fun hHeld => ?hR11_25)
  case hS11_25 => (exact K _ (by first | (repeat (first | with_reducible exact Blk.new _ _ _ | with_reducible assumption | with_reducible refine Blk.newAt (by first | rfl | (simp; done) | (simp; omega)) _ _ | with_reducible refine Blk.alloc ?_ _ | with_reducible refine Blk.drewN ?_ _ | with_reducible refine Blk.drew ?_ | with_reducible refine Blk.other ?_ (by first | omega | (simp; done) | (simp; omega)) _)) | assumption))
  clear hKr Kr
  try simp only [Act.put, List.setIfInBounds_toArray, List.set_cons_zero, List.set_cons_succ]
  refine wpAnyH_take (i := 12) (v := ?_) (by simp only [List.getElem?_toArray, List.getElem?_cons_succ, List.getElem?_cons_zero]; rfl) (by kernel_rfl) (by kernel_rfl) (by kernel_rfl) (by intro _ _ _ h; exact h) (Or.inl ⟨by rfl, ?h12_26⟩) (by assumption) ?r12_26
  case h12_26 => (intro w hSw; (try dsimp only at hSw); go_simp; try with_reducible rfl)
  try simp only [Act.put, List.setIfInBounds_toArray, List.set_cons_zero, List.set_cons_succ]
  refine wpAnyH_done (by kernel_rfl) ?_ _
  go_wp2_with fail
  go_ret
  exact ⟨a5, _, c5, _, rfl, ho5.mono (by omega), .inr (.inr (.inr (.inr (.inr (.inr (.inr (.inl ⟨rfl, l1, hL1, rfl⟩))))))), hB1.below hb5 (by omega), hk2.trans (Kp.of_below (hb5.mono (by omega)))⟩
end Go.Proofs.YtdncfolehkhjhaaDoor
