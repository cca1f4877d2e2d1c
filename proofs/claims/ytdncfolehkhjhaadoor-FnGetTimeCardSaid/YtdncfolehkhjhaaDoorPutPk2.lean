/- spec.PutPack of extensions. -/
import Derived.Test.YtdncfolehkhjhaaDoorPutPk1
namespace Go.Proofs.YtdncfolehkhjhaaDoor
open Go.RowKit
set_option linter.unusedVariables false
set_option linter.unusedSimpArgs false

theorem extL_le {n : Nat} {kb : Int} {x : List Int} (h : ExtL n kb x) : x.length ≤ 6 := by
  rcases h with ⟨i, k, _, _, rfl⟩ | ⟨f, hf, rfl⟩
  · simp
  · have : f.2 ≤ 4 := (by simp : ∀ f ∈ formsE, f.2 ≤ 4) f (List.mem_filter.1 hf).1
    simp [beL_len]; omega

set_option maxRecDepth 100000 in
set_option maxHeartbeats 4000000 in
theorem putPack_ext (num : Int) (t : ByteArray) (ht : t.size ≤ 131072) (ext : Int) (a : Option Addr) (n c : Nat) (F : Nat) (b : Bool) (w : World) (hB : FB w F b) :
    Calls Tryd.prog 13 #[pkV 10 num t ext a n c, .pointer (some ⟨F, 0, none⟩)] w (PutRes F b (PEnc 10 num t ext n) w) := by
  have hFl := hB.lt
  have K : ∀ W, Blk W w.heap.size 27 #[.int .i64 10, .int .u64 num, .string t, .int .i64 ext, .slice a n c] → (fun W => W.cell? ⟨w.heap.size, 2, none⟩ = some (.string t) ∧ W.cell? ⟨w.heap.size, 3, none⟩ = some (.int .i64 ext)) W := fun W h => ⟨h.cell rfl, h.cell rfl⟩
  unfold pkV
  go_enter Tryd.func13, Tryd.ntmps13
  go_wp2_with fail
  refine wp_region_held_drew (S := fun W => W.cell? ⟨w.heap.size, 2, none⟩ = some (.string t) ∧ W.cell? ⟨w.heap.size, 3, none⟩ = some (.int .i64 ext)) (by kernel_rfl) ?hS0 (fun hHeld => ?hR0)
  case hS0 => (exact K _ (by first | (repeat (first | with_reducible exact Blk.new _ _ _ | with_reducible assumption | with_reducible refine Blk.newAt (by first | rfl | (simp; done) | (simp; omega)) _ _ | with_reducible refine Blk.alloc ?_ _ | with_reducible refine Blk.drewN ?_ _ | with_reducible refine Blk.drew ?_ | with_reducible refine Blk.other ?_ (by first | omega | (simp; done) | (simp; omega)) _)) | assumption))
  refine wpAnyH_take (i := 0) (v := ?_) (by simp only [List.getElem?_toArray, List.getElem?_cons_succ, List.getElem?_cons_zero]; rfl) (by kernel_rfl) (by kernel_rfl) (by kernel_rfl) (by intro _ _ _ h; exact h) (Or.inl ⟨by rfl, ?h0_1⟩) (by assumption) ?r0_1
  case h0_1 => (intro w hSw; (try dsimp only at hSw); go_simp; try with_reducible rfl)
  try simp only [Act.put, List.setIfInBounds_toArray, List.set_cons_zero, List.set_cons_succ]
  refine wpAnyH_take (i := 1) (v := ?_) (by simp only [List.getElem?_toArray, List.getElem?_cons_succ, List.getElem?_cons_zero]; rfl) (by kernel_rfl) (by kernel_rfl) (by kernel_rfl) (by intro _ _ _ h; exact h) (Or.inl ⟨by rfl, ?h1_2⟩) (by assumption) ?r1_2
  case h1_2 => (intro w hSw; (try dsimp only at hSw); go_simp; try with_reducible rfl)
  try simp only [Act.put, List.setIfInBounds_toArray, List.set_cons_zero, List.set_cons_succ]
  refine wpAnyH_take (i := 2) (v := ?_) (by simp only [List.getElem?_toArray, List.getElem?_cons_succ, List.getElem?_cons_zero]; rfl) (by kernel_rfl) (by kernel_rfl) (by kernel_rfl) (by intro _ _ _ h; exact h) (Or.inl ⟨by rfl, ?h2_3⟩) (by assumption) ?r2_3
  case h2_3 => (intro w hSw; (try dsimp only at hSw); go_simp; try with_reducible rfl)
  try simp only [Act.put, List.setIfInBounds_toArray, List.set_cons_zero, List.set_cons_succ]
  refine wpAnyH_take (i := 3) (v := ?_) (by simp only [List.getElem?_toArray, List.getElem?_cons_succ, List.getElem?_cons_zero]; rfl) (by kernel_rfl) (by kernel_rfl) (by kernel_rfl) (by intro _ _ _ h; exact h) (Or.inl ⟨by rfl, ?h3_4⟩) (by assumption) ?r3_4
  case h3_4 => (intro w hSw; (try dsimp only at hSw); go_simp; try with_reducible rfl)
  try simp only [Act.put, List.setIfInBounds_toArray, List.set_cons_zero, List.set_cons_succ]
  refine wpAnyH_take (i := 4) (v := ?_) (by simp only [List.getElem?_toArray, List.getElem?_cons_succ, List.getElem?_cons_zero]; rfl) (by kernel_rfl) (by kernel_rfl) (by kernel_rfl) (by intro _ _ _ h; exact h) (Or.inl ⟨by rfl, ?h4_5⟩) (by assumption) ?r4_5
  case h4_5 => (intro w hSw; (try dsimp only at hSw); go_simp; try with_reducible rfl)
  try simp only [Act.put, List.setIfInBounds_toArray, List.set_cons_zero, List.set_cons_succ]
  refine wpAnyH_take (i := 5) (v := ?_) (by simp only [List.getElem?_toArray, List.getElem?_cons_succ, List.getElem?_cons_zero]; rfl) (by kernel_rfl) (by kernel_rfl) (by kernel_rfl) (by intro _ _ _ h; exact h) (Or.inl ⟨by rfl, ?h5_6⟩) (by assumption) ?r5_6
  case h5_6 => (intro w hSw; (try dsimp only at hSw); go_simp; try with_reducible rfl)
  try simp only [Act.put, List.setIfInBounds_toArray, List.set_cons_zero, List.set_cons_succ]
  refine wpAnyH_take (i := 7) (v := ?_) (by simp only [List.getElem?_toArray, List.getElem?_cons_succ, List.getElem?_cons_zero]; rfl) (by kernel_rfl) (by kernel_rfl) (by kernel_rfl) (by intro _ _ _ h; exact h) (Or.inl ⟨by rfl, ?h7_7⟩) (by assumption) ?r7_7
  case h7_7 => (intro w hSw; (try dsimp only at hSw); go_simp; try with_reducible rfl)
  try simp only [Act.put, List.setIfInBounds_toArray, List.set_cons_zero, List.set_cons_succ]
  refine wpAnyH_take (i := 8) (v := ?_) (by simp only [List.getElem?_toArray, List.getElem?_cons_succ, List.getElem?_cons_zero]; rfl) (by kernel_rfl) (by kernel_rfl) (by kernel_rfl) (by intro _ _ _ h; exact h) (Or.inl ⟨by rfl, ?h8_8⟩) (by assumption) ?r8_8
  case h8_8 => (intro w hSw; (try dsimp only at hSw); go_simp; try with_reducible rfl)
  try simp only [Act.put, List.setIfInBounds_toArray, List.set_cons_zero, List.set_cons_succ]
  refine wpAnyH_ready (rs := [6]) (by kernel_rfl) (by simp) ?_
  refine AllReadyH.cons (by simp only [List.getElem?_toArray, List.getElem?_cons_succ, List.getElem?_cons_zero]; rfl) (fun Kr hKr => ?_) AllReadyH.nil
  go_simp
  (refine (putExt_any t.size ht ext F b _ (by exact hB.alloc _)).mono ?_; rintro e w1 ⟨a1, n1, c1, l1, rfl, ho1, hL1, hB1, hk1⟩; have hk2 := (Kp.of_below (F := F) (Below.drew (Below.alloc (Below.refl w.heap.size w) (by simp) _))).trans (hk1.mono (by simp)); have hBv := (Blk.new w 27 #[.int .i64 10, .int .u64 num, .string t, .int .i64 ext, .slice a n c]).drew.kp hk1 (by simp) (by omega); have hs1 := hk1.size; have ho1m := ho1.mono (B' := w.heap.size + 1) (by simp))
  refine hKr.out _ _ ?hS6_9 (fun hHeld => ?hR6_9)
  case hS6_9 => (exact K _ (by first | (repeat (first | with_reducible exact Blk.new _ _ _ | with_reducible assumption | with_reducible refine Blk.newAt (by first | rfl | (simp; done) | (simp; omega)) _ _ | with_reducible refine Blk.alloc ?_ _ | with_reducible refine Blk.drewN ?_ _ | with_reducible refine Blk.drew ?_ | with_reducible refine Blk.other ?_ (by first | omega | (simp; done) | (simp; omega)) _)) | assumption))
  clear hKr Kr
  try simp only [Act.put, List.setIfInBounds_toArray, List.set_cons_zero, List.set_cons_succ]
  refine wpAnyH_ready (rs := [9]) (by kernel_rfl) (by simp) ?_
  refine AllReadyH.cons (by simp only [List.getElem?_toArray, List.getElem?_cons_succ, List.getElem?_cons_zero]; rfl) (fun Kr hKr => ?_) AllReadyH.nil
  have hn1 : n1 ≤ 6 := (by have h1 := extL_le hL1; have h2 := ho1m.vw.len; omega); refine step_appS (by rfl) _ _ (by rfl) (w.heap.size + 1) a1 n1 c1 l1 (by rfl) ho1m t (by rfl) (by omega) (by simp at hs1; omega) ?_; intro a5 c5 w5 ho5 hg5; have hb5 := below_of_grown (B := w.heap.size + 1) hg5 (by simp at hs1; omega) ho1m.ge; have hB5 := Blk.below hBv hb5 (by omega)
  refine hKr.out _ _ ?hS9_10 (fun hHeld => ?hR9_10)
  case hS9_10 => (exact K _ (by first | (repeat (first | with_reducible exact Blk.new _ _ _ | with_reducible assumption | with_reducible refine Blk.newAt (by first | rfl | (simp; done) | (simp; omega)) _ _ | with_reducible refine Blk.alloc ?_ _ | with_reducible refine Blk.drewN ?_ _ | with_reducible refine Blk.drew ?_ | with_reducible refine Blk.other ?_ (by first | omega | (simp; done) | (simp; omega)) _)) | assumption))
  clear hKr Kr
  try simp only [Act.put, List.setIfInBounds_toArray, List.set_cons_zero, List.set_cons_succ]
  refine wpAnyH_take (i := 10) (v := ?_) (by simp only [List.getElem?_toArray, List.getElem?_cons_succ, List.getElem?_cons_zero]; rfl) (by kernel_rfl) (by kernel_rfl) (by kernel_rfl) (by intro _ _ _ h; exact h) (Or.inl ⟨by rfl, ?h10_11⟩) (by assumption) ?r10_11
  case h10_11 => (intro w hSw; (try dsimp only at hSw); go_simp; try with_reducible rfl)
  try simp only [Act.put, List.setIfInBounds_toArray, List.set_cons_zero, List.set_cons_succ]
  refine wpAnyH_done (by kernel_rfl) ?_ _
  go_wp2_with fail
  go_ret
  exact ⟨a5, _, c5, _, rfl, ho5.mono (by omega), .inr (.inr (.inr (.inr (.inr (.inr (.inr (.inr (.inr (.inr ⟨rfl, l1, hL1, rfl⟩))))))))), hB1.below hb5 (by omega), hk2.trans (Kp.of_below (hb5.mono (by omega)))⟩
end Go.Proofs.YtdncfolehkhjhaaDoor
