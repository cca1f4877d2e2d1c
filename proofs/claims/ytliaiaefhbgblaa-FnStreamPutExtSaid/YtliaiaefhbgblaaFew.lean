/- spec.fewPacks. -/
import Derived.Test.YtliaiaefhbgblaaPack
namespace Go.Proofs.Ytliaiaefhbgblaa
open Go.RowKit
set_option linter.unusedVariables false
set_option linter.unusedSimpArgs false

/-- What fewPacks tells, and how many are left. -/
def FewRes (L : Nat) (n : Nat) (s : Int) (w : World) (e : Ending) (w' : World) : Prop :=
  ∃ (b : Bool) (s' : Int), e = .returned (.bool b) ∧ Blk w' L 3 #[.int .i64 s'] ∧ (b = true → 0 ≤ s' ∧ s' = s - n) ∧ Kp L w.heap.size w w'

set_option maxRecDepth 100000 in
set_option maxHeartbeats 4000000 in
theorem few_any {w0 : World} {t : Pk} {v : Value} (h : PkAt w0 t v) : ∀ (L : Nat) (s : Int) (w : World), w0.heap.size ≤ L → Below w0.heap.size w0 w → 0 ≤ s → s ≤ 2000 → Blk w L 3 #[.int .i64 s] →
    Calls Try.prog 28 #[v, .pointer (some ⟨L, 0, none⟩)] w (FewRes L t.nodes s w) := by
  induction h with
  | mk k num ext t kids a c vs hr hc hk ih =>
    intro L s w hL hx hs0 hs1 hB
    obtain ⟨hr1, hr2, hr3, hr4, hr5, hr6⟩ := hr
    obtain ⟨m, hm⟩ : ∃ m, m = kids.length := ⟨_, rfl⟩
    have hnd : (Pk.mk k num t ext kids).nodes = 1 + Pk.nodesL kids := by simp [Pk.nodes]
    have hLlt := hB.lt
    rw [← hm] at hr5 ⊢
    have HM := Lib.hid hm
    have HN := Lib.hid hnd
    have HI := Lib.hid ih
    have HK := Lib.hid hk
    have HC := Lib.hid hc
    have HX := Lib.hid hx
    have c0 := fun o => (hB.alloc o).cell (i := 0) rfl
    have f0 := fun o => (hB.alloc o).frozen 0
    have hBs : Blk (w.setCell ⟨L, 0, none⟩ (.int .i64 (s - 1))) L 3 #[.int .i64 (s - 1)] := by simpa using hB.set 0 (.int .i64 (s - 1))
    have c1 := fun o => (hBs.alloc o).cell (i := 0) rfl
    clear hm hnd ih hk hc hx
    unfold pkV
    have hne : ¬ w.heap.size = L := by omega
    have hne2 : ¬ L = w.heap.size := by omega
    by_cases hs : s - 1 < 0
    · go_enter Try.func28, Try.ntmps28
      go_wp2_with fail
      go_ret
      refine ⟨false, s - 1, rfl, hBs.alloc _, (fun h => by cases h), ?_⟩
      exact (Kp.set L _ _ 0 _).trans (Kp.of_below ((Below.refl _ _).alloc (by simp) _))
    · have hs' : ¬ (s - 1 < 0) := hs
      go_enter Try.func28, Try.ntmps28
      go_wp2_with fail
      go_loopw [5] (fun i wr => ∃ j s', j ≤ m ∧ i = .int .i64 j ∧ 0 ≤ s' ∧ s' = s - 1 - Pk.nodesL (kids.take j) ∧ Blk wr L 3 #[.int .i64 s'] ∧ Blk wr w.heap.size 30 #[.int .i64 k, .int .u64 num, .string t, .int .i64 ext, .slice a m c] ∧ Kp L w.heap.size w wr) (fun i _ => m - (intOf i).toNat)
      case atStart => exact ⟨0, s - 1, Nat.zero_le _, rfl, by omega, by simp [Pk.nodesL], hBs.alloc _, Blk.newAt (by simp) _ _, (Kp.set L _ _ 0 _).trans (Kp.of_below ((Below.refl _ _).alloc (by simp) _))⟩
      case round =>
        obtain ⟨j, s', hj, rfl, hs0', hse, hBj, hBv, hkp⟩ := hrel
        have HSE := Lib.hid hse
        clear hse
        have hsz := hkp.size
        have q4v := hBv.cell (i := 4) rfl
        by_cases hlt : j < m
        · have hje : j < kids.length := by rw [← HM.out]; exact hlt
          have hxr : Below w0.heap.size w0 wr := HX.out.trans (hkp.below HX.out.size hL)
          obtain ⟨b, off, k', num', t', ext', a', n', c', rfl, hvs, q0, q1, q2, q3, q4⟩ := kid_cells HC.out hxr j hje (HK.out j hje)
          have hsn := nodesL_snoc kids j hje
          have hss : s' ≤ 2000 := by have := HSE.out; omega
          have hcall := HI.out j hje L s' wr hL hxr hs0' hss hBj
          rw [hvs] at hcall
          obtain ⟨nd, hnd⟩ : ∃ nd, nd = kids[j].nodes := ⟨_, rfl⟩
          rw [← hnd] at hsn hcall
          have HS := Lib.hid hsn
          have HA := Lib.hid hcall
          have HVS := Lib.hid hvs
          have HND := Lib.hid hnd
          clear hsn hcall hvs hnd
          go_wp2_with fail
          refine HA.out.mono ?_
          rintro e w1 ⟨b1, s1, rfl, hB1, hb1, hk1⟩
          have hBv1 : Blk w1 w.heap.size 30 _ := hBv.kp hk1 hBv.lt hne
          have hkp1 := hkp.trans (hk1.mono hsz)
          cases b1 with
          | false =>
            clear hb1
            go_wp2_with fail
            go_ret
            exact ⟨false, s1, rfl, hB1, (fun h => by cases h), hkp1⟩
          | true =>
            obtain ⟨hb10, hb11⟩ := hb1 rfl
            have HB1 := Lib.hid hb11
            clear hb1 hb11
            go_wp2_with fail
            go_roundw
            case rel => exact ⟨j + 1, s1, by omega, by go_num, hb10, by rw [HB1.out, HSE.out, HS.out]; omega, hB1, hBv1, hkp1⟩
            case measure => simp [intOf]; omega
        · obtain rfl : j = m := by omega
          have et : kids.take j = kids := List.take_of_length_le (by rw [← HM.out]; exact Nat.le_refl _)
          rw [et] at HSE
          clear et
          go_wp2_with fail
          go_ret
          exact ⟨true, s', rfl, hBj, fun _ => ⟨hs0', by rw [HSE.out, HN.out]; omega⟩, hkp⟩
end Go.Proofs.Ytliaiaefhbgblaa
