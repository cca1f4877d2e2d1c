/- spec.Forms.pick; worlds that are kept but for the forms' block. -/
import Derived.Test.YtdncfolehkhjhaaDoorForms
namespace Go.Proofs.YtdncfolehkhjhaaDoor
open Go.RowKit
set_option linter.unusedVariables false
set_option linter.unusedSimpArgs false

/-- Below block B all is kept but block F. -/
structure Kp (F B : Nat) (w w' : World) : Prop where
  os : w'.os = w.os
  tape : w'.tape = w.tape
  output : w'.output = w.output
  size : w.heap.size ≤ w'.heap.size
  block : ∀ k, k < B → k ≠ F → w'.heap[k]? = w.heap[k]?

theorem Kp.of_below {F B : Nat} {w w' : World} (h : Below B w w') : Kp F B w w' := ⟨h.os, h.tape, h.output, h.size, fun k hk _ => h.block k hk⟩
theorem Kp.refl (F B : Nat) (w : World) : Kp F B w w := ⟨rfl, rfl, rfl, Nat.le_refl _, fun _ _ _ => rfl⟩
theorem Kp.trans {F B : Nat} {a b c : World} (h1 : Kp F B a b) (h2 : Kp F B b c) : Kp F B a c :=
  ⟨h2.os.trans h1.os, h2.tape.trans h1.tape, h2.output.trans h1.output, Nat.le_trans h1.size h2.size, fun k hk hF => (h2.block k hk hF).trans (h1.block k hk hF)⟩
theorem Kp.mono {F B B' : Nat} {w w' : World} (h : Kp F B w w') (hB : B' ≤ B) : Kp F B' w w' := ⟨h.os, h.tape, h.output, h.size, fun k hk hF => h.block k (by omega) hF⟩
theorem Kp.below {F B B' : Nat} {w w' : World} (h : Kp F B w w') (hB : B' ≤ B) (hF : B' ≤ F) : Below B' w w' := ⟨h.os, h.tape, h.output, h.size, fun k hk => h.block k (by omega) (by omega)⟩
theorem Kp.set (F B : Nat) (w : World) (i : Nat) (v : Value) : Kp F B w (w.setCell ⟨F, i, none⟩ v) :=
  ⟨rfl, rfl, rfl, by simp, fun k hk hF => Below.heap_setCell _ _ _ _ hF⟩
theorem Blk.kp {F B : Nat} {w w' : World} (hk : Kp F B w w') {g : Nat} {t : TypeId} {cs : Array Value} (h : Blk w g t cs) (hg : g < B) (hF : g ≠ F) : Blk w' g t cs := by
  unfold Blk; rw [hk.block g hg hF]; exact h
theorem Vw.kp {F B : Nat} {w w' : World} (hk : Kp F B w w') (hB : w.heap.size ≤ B) {a : Option Addr} {n c : Nat} {l : List Int} (h : Vw w a n c l) (hF : ∀ x, a = some x → x.block ≠ F) : Vw w' a n c l := by
  refine ⟨h.len, h.cap, h.big, h.byt, h.nul, ?_⟩
  rcases h.cells with h0 | ⟨b, off, ha, hx⟩
  · exact .inl h0
  · refine .inr ⟨b, off, ha, fun i hi => ?_⟩
    have hc := hx i hi
    have hbl := World.block_lt_of_cell? w _ hc
    rw [← hc]
    exact World.cell?_of_block (hk.block b (by simp at hbl; omega) (hF _ ha))
theorem Own.kp {E F B K : Nat} {w w' : World} (hk : Kp F K w w') (hK : w.heap.size ≤ K) {a : Option Addr} {n c : Nat} {l : List Int} (h : Own E w B a n c l) (hF : F < B) : Own E w' B a n c l := by
  have hge := h.ge
  exact h.kept fun g cur e hb => hb.kp hk (by have := hb.lt; omega) (by have := hge _ e; simp at this; omega)

theorem set_same {w : World} {F : Nat} {t : TypeId} {cs : Array Value} (h : Blk w F t cs) {i : Nat} {v : Value} (hv : cs[i]? = some v) : w.setCell ⟨F, i, none⟩ v = w := by
  unfold Blk at h
  have : (w.setCell ⟨F, i, none⟩ v).heap = w.heap := by
    apply Array.ext_getElem?
    intro k
    by_cases hk : k = F
    · subst hk
      have h2 := (show Blk w k t cs from h).set i v
      unfold Blk at h2
      rw [h2, h]
      congr 2
      apply Array.ext_getElem?
      intro q
      rw [Array.getElem?_setIfInBounds]
      split
      · subst_vars
        rw [hv]
        split
        · rfl
        · rename_i hlt
          rw [Array.getElem?_eq_none (by omega)] at hv
          cases hv
      · rfl
    · exact Below.heap_setCell _ _ _ _ hk
  cases w
  simp only [World.setCell] at this ⊢
  simp only [this]

/-- What pick tells. -/
def PickRes (F : Nat) (b : Bool) (n : Int) (w : World) (e : Ending) (w' : World) : Prop :=
  ∃ k s' : Int, e = .returned (.int .i64 k) ∧ 0 ≤ k ∧ (n ≤ 1 → k = 0) ∧ (1 ≤ n → k < n) ∧ 0 ≤ s' ∧ s' < 18446744073709551616 ∧ w' = w.setCell ⟨F, 0, none⟩ (.int .u64 s')

set_option maxRecDepth 100000 in
set_option maxHeartbeats 4000000 in
theorem pick_any (s : Int) (hs0 : 0 ≤ s) (hs1 : s < 18446744073709551616) (b : Bool) (n : Int) (hn0 : 0 ≤ n) (hn1 : n ≤ 1000) (F : Nat) (w : World) (hB : Blk w F 44 #[.int .u64 s, .bool b]) :
    Calls Tryd.prog 45 #[.pointer (some ⟨F, 0, none⟩), .int .i64 n] w (PickRes F b n w) := by
  have q0 := hB.cell (i := 0) rfl
  have q1 := hB.cell (i := 1) rfl
  have f0 := hB.frozen 0
  have hsm := set_same hB (i := 0) (v := .int .u64 s) rfl
  have HSM := Lib.hid hsm
  clear hsm
  have hT : ∀ y : Int, 0 ≤ IntKind.u64.wrap y ∧ IntKind.u64.wrap y < 18446744073709551616 := fun y => by rw [wrap_u64]; omega
  by_cases hn : n ≤ 1
  · have d : decide (n ≤ 1) = true := by simpa using hn
    have HT := Lib.hid hT
    clear hT
    cases b with
    | true =>
      go_enter Tryd.func45, Tryd.ntmps45
      go_wp2_with fail
      go_ret
      exact ⟨0, s, rfl, by omega, fun _ => rfl, fun h => by omega, hs0, hs1, HSM.out.symm⟩
    | false =>
      go_enter Tryd.func45, Tryd.ntmps45
      go_wp2_with fail
      go_ret
      exact ⟨0, s, rfl, by omega, fun _ => rfl, fun h => by omega, hs0, hs1, HSM.out.symm⟩
  · have d : decide (n ≤ 1) = false := by simpa using hn
    have HT := Lib.hid hT
    clear hT
    cases b with
    | true =>
      go_enter Tryd.func45, Tryd.ntmps45
      go_wp2_with fail
      go_ret
      exact ⟨0, s, rfl, by omega, fun _ => rfl, fun h => by omega, hs0, hs1, HSM.out.symm⟩
    | false =>
      go_enter Tryd.func45, Tryd.ntmps45
      go_wp2_with fail
      go_ret
      obtain ⟨T, hTT⟩ : ∃ T, T = IntKind.u64.wrap (IntKind.u64.wrap (s * 6364136223846793005) + 1442695040888963407) := ⟨_, rfl⟩
      have hb := HT.out (IntKind.u64.wrap (s * 6364136223846793005) + 1442695040888963407)
      rw [← hTT] at hb ⊢
      have hw : wrap64 (T / 8589934592) = T / 8589934592 := by unfold wrap64; omega
      have hnn : 0 ≤ T / 8589934592 := by omega
      rw [hw, Int.tmod_eq_emod_of_nonneg hnn]
      exact ⟨_, T, rfl, Int.emod_nonneg _ (by omega), fun h => by omega, fun h => Int.emod_lt_of_pos _ (by omega), hb.1, hb.2, rfl⟩
end Go.Proofs.YtdncfolehkhjhaaDoor
