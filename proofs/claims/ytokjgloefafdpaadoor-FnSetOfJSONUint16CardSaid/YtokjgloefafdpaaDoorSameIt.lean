/- laws.sameItems (written by gen/sameit.py). -/
import Derived.Test.YtokjgloefafdpaaDoorRd
namespace Go.Proofs.YtokjgloefafdpaaDoor
open Go.RowKit Go.Maps Go.Lib
set_option linter.unusedVariables false
set_option linter.unusedSimpArgs false

theorem below_drewN {B : Nat} {w w' : World} (h : Below B w w') (n : Nat) : Below B w (w'.drewN n) := ⟨h.os, h.tape, h.output, h.size, h.block⟩
def YesRes (w : World) (e : Ending) (w' : World) : Prop := e = .returned (.bool true) ∧ Below w.heap.size w w'
set_option maxHeartbeats 1000000 in
theorem same_u16 (vs : List Int) (a b : Option Addr) (c1 c2 : Nat) (w : World) (hm : vs.length ≤ 1000) (hr1 : Rd w a (vs.map (Value.int .u16))) (hr2 : Rd w b (vs.map (Value.int .u16))) :
    Calls Tryd.prog 24 #[.slice a vs.length c1, .slice b vs.length c2] w (YesRes w) := by
  obtain ⟨m, hmv⟩ : ∃ m, m = vs.length := ⟨_, rfl⟩
  rw [← hmv] at hm ⊢
  have HM := Lib.hid hmv
  have H1 := Lib.hid hr1
  have H2 := Lib.hid hr2
  clear hmv hr1 hr2
  go_enter Tryd.func24, Tryd.ntmps24
  go_wp2_with fail
  go_loopw [13] (fun i wr => ∃ j : Nat, j ≤ m ∧ i = .int .i64 j ∧ Hid (Below w.heap.size w wr)) (fun i _ => m - (intOf i).toNat)
  case atStart => exact ⟨0, Nat.zero_le _, rfl, Lib.hid (Below.refl _ _)⟩
  case round =>
    obtain ⟨j, hj, rfl, hbr⟩ := hrel
    by_cases hlt : j < m
    · have hli : (j : Int) < m := by omega
      have hjv : j < vs.length := by have := HM.out; omega
      obtain ⟨b1, o1, rfl, g1⟩ := (H1.out.below hbr.out (Nat.le_refl _)).at_ (by simp; omega)
      obtain ⟨b2, o2, rfl, g2⟩ := (H2.out.below hbr.out (Nat.le_refl _)).at_ (by simp; omega)
      obtain ⟨v, hv⟩ : ∃ v, v = vs[j] := ⟨_, rfl⟩
      have k1 : wr.cell? ⟨b1, o1 + j, none⟩ = some (.int .u16 v) := by rw [g1 j (by simp; omega), hv]; simp [List.getD, List.getElem?_eq_getElem hjv]
      have k2 : wr.cell? ⟨b2, o2 + j, none⟩ = some (.int .u16 v) := by rw [g2 j (by simp; omega), hv]; simp [List.getD, List.getElem?_eq_getElem hjv]
      clear g1 g2 hv
      go_wp2_with fail
      go_quiet (fail)
      go_wp2_with fail
      go_roundw
      case rel => exact ⟨j + 1, by omega, by go_num, Lib.hid (below_drewN hbr.out _)⟩
      case measure => simp [intOf]; omega
    · have hli : ¬ (j : Int) < m := by omega
      obtain rfl : j = m := by omega
      go_wp2_with fail
      go_ret
      exact ⟨rfl, hbr.out⟩
set_option maxHeartbeats 1000000 in
theorem same_u64 (vs : List Int) (a b : Option Addr) (c1 c2 : Nat) (w : World) (hm : vs.length ≤ 1000) (hr1 : Rd w a (vs.map (Value.int .u64))) (hr2 : Rd w b (vs.map (Value.int .u64))) :
    Calls Tryd.prog 21 #[.slice a vs.length c1, .slice b vs.length c2] w (YesRes w) := by
  obtain ⟨m, hmv⟩ : ∃ m, m = vs.length := ⟨_, rfl⟩
  rw [← hmv] at hm ⊢
  have HM := Lib.hid hmv
  have H1 := Lib.hid hr1
  have H2 := Lib.hid hr2
  clear hmv hr1 hr2
  go_enter Tryd.func21, Tryd.ntmps21
  go_wp2_with fail
  go_loopw [13] (fun i wr => ∃ j : Nat, j ≤ m ∧ i = .int .i64 j ∧ Hid (Below w.heap.size w wr)) (fun i _ => m - (intOf i).toNat)
  case atStart => exact ⟨0, Nat.zero_le _, rfl, Lib.hid (Below.refl _ _)⟩
  case round =>
    obtain ⟨j, hj, rfl, hbr⟩ := hrel
    by_cases hlt : j < m
    · have hli : (j : Int) < m := by omega
      have hjv : j < vs.length := by have := HM.out; omega
      obtain ⟨b1, o1, rfl, g1⟩ := (H1.out.below hbr.out (Nat.le_refl _)).at_ (by simp; omega)
      obtain ⟨b2, o2, rfl, g2⟩ := (H2.out.below hbr.out (Nat.le_refl _)).at_ (by simp; omega)
      obtain ⟨v, hv⟩ : ∃ v, v = vs[j] := ⟨_, rfl⟩
      have k1 : wr.cell? ⟨b1, o1 + j, none⟩ = some (.int .u64 v) := by rw [g1 j (by simp; omega), hv]; simp [List.getD, List.getElem?_eq_getElem hjv]
      have k2 : wr.cell? ⟨b2, o2 + j, none⟩ = some (.int .u64 v) := by rw [g2 j (by simp; omega), hv]; simp [List.getD, List.getElem?_eq_getElem hjv]
      clear g1 g2 hv
      go_wp2_with fail
      go_quiet (fail)
      go_wp2_with fail
      go_roundw
      case rel => exact ⟨j + 1, by omega, by go_num, Lib.hid (below_drewN hbr.out _)⟩
      case measure => simp [intOf]; omega
    · have hli : ¬ (j : Int) < m := by omega
      obtain rfl : j = m := by omega
      go_wp2_with fail
      go_ret
      exact ⟨rfl, hbr.out⟩

end Go.Proofs.YtokjgloefafdpaaDoor
