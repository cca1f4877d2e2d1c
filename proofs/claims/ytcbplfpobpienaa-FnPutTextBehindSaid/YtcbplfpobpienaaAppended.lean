/- laws.few, laws.appended. -/
import Derived.Test.YtcbplfpobpienaaTake
import Derived.Test.YtcbplfpobpienaaSame
namespace Go.Proofs.Ytcbplfpobpienaa
open Go.RowKit
set_option linter.unusedVariables false

theorem few_yes (a : Option Addr) (n c : Nat) (w : World) (h : n ≤ 200) :
    Calls Try.prog 10 #[.slice a n c] w fun e w' => e = .returned (.bool true) ∧ w' = w := by
  have h1 : ((n:Int) ≤ 200) := by omega
  go_enter Try.func10, Try.ntmps10
  go_wp2
  go_ret
  exact ⟨rfl, rfl⟩

theorem few_no (a : Option Addr) (n c : Nat) (w : World) (h : 200 < n) :
    Calls Try.prog 10 #[.slice a n c] w fun e w' => e = .returned (.bool false) ∧ w' = w := by
  have h1 : ((200 : Int) < n) := by omega
  have h2 : ¬ ((n : Int) ≤ 200) := by omega
  go_enter Try.func10, Try.ntmps10
  go_wp2
  go_ret
  exact ⟨rfl, rfl⟩

set_option maxRecDepth 100000 in
set_option maxHeartbeats 1000000 in
theorem appended_ok (a : Option Addr) (n c : Nat) (lb : List Int) (a2 : Option Addr) (m c2 : Nat) (enc : List Int) (w : World) (hv : Vw w a n c lb) (hv2 : Vw w a2 m c2 (lb ++ enc)) (most : Int)
    (hmost : most < 0 ∨ (enc.length : Int) ≤ most) (kv nv xv kw nw xw : Int) (tv tw : ByteArray)
    (hT : ∀ a1, Vw w a1 (m - n) (c2 - n) enc → ∃ a3 c3, ∀ w', Below w.heap.size w w' → Took 20 #[.slice a1 (m - n) (c2 - n), .int .i64 1] w' (pk kw nw tw xw) a3 0 c3)
    (hS : ∀ w', Calls Try.prog 21 #[pk kv nv tv xv, pk kw nw tw xw] w' fun e w'' => e = .returned (.bool true) ∧ Below w'.heap.size w' w'') :
    Calls Try.prog 11 #[.slice a n c, .slice a2 m c2, pk kv nv tv xv, .int .i64 most] w fun e w' => e = .returned (.bool true) ∧ Below w.heap.size w w' := by
  have hcn := hv.cap
  have hcb := hv.big
  have hcn2 := hv2.cap
  have hcb2 := hv2.big
  have hlb := hv.len
  have hl2 := hv2.len
  simp at hl2
  have hnm : n ≤ m := by omega
  have hmn : ((m : Int) < (n : Int)) = False := by simp; omega
  obtain ⟨a1, hs, hv1⟩ := off_of hv2 (n : Int) n rfl hnm
  rw [← hlb, List.drop_left, hlb] at hv1
  obtain ⟨a3, c3, hcall⟩ := hT a1 hv1
  have HC := Lib.hid hcall
  have HS := Lib.hid hS
  clear hT hcall hS
  unfold Off at hs
  have hvt := hv2.take (k := n) hnm
  rw [← hlb, List.take_left, hlb] at hvt
  have hc1 := fun o nq => conv_of ((hvt.alloc o).drewN nq)
  have hc2 := fun o nq => conv_of ((hv.alloc o).drewN nq)
  have hnc2 : n ≤ c2 := by omega
  unfold pk
  rcases hmost with hm0 | hm0
  · have hmt : decide (0 ≤ most) = false := by simp; omega
    go_enter Try.func11, Try.ntmps11
    go_wp2_with fail
    go_quiet (fail)
    go_wp2_with fail
    refine Calls.mono (HC.out _ (by (repeat (first | with_reducible exact Below.refl _ _ | with_reducible assumption | with_reducible refine below_drewN ?_ _ | with_reducible refine Below.drew ?_ | with_reducible refine below_row ?_ (by first | omega | (simp; done) | (simp; omega)) _ | with_reducible refine Below.alloc ?_ (by first | omega | (simp; done) | (simp; omega)) _ | with_reducible refine Below.setCell ?_ (by first | omega | (simp; done) | (simp; omega)) _)))) ?_
    rintro e w1 ⟨rfl, hb1⟩
    have hB : Blk w1 w.heap.size 29 #[.int .i64 kv, .int .u64 nv, .string tv, .int .i64 xv, .slice none 0 0] := Blk.below ((Blk.new w _ _).drewN _) hb1 (by simp)
    have q0 : w1.cell? ⟨w.heap.size, 0, none⟩ = some (.int .i64 kv) := hB.cell rfl
    have q1 : w1.cell? ⟨w.heap.size, 1, none⟩ = some (.int .u64 nv) := hB.cell rfl
    have q2 : w1.cell? ⟨w.heap.size, 2, none⟩ = some (.string tv) := hB.cell rfl
    have q3 : w1.cell? ⟨w.heap.size, 3, none⟩ = some (.int .i64 xv) := hB.cell rfl
    have q4 : w1.cell? ⟨w.heap.size, 4, none⟩ = some (.slice none 0 0) := hB.cell rfl
    have hz := hB.lt
    have hne : w.heap.size ≠ w1.heap.size := by omega
    simp only [pk]
    go_wp2_with fail
    refine (HS.out _).mono ?_
    rintro e w2 ⟨rfl, hb2⟩
    go_wp2_with fail
    go_ret
    refine ⟨rfl, Below.trans (Below.trans ?_ (hb1.mono (by simp))) (Below.trans ?_ (hb2.mono (by simp; omega)))⟩
    · (repeat (first | with_reducible exact Below.refl _ _ | with_reducible assumption | with_reducible refine below_drewN ?_ _ | with_reducible refine Below.drew ?_ | with_reducible refine below_row ?_ (by first | omega | (simp; done) | (simp; omega)) _ | with_reducible refine Below.alloc ?_ (by first | omega | (simp; done) | (simp; omega)) _ | with_reducible refine Below.setCell ?_ (by first | omega | (simp; done) | (simp; omega)) _))
    · (repeat (first | with_reducible exact Below.refl _ _ | with_reducible assumption | with_reducible refine below_drewN ?_ _ | with_reducible refine Below.drew ?_ | with_reducible refine below_row ?_ (by first | omega | (simp; done) | (simp; omega)) _ | with_reducible refine Below.alloc ?_ (by first | omega | (simp; done) | (simp; omega)) _ | with_reducible refine Below.setCell ?_ (by first | omega | (simp; done) | (simp; omega)) _))
  · have hmt : decide (0 ≤ most) = true := by simp; omega
    have hmt1 : ¬ (most < (m : Int) - n) := by omega
    go_enter Try.func11, Try.ntmps11
    go_wp2_with fail
    go_quiet (fail)
    go_wp2_with fail
    refine Calls.mono (HC.out _ (by (repeat (first | with_reducible exact Below.refl _ _ | with_reducible assumption | with_reducible refine below_drewN ?_ _ | with_reducible refine Below.drew ?_ | with_reducible refine below_row ?_ (by first | omega | (simp; done) | (simp; omega)) _ | with_reducible refine Below.alloc ?_ (by first | omega | (simp; done) | (simp; omega)) _ | with_reducible refine Below.setCell ?_ (by first | omega | (simp; done) | (simp; omega)) _)))) ?_
    rintro e w1 ⟨rfl, hb1⟩
    have hB : Blk w1 w.heap.size 29 #[.int .i64 kv, .int .u64 nv, .string tv, .int .i64 xv, .slice none 0 0] := Blk.below ((Blk.new w _ _).drewN _) hb1 (by simp)
    have q0 : w1.cell? ⟨w.heap.size, 0, none⟩ = some (.int .i64 kv) := hB.cell rfl
    have q1 : w1.cell? ⟨w.heap.size, 1, none⟩ = some (.int .u64 nv) := hB.cell rfl
    have q2 : w1.cell? ⟨w.heap.size, 2, none⟩ = some (.string tv) := hB.cell rfl
    have q3 : w1.cell? ⟨w.heap.size, 3, none⟩ = some (.int .i64 xv) := hB.cell rfl
    have q4 : w1.cell? ⟨w.heap.size, 4, none⟩ = some (.slice none 0 0) := hB.cell rfl
    have hz := hB.lt
    have hne : w.heap.size ≠ w1.heap.size := by omega
    simp only [pk]
    go_wp2_with fail
    refine (HS.out _).mono ?_
    rintro e w2 ⟨rfl, hb2⟩
    go_wp2_with fail
    go_ret
    refine ⟨rfl, Below.trans (Below.trans ?_ (hb1.mono (by simp))) (Below.trans ?_ (hb2.mono (by simp; omega)))⟩
    · (repeat (first | with_reducible exact Below.refl _ _ | with_reducible assumption | with_reducible refine below_drewN ?_ _ | with_reducible refine Below.drew ?_ | with_reducible refine below_row ?_ (by first | omega | (simp; done) | (simp; omega)) _ | with_reducible refine Below.alloc ?_ (by first | omega | (simp; done) | (simp; omega)) _ | with_reducible refine Below.setCell ?_ (by first | omega | (simp; done) | (simp; omega)) _))
    · (repeat (first | with_reducible exact Below.refl _ _ | with_reducible assumption | with_reducible refine below_drewN ?_ _ | with_reducible refine Below.drew ?_ | with_reducible refine below_row ?_ (by first | omega | (simp; done) | (simp; omega)) _ | with_reducible refine Below.alloc ?_ (by first | omega | (simp; done) | (simp; omega)) _ | with_reducible refine Below.setCell ?_ (by first | omega | (simp; done) | (simp; omega)) _))
end Go.Proofs.Ytcbplfpobpienaa
