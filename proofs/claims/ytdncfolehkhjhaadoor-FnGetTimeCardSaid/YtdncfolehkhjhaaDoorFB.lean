/- The forms' block; pick, told by it. -/
import Derived.Test.YtdncfolehkhjhaaDoorPick
namespace Go.Proofs.YtdncfolehkhjhaaDoor
open Go.RowKit
set_option linter.unusedVariables false
set_option linter.unusedSimpArgs false

theorem Own.lit1 (w : World) (z : Int) (h0 : 0 ≤ z) (h1 : z ≤ 255) {g B : Nat} (hg : g = w.heap.size) (hB : B ≤ w.heap.size) : O8 (w.alloc (.cells #[.int .u8 z] 5)) B (some ⟨g, 0, none⟩) 1 1 [z] := by
  subst hg
  exact (Own.lit 5 w [z] (by intro x hx; simp only [List.mem_singleton] at hx; subst hx; exact ⟨h0, h1⟩) (by simp)).mono hB

/-- The forms in block F. -/
def FB (w : World) (F : Nat) (b : Bool) : Prop := ∃ s : Int, 0 ≤ s ∧ s < 18446744073709551616 ∧ Blk w F 44 #[.int .u64 s, .bool b]
theorem FB.lt {w : World} {F : Nat} {b : Bool} (h : FB w F b) : F < w.heap.size := by obtain ⟨s, _, _, hB⟩ := h; exact hB.lt
theorem FB.below {w w' : World} {F B : Nat} {b : Bool} (h : FB w F b) (hb : Below B w w') (hF : F < B) : FB w' F b := by obtain ⟨s, h0, h1, hB⟩ := h; exact ⟨s, h0, h1, hB.below hb hF⟩
theorem FB.alloc {w : World} {F : Nat} {b : Bool} (h : FB w F b) (o : Obj) : FB (w.alloc o) F b := by obtain ⟨s, h0, h1, hB⟩ := h; exact ⟨s, h0, h1, hB.alloc o⟩

/-- A writer's answer: bytes of its own, of which L holds. -/
def PutRes (F : Nat) (b : Bool) (L : List Int → Prop) (w : World) (e : Ending) (w' : World) : Prop :=
  ∃ a n c l, e = .returned (.slice a n c) ∧ O8 w' w.heap.size a n c l ∧ L l ∧ FB w' F b ∧ Kp F w.heap.size w w'

/-- pick, told by the forms' block. -/
def PickF (F : Nat) (b : Bool) (n : Int) (w : World) (e : Ending) (w' : World) : Prop :=
  ∃ k : Int, e = .returned (.int .i64 k) ∧ 0 ≤ k ∧ (n ≤ 1 → k = 0) ∧ (1 ≤ n → k < n) ∧ FB w' F b ∧ w'.heap.size = w.heap.size ∧ (∃ v, w' = w.setCell ⟨F, 0, none⟩ v)

theorem pickF (b : Bool) (n : Int) (hn0 : 0 ≤ n) (hn1 : n ≤ 1000) (F : Nat) (w : World) (hB : FB w F b) :
    Calls Tryd.prog 45 #[.pointer (some ⟨F, 0, none⟩), .int .i64 n] w (PickF F b n w) := by
  obtain ⟨s, h0, h1, hb⟩ := hB
  refine (pick_any s h0 h1 b n hn0 hn1 F w hb).mono ?_
  rintro e w' ⟨k, s', rfl, hk0, hk1, hk2, hs0, hs1, rfl⟩
  exact ⟨k, rfl, hk0, hk1, hk2, ⟨s', hs0, hs1, by simpa using hb.set 0 (.int .u64 s')⟩, by simp, _, rfl⟩
end Go.Proofs.YtdncfolehkhjhaaDoor
