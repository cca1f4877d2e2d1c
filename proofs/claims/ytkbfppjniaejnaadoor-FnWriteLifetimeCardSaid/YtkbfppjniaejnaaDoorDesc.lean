/- Values with a descriptor: laws.policy, spec.takeConstructor, spec.SameValue, laws.wrote. -/
import Derived.Test.YtkbfppjniaejnaaDoorWrote
import Derived.StillTailTactics
import Derived.Deep.RegionHeld3
namespace Go.Proofs.YtkbfppjniaejnaaDoor
open Go.RowKit
set_option linter.unusedVariables false
set_option linter.unusedSimpArgs false

/-- A block that holds one value without values in it. -/
abbrev One (w : World) (b : Nat) (k num : Int) (text : ByteArray) : Prop := Blk w b 29 #[.int .i64 k, .int .u64 num, .string text, nilS, .int .i64 0, nilS]
abbrev at1 (b : Nat) : Value := .slice (some ⟨b, 0, none⟩) 1 1

/-- The cells of a block of one value, kept. -/
theorem One.kept {w W : World} {b : Nat} {k num : Int} {text : ByteArray} (h : One w b k num text) (hb : Below w.heap.size w W) :
    W.cell? ⟨b, 0, none⟩ = some (.int .i64 k) ∧ W.cell? ⟨b, 1, none⟩ = some (.int .u64 num) ∧ W.cell? ⟨b, 2, none⟩ = some (.string text) ∧ W.cell? ⟨b, 3, none⟩ = some (.slice none 0 0) ∧ W.cell? ⟨b, 4, none⟩ = some (.int .i64 0) ∧ W.cell? ⟨b, 5, none⟩ = some (.slice none 0 0) := by
  have h' := Blk.below h hb h.lt
  exact ⟨h'.cell rfl, h'.cell rfl, h'.cell rfl, h'.cell rfl, h'.cell rfl, h'.cell rfl⟩

set_option maxRecDepth 100000 in
set_option maxHeartbeats 4000000 in
theorem same_desc (k num : Int) (text : ByteArray) (b1 b2 : Nat) (dk dnum : Int) (dtext : ByteArray) (w : World) (h1 : One w b1 dk dnum dtext) (h2 : One w b2 dk dnum dtext) :
    Calls Tryd.prog 30 #[av k num text nilS 0 (at1 b1), av k num text nilS 0 (at1 b2)] w fun e w' => e = .returned (.bool true) ∧ Below w.heap.size w w' := by
  have e1 : (k != k) = false := by simp
  have e2 : (num != num) = false := by simp
  unfold av
  go_enter Tryd.func30, Tryd.ntmps30
  go_wp2_with fail
  refine wp_loop_once ?_
  go_wp2_with fail
  have hA : Blk ((w.alloc (.cells #[.int .i64 k, .int .u64 num, .string text, nilS, .int .i64 0, at1 b1] 29)).alloc (.cells #[.int .i64 k, .int .u64 num, .string text, nilS, .int .i64 0, at1 b2] 29)) w.heap.size 29 #[.int .i64 k, .int .u64 num, .string text, nilS, .int .i64 0, at1 b1] := (Blk.new _ _ _).alloc _
  have hB : Blk ((w.alloc (.cells #[.int .i64 k, .int .u64 num, .string text, nilS, .int .i64 0, at1 b1] 29)).alloc (.cells #[.int .i64 k, .int .u64 num, .string text, nilS, .int .i64 0, at1 b2] 29)) (w.heap.size + 1) 29 #[.int .i64 k, .int .u64 num, .string text, nilS, .int .i64 0, at1 b2] := by simpa using Blk.new (w.alloc (.cells #[.int .i64 k, .int .u64 num, .string text, nilS, .int .i64 0, at1 b1] 29)) _ _
  have h1' := (h1.alloc (.cells #[.int .i64 k, .int .u64 num, .string text, nilS, .int .i64 0, at1 b1] 29)).alloc (.cells #[.int .i64 k, .int .u64 num, .string text, nilS, .int .i64 0, at1 b2] 29)
  have h2' := (h2.alloc (.cells #[.int .i64 k, .int .u64 num, .string text, nilS, .int .i64 0, at1 b1] 29)).alloc (.cells #[.int .i64 k, .int .u64 num, .string text, nilS, .int .i64 0, at1 b2] 29)
  generalize hw2 : (w.alloc (.cells #[.int .i64 k, .int .u64 num, .string text, nilS, .int .i64 0, at1 b1] 29)).alloc (.cells #[.int .i64 k, .int .u64 num, .string text, nilS, .int .i64 0, at1 b2] 29) = w2 at *
  have hbel : Below w.heap.size w w2 := by rw [← hw2]; exact ((Below.refl _ _).alloc (Nat.le_refl _) _).alloc (by simp) _
  clear hw2
  have K : ∀ W, Below w2.heap.size w2 W → (fun W => Below w2.heap.size w2 W ∧ (W.cell? ⟨w.heap.size, 5, none⟩ = some (.slice (some ⟨b1, 0, none⟩) 1 1) ∧ W.cell? ⟨w.heap.size + 1, 5, none⟩ = some (.slice (some ⟨b2, 0, none⟩) 1 1)) ∧ (W.cell? ⟨b1, 0, none⟩ = some (.int .i64 dk) ∧ W.cell? ⟨b1, 1, none⟩ = some (.int .u64 dnum) ∧ W.cell? ⟨b1, 2, none⟩ = some (.string dtext) ∧ W.cell? ⟨b1, 3, none⟩ = some (.slice none 0 0) ∧ W.cell? ⟨b1, 4, none⟩ = some (.int .i64 0) ∧ W.cell? ⟨b1, 5, none⟩ = some (.slice none 0 0)) ∧ (W.cell? ⟨b2, 0, none⟩ = some (.int .i64 dk) ∧ W.cell? ⟨b2, 1, none⟩ = some (.int .u64 dnum) ∧ W.cell? ⟨b2, 2, none⟩ = some (.string dtext) ∧ W.cell? ⟨b2, 3, none⟩ = some (.slice none 0 0) ∧ W.cell? ⟨b2, 4, none⟩ = some (.int .i64 0) ∧ W.cell? ⟨b2, 5, none⟩ = some (.slice none 0 0))) W := fun W hq => ⟨hq, ⟨(Blk.below hA hq hA.lt).cell rfl, (Blk.below hB hq hB.lt).cell rfl⟩, One.kept h1' hq, One.kept h2' hq⟩
  go_region_held3 (fun W => Below w2.heap.size w2 W ∧ (W.cell? ⟨w.heap.size, 5, none⟩ = some (.slice (some ⟨b1, 0, none⟩) 1 1) ∧ W.cell? ⟨w.heap.size + 1, 5, none⟩ = some (.slice (some ⟨b2, 0, none⟩) 1 1)) ∧ (W.cell? ⟨b1, 0, none⟩ = some (.int .i64 dk) ∧ W.cell? ⟨b1, 1, none⟩ = some (.int .u64 dnum) ∧ W.cell? ⟨b1, 2, none⟩ = some (.string dtext) ∧ W.cell? ⟨b1, 3, none⟩ = some (.slice none 0 0) ∧ W.cell? ⟨b1, 4, none⟩ = some (.int .i64 0) ∧ W.cell? ⟨b1, 5, none⟩ = some (.slice none 0 0)) ∧ (W.cell? ⟨b2, 0, none⟩ = some (.int .i64 dk) ∧ W.cell? ⟨b2, 1, none⟩ = some (.int .u64 dnum) ∧ W.cell? ⟨b2, 2, none⟩ = some (.string dtext) ∧ W.cell? ⟨b2, 3, none⟩ = some (.slice none 0 0) ∧ W.cell? ⟨b2, 4, none⟩ = some (.int .i64 0) ∧ W.cell? ⟨b2, 5, none⟩ = some (.slice none 0 0))) ((exact K _ (by (repeat (first | with_reducible exact Below.refl _ _ | with_reducible assumption | with_reducible refine below_drewN ?_ _ | with_reducible refine Below.drew ?_ | with_reducible refine below_row ?_ (by first | omega | (simp; done) | (simp; omega)) _ | with_reducible refine Below.alloc ?_ (by first | omega | (simp; done) | (simp; omega)) _ | with_reducible refine Below.setCell ?_ (by first | omega | (simp; done) | (simp; omega)) _))))) (first | (go_at_call 30; refine (same_leaf dk dnum dtext _ _ _ _ _ _ _ _ _ _ _).mono ?_; rintro e w3 ⟨rfl, hb3⟩; obtain ⟨W9, hq, hq2⟩ : ∃ W9, Below w2.heap.size w2 W9 ∧ Below W9.heap.size W9 w3 := ⟨_, (by (repeat (first | with_reducible exact Below.refl _ _ | with_reducible assumption | with_reducible refine below_drewN ?_ _ | with_reducible refine Below.drew ?_ | with_reducible refine below_row ?_ (by first | omega | (simp; done) | (simp; omega)) _ | with_reducible refine Below.alloc ?_ (by first | omega | (simp; done) | (simp; omega)) _ | with_reducible refine Below.setCell ?_ (by first | omega | (simp; done) | (simp; omega)) _))), hb3⟩; have hb4 : Below w2.heap.size w2 w3 := hq.trans (hq2.mono hq.size)))
  go_wp2_with fail
  go_ret
  exact ⟨rfl, hbel.trans ((by assumption : Below w2.heap.size w2 _).mono hbel.size)⟩
end Go.Proofs.YtkbfppjniaejnaaDoor
