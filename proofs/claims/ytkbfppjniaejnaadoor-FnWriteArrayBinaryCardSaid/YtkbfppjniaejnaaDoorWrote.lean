/- spec.SameValue at values without values in them; laws.wrote. -/
import Derived.Test.YtkbfppjniaejnaaDoorCon
import Derived.Deep.LoopGhost
namespace Go.Proofs.YtkbfppjniaejnaaDoor
open Go.RowKit
set_option linter.unusedVariables false
set_option linter.unusedSimpArgs false

set_option maxRecDepth 100000 in
set_option maxHeartbeats 4000000 in
theorem same_leaf (k num : Int) (text : ByteArray) (ka kb da db : Option Addr) (kc kc' dc dc' : Nat) (kof kof' : Int) (w : World) :
    Calls Tryd.prog 30 #[av k num text (.slice ka 0 kc) kof (.slice da 0 dc), av k num text (.slice kb 0 kc') kof' (.slice db 0 dc')] w fun e w' => e = .returned (.bool true) ∧ Below w.heap.size w w' := by
  have e1 : (k != k) = false := by simp
  have e2 : (num != num) = false := by simp
  unfold av
  go_enter Tryd.func30, Tryd.ntmps30
  go_wp2_with fail
  refine wp_loop_once ?_
  go_wp2_with fail
  go_quiet (fail)
  go_wp2_with fail
  go_ret
  refine ⟨rfl, ?_⟩
  (repeat (first | with_reducible exact Below.refl _ _ | with_reducible assumption | with_reducible refine below_drewN ?_ _ | with_reducible refine Below.drew ?_ | with_reducible refine below_row ?_ (by first | omega | (simp; done) | (simp; omega)) _ | with_reducible refine Below.alloc ?_ (by first | omega | (simp; done) | (simp; omega)) _ | with_reducible refine Below.setCell ?_ (by first | omega | (simp; done) | (simp; omega)) _))

set_option maxRecDepth 100000 in
set_option maxHeartbeats 4000000 in
theorem wrote_leaf (a : Option Addr) (n c : Nat) (k num : Int) (text : ByteArray) (ka kb : Option Addr) (kc kc' : Nat) (kof : Int) (a2 : Option Addr) (c2 : Nat) (w0 : World)
    (ht : ∀ w, Below w0.heap.size w0 w → Calls Tryd.prog 29 #[.slice a n c, .int .i64 8] w fun e w' => e = .returned (got (av k num text (.slice ka 0 kc) kof nilS) a2 0 c2) ∧ Below w.heap.size w w') (w : World) (hx : Below w0.heap.size w0 w) :
    Calls Tryd.prog 12 #[.slice a n c, .bool true, av k num text (.slice kb 0 kc') 0 nilS] w fun e w' => e = .returned (.bool true) ∧ Below w.heap.size w w' := by
  have HT := Lib.hid ht
  clear ht
  have HX := Lib.hid hx
  clear hx
  have hxa : ∀ o, Below w0.heap.size w0 (w.alloc o) := fun o => HX.out.alloc HX.out.size o
  unfold av
  go_enter Tryd.func12, Tryd.ntmps12
  go_wp2_with (go_at_call 29; refine (HT.out _ (hxa _)).mono ?_; rintro e w1 ⟨rfl, hb1⟩; unfold got av; have hs1 : w.heap.size + 1 ≤ w1.heap.size := (by have := hb1.size; simp at this; omega); have hB5 : Blk w1 w.heap.size 29 #[.int .i64 k, .int .u64 num, .string text, .slice kb 0 kc', .int .i64 0, nilS] := Blk.below (Blk.new _ _ _) hb1 (by simp); have hc0 := fun o => (hB5.alloc o).cell (i := 0) rfl; have hc1 := fun o => (hB5.alloc o).cell (i := 1) rfl; have hc2 := fun o => (hB5.alloc o).cell (i := 2) rfl; have hc3 := fun o => (hB5.alloc o).cell (i := 3) rfl; have hc4 := fun o => (hB5.alloc o).cell (i := 4) rfl; have hc5 := fun o => (hB5.alloc o).cell (i := 5) rfl)
  refine (same_leaf k num text _ _ _ _ _ _ _ _ _ _ _).mono ?_
  rintro e w2 ⟨rfl, hb2⟩
  go_wp2_with fail
  go_ret
  refine ⟨rfl, ?_⟩
  have hbw : Below w.heap.size w w1 := Below.trans ((Below.refl _ _).alloc (Nat.le_refl _) _) (hb1.mono (by simp))
  exact (hbw.alloc hbw.size _).trans (hb2.mono (by simp; omega))

/-- These bytes are one value of AMQP, and no more. -/
def Whole (l : List Int) (k num : Int) (text : ByteArray) : Prop :=
  ∀ (w0 : World) (a : Option Addr) (n c : Nat), Vw w0 a n c l → ∃ a2 c2, ∀ w, Below w0.heap.size w0 w → Calls Tryd.prog 29 #[.slice a n c, .int .i64 8] w fun e w' => e = .returned (got (av k num text nilS 0 nilS) a2 0 c2) ∧ Below w.heap.size w w'

theorem whole_num (z k : Int) (bs : List Int) (hk : Kind z k bs.length) (hz : z ≠ 0) (h2 : 2 ≤ k) (h5 : k ≤ 5 ∨ 10 ≤ k ∧ k ≤ 16) (h8 : (bs.length : Int) ≤ 8) (h45 : z ≠ 69) : Whole (z :: bs) k (beN bs) ⟨#[]⟩ := by
  intro w0 a n c hv
  have hn := hv.len
  simp at hn
  obtain ⟨a1, hv1, h⟩ := takeValue_of z hz a n c bs 8 (by omega) w0 hv
  obtain ⟨a2, hv2, ht⟩ := take_num z k bs.length bs.length rfl hk h2 h5 h8 h45 none 0 0 a1 (n - 1) (c - 1) bs 8 w0 hv1 (by omega)
  rw [List.take_length, show n - 1 - bs.length = 0 by omega] at ht
  exact ⟨a2, _, h _ _ _ _ _ _ _ _ _ _ ht⟩

theorem wrote_whole (l : List Int) (k num : Int) (text : ByteArray) (hw : Whole l k num text) (a : Option Addr) (n c : Nat) (w : World) (hv : Vw w a n c l) :
    Calls Tryd.prog 12 #[.slice a n c, .bool true, av k num text nilS 0 nilS] w fun e w' => e = .returned (.bool true) ∧ Below w.heap.size w w' := by
  obtain ⟨a2, c2, ht⟩ := hw w a n c hv
  exact wrote_leaf a n c k num text none none 0 0 0 a2 c2 w ht w (Below.refl _ _)
end Go.Proofs.YtkbfppjniaejnaaDoor
