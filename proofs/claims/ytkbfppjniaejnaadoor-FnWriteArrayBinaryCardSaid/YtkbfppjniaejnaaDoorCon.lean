/- spec.takeConstructor at a constructor without a descriptor; spec.TakeValue over it. -/
import Derived.Test.YtkbfppjniaejnaaDoorVal
import Derived.Deep.RegionHeld3
namespace Go.Proofs.YtkbfppjniaejnaaDoor
open Go.RowKit
set_option linter.unusedVariables false
set_option linter.unusedSimpArgs false

theorem Blk.set2 {w : World} {g : Nat} {t : TypeId} {cs : Array Value} (h : Blk w g t cs) (hs : cs.size = 2) (v0 v1 : Value) :
    Blk ((w.setCell ⟨g, 0, none⟩ v0).setCell ⟨g, 1, none⟩ v1) g t #[v0, v1] := by
  have h5 := (h.set 0 v0).set 1 v1
  rcases cs with ⟨l⟩
  rcases l with _ | ⟨a, _ | ⟨b, _ | ⟨c, l⟩⟩⟩ <;> simp at hs
  simpa using h5

set_option maxRecDepth 100000 in
set_option maxHeartbeats 4000000 in
theorem takeCon_plain (z : Int) (hz : z ≠ 0) (a : Option Addr) (n c : Nat) (l : List Int) (lv : Int) (hlv : 0 < lv) (w0 : World) (hv : Vw w0 a n c (z :: l)) :
    ∃ a', Vw w0 a' (n - 1) (c - 1) l ∧ ∀ w, Below w0.heap.size w0 w → Calls Tryd.prog 41 #[.slice a n c, .int .i64 lv] w fun e w' => e = .returned (.tuple #[ct nilS z, .slice a' (n - 1) (c - 1), .bool true]) ∧ Below w.heap.size w w' := by
  have hz1 := hv.byt z (by simp)
  have hn : 1 ≤ n := by have := hv.len; simp at this; omega
  obtain ⟨a1, hs, hv'⟩ := off_of hv 1 1 rfl hn
  simp only [List.drop_succ_cons, List.drop_zero] at hv'
  refine ⟨a1, hv', fun w hx => ?_⟩
  unfold Off at hs
  have hzb : (z == 0) = false := by simpa using hz
  have e1 : decide (lv ≤ 0) = false := by simp; omega
  have en : ((n : Int) == 0) = false := by simp; omega
  have hn0 : (0 : Int) < (n : Int) := by omega
  rcases (Vw.below hx (Nat.le_refl _) hv).cells with h0 | ⟨bl, off, rfl, hc⟩
  · omega
  · have hc0 := hc 0 (by omega)
    simp at hc0
    clear hc
    have hbl : bl < w.heap.size := by
      rcases Nat.lt_or_ge bl w.heap.size with h | h
      · exact h
      · simp [World.cell?, Array.getElem?_eq_none h] at hc0
    have hz0 : (z == 0) = false := hzb
    go_enter Tryd.func41, Tryd.ntmps41
    go_wp2_with fail
    go_region
    go_wp2_with fail
    refine bodyPost_ret (results_ctt rfl _ _ w.heap.size 81 _ _ rfl (Blk.new _ _ _).drew Tryd.underlying81 rfl (by kernel_rfl)) rfl ⟨rfl, ?_⟩
    (repeat (first | with_reducible exact Below.refl _ _ | with_reducible assumption | with_reducible refine below_drewN ?_ _ | with_reducible refine Below.drew ?_ | with_reducible refine below_row ?_ (by first | omega | (simp; done) | (simp; omega)) _ | with_reducible refine Below.alloc ?_ (by first | omega | (simp; done) | (simp; omega)) _ | with_reducible refine Below.setCell ?_ (by first | omega | (simp; done) | (simp; omega)) _))

/-- The result of a reader: a value, and what stands behind it. -/
abbrev got (v : Value) (a : Option Addr) (n c : Nat) : Value := .tuple #[v, .slice a n c, .bool true]

set_option maxRecDepth 100000 in
set_option maxHeartbeats 4000000 in
theorem takeValue_of (z : Int) (hz : z ≠ 0) (a : Option Addr) (n c : Nat) (l : List Int) (lv : Int) (hlv : 0 < lv) (w0 : World) (hv : Vw w0 a n c (z :: l)) :
    ∃ a1, Vw w0 a1 (n - 1) (c - 1) l ∧ ∀ (k num : Int) (text : ByteArray) (ka : Option Addr) (kn kc : Nat) (kof : Int) (a2 : Option Addr) (n2 c2 : Nat),
    (∀ w, Below w0.heap.size w0 w → Calls Tryd.prog 42 #[ct nilS z, .slice a1 (n - 1) (c - 1), .int .i64 lv] w fun e w' => e = .returned (got (av k num text (.slice ka kn kc) kof nilS) a2 n2 c2) ∧ Below w.heap.size w w') →
    ∀ w, Below w0.heap.size w0 w → Calls Tryd.prog 29 #[.slice a n c, .int .i64 lv] w fun e w' => e = .returned (got (av k num text (.slice ka kn kc) kof nilS) a2 n2 c2) ∧ Below w.heap.size w w' := by
  obtain ⟨a1, hv1, hcon⟩ := takeCon_plain z hz a n c l lv hlv w0 hv
  refine ⟨a1, hv1, fun k num text ka kn kc kof a2 n2 c2 ht1 w hx => ?_⟩
  have HT := Lib.hid ht1
  clear ht1
  have hxa : ∀ o, Below w0.heap.size w0 (w.alloc o) := fun o => hx.alloc hx.size o
  go_enter Tryd.func29, Tryd.ntmps29
  go_wp2_with (go_at_call 41; refine (hcon _ (hxa _)).mono ?_; rintro e w1 ⟨rfl, hb1⟩; unfold ct; have hs1 : w.heap.size + 1 ≤ w1.heap.size := (by have := hb1.size; simp at this; omega); have hB4 : Blk w1 w.heap.size 29 #[.int .i64 0, .int .u64 0, .string ⟨#[]⟩, nilS, .int .i64 0, nilS] := Blk.below (Blk.new _ _ _) hb1 (by simp); have hc0 := hB4.cell (i := 0) rfl; have hc1 := hB4.cell (i := 1) rfl; have hc2 := hB4.cell (i := 2) rfl; have hc3 := hB4.cell (i := 3) rfl; have hc4 := hB4.cell (i := 4) rfl; have hc5 := hB4.cell (i := 5) rfl; have hf := fun i => hB4.frozen i)
  have hbw : Below w.heap.size w w1 := Below.trans ((Below.refl _ _).alloc (Nat.le_refl _) _) (hb1.mono (by simp))
  have hx1 : ∀ o, Below w0.heap.size w0 (w1.alloc o) := fun o => (hx.trans (hbw.mono hx.size)).alloc (Nat.le_trans hx.size hbw.size) o
  refine (HT.out _ (hx1 _)).mono ?_
  rintro e w2 ⟨rfl, hb2⟩
  have hB4b := fun o (h : Below (w1.alloc o).heap.size (w1.alloc o) w2) => Blk.below (hB4.alloc o) h (by simp; omega)
  have hB4c := hB4b _ hb2
  have hc0 := hB4c.cell (i := 0) rfl
  have hc1 := hB4c.cell (i := 1) rfl
  have hc2 := hB4c.cell (i := 2) rfl
  have hc3 := hB4c.cell (i := 3) rfl
  have hc4 := hB4c.cell (i := 4) rfl
  have hc5 := hB4c.cell (i := 5) rfl
  have hf := fun i => hB4c.frozen i
  unfold got av
  go_wp2_with fail
  refine bodyPost_ret (results_ctt rfl _ _ w.heap.size 29 _ _ rfl (Blk.set6 hB4c rfl _ _ _ _ _ _) Tryd.underlying29 rfl (by kernel_rfl)) rfl ⟨rfl, ?_⟩
  have hbz : Below w.heap.size w w2 := (hbw.alloc hbw.size _).trans (hb2.mono (by simp; omega))
  (repeat (first | with_reducible exact Below.refl _ _ | with_reducible assumption | with_reducible refine below_drewN ?_ _ | with_reducible refine Below.drew ?_ | with_reducible refine below_row ?_ (by first | omega | (simp; done) | (simp; omega)) _ | with_reducible refine Below.alloc ?_ (by first | omega | (simp; done) | (simp; omega)) _ | with_reducible refine Below.setCell ?_ (by first | omega | (simp; done) | (simp; omega)) _))
end Go.Proofs.YtkbfppjniaejnaaDoor
