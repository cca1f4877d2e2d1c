/- encoding.writeUint32, impl.WriteUint. -/
import Derived.Test.YtkbfppjniaejnaaDoorBuf
import Derived.Test.YtkbfppjniaejnaaDoorWrote
namespace Go.Proofs.YtkbfppjniaejnaaDoor
open Go.RowKit
set_option linter.unusedVariables false
set_option linter.unusedSimpArgs false

/-- What AMQP's encoder lays for an uint. -/
def uintB (u : Int) : List Int := if u = 0 then [67] else if u < 256 then [82, u] else [112, u / 16777216, u / 65536 % 256, u / 256 % 256, u % 256]

theorem uintB_whole (u : Int) (h0 : 0 ≤ u) (h1 : u < 4294967296) : Whole (uintB u) 4 u ⟨#[]⟩ := by
  unfold uintB
  split
  · subst u
    exact whole_num 67 4 [] ⟨rfl, rfl⟩ (by omega) (by omega) (by omega) (by simp) (by omega)
  · split
    · have := whole_num 82 4 [u] ⟨rfl, rfl⟩ (by omega) (by omega) (by omega) (by simp) (by omega)
      simpa [beN] using this
    · have := whole_num 112 4 [u / 16777216, u / 65536 % 256, u / 256 % 256, u % 256] ⟨rfl, rfl⟩ (by omega) (by omega) (by omega) (by simp) (by omega)
      rwa [show beN [u / 16777216, u / 65536 % 256, u / 256 % 256, u % 256] = u by simp [beN]; omega] at this

set_option maxRecDepth 100000 in
set_option maxHeartbeats 4000000 in
theorem writeUint32_buf (u : Int) (h0 : 0 ≤ u) (h1 : u < 4294967296) (g : Nat) (w : World) (hb : Bf w g []) :
    Calls Tryd.prog 44 #[.pointer (some ⟨g, 0, none⟩), .int .u32 u] w fun e w' => e = .returned (.tuple #[]) ∧ Bf w' g (uintB u) ∧ Below g w w' := by
  unfold uintB
  by_cases hu : u = 0
  · subst hu
    go_enter Tryd.func44, Tryd.ntmps44
    go_wp2_with (go_at_call 46; refine (bufByte g [] 67 _ hb (by omega) (by omega) (by simp)).mono ?_; rintro e w1 ⟨rfl, hb1, hl1⟩)
    first | go_end0 | refine bodyPost_ret (results_none rfl _ _ _) rfl ?_
    exact ⟨rfl, hb1, hl1⟩
  · have hu0 : (u == 0) = false := by simpa using hu
    rw [if_neg hu]
    by_cases hs : u < 256
    · rw [if_pos hs]
      have hlt : decide (u < 256) = true := by simpa using hs
      have hm : u % 256 = u := by omega
      have hl := Own.lit 5 w [82, u] (by simp; omega) (by simp)
      have hbl := hb.lt
      have hbx : ∀ o, Bf (w.alloc o) g [] := fun o => by
        obtain ⟨a, n, c, hB, ho⟩ := hb.ex
        exact ⟨a, n, c, hB.alloc o, ho.alloc o⟩
      go_enter Tryd.func44, Tryd.ntmps44
      go_wp2_with (go_at_call 40; refine (bufAppend g [] _ 2 2 [82, u] _ (hbx _) hl.vw (by simp)).mono ?_; rintro e w1 ⟨rfl, hb1, hl1⟩)
      first | go_end0 | refine bodyPost_ret (results_none rfl _ _ _) rfl ?_
      exact ⟨rfl, hb1, Below.trans ((Below.refl _ _).alloc (by omega) _) hl1⟩
    · rw [if_neg hs]
      have hlt : decide (u < 256) = false := by simpa using hs
      go_enter Tryd.func44, Tryd.ntmps44
      go_wp2_with (go_at_call 46; refine (bufByte g [] 112 _ hb (by omega) (by omega) (by simp)).mono ?_; rintro e w1 ⟨rfl, hb1, hl1⟩)
      refine (bufU32 g _ u _ hb1 h0 h1 (by simp)).mono ?_
      rintro e w2 ⟨rfl, hb2, hl2⟩
      go_wp2_with fail
      first | go_end0 | refine bodyPost_ret (results_none rfl _ _ _) rfl ?_
      exact ⟨rfl, hb2, hl1.trans hl2⟩

theorem WriteUint32_buf (u : Int) (h0 : 0 ≤ u) (h1 : u < 4294967296) (g : Nat) (w : World) (hb : Bf w g []) :
    Calls Tryd.prog 32 #[.pointer (some ⟨g, 0, none⟩), .int .u32 u] w fun e w' => e = .returned (.tuple #[]) ∧ Bf w' g (uintB u) ∧ Below g w w' := by
  go_enter Tryd.func32, Tryd.ntmps32
  go_wp2_with (go_at_call 44; refine (writeUint32_buf u h0 h1 g _ hb).mono ?_; rintro e w1 ⟨rfl, hb1, hl1⟩)
  go_end0
  exact ⟨rfl, hb1, hl1⟩

set_option maxRecDepth 100000 in
set_option maxHeartbeats 4000000 in
theorem implWriteUint (u : Int) (h0 : 0 ≤ u) (h1 : u < 4294967296) (w : World) :
    Calls Tryd.prog 15 #[.int .u32 u] w fun e w' => ∃ a n c, e = .returned (.tuple #[.slice a n c, .bool true]) ∧ Vw w' a n c (uintB u) ∧ Below w.heap.size w w' := by
  have hlen : (uintB u).length ≤ 5 := by
    unfold uintB
    split
    · simp
    · split <;> simp
  go_enter_defers Tryd.func15, Tryd.ntmps15
  go_wp2_with (go_at_call 32; refine (WriteUint32_buf u h0 h1 (w.heap.size + 2) _ (by simpa using Bf.new ((w.alloc _).alloc _))).mono ?_; rintro e w1 ⟨rfl, hb1, hl1⟩)
  refine (bufBytes (w.heap.size + 2) _ _ hb1).mono ?_
  rintro e w2 ⟨a, n, c, nq, rfl, rfl, hv⟩
  have hB2 : Blk w1 w.heap.size 22 #[nilS] := Blk.below (((Blk.new _ _ _).alloc _).alloc _) hl1 (by omega)
  have hB3 : Blk w1 (w.heap.size + 1) 4 #[.bool false] := Blk.below ((by simpa using Blk.new (w.alloc _) _ _ : Blk ((w.alloc _).alloc _) (w.heap.size + 1) _ _).alloc _) hl1 (by omega)
  have hs1 : w.heap.size + 3 ≤ w1.heap.size := by have := hl1.size; simp at this; omega
  go_wp2_with (go_at_call 27; refine (copied_any a n c _ _ (hv.drewN nq) (by have := hv.len; omega)).mono ?_; rintro e w3 ⟨a3, c3, rfl, h3, hb3⟩; have hC2 := (hB2.drewN nq).below hb3 (by simp; omega); have hC3 := (hB3.drewN nq).below hb3 (by simp; omega); have q20 := hC2.cell (i := 0) rfl; have q30 := hC3.cell (i := 0) rfl; have f2 := hC2.frozen 0; have f3 := hC3.frozen 0)
  refine leaves_cons (f := 25) (args := #[.pointer (some ⟨w.heap.size, 0, none⟩), .pointer (some ⟨w.heap.size + 1, 0, none⟩)]) (by simp) (by simp [go_sem]) ?_
  refine (noData_idle ⟨w.heap.size, 0, none⟩ ⟨w.heap.size + 1, 0, none⟩ _).mono ?_
  rintro e u' w'' ⟨rfl, rfl, rfl⟩
  have D2 := (hC2.set 0 (.slice a3 n c3)).other (p := ⟨w.heap.size + 1, 0, none⟩) (by simp) (.bool true)
  have D3 := (hC3.other (p := ⟨w.heap.size, 0, none⟩) (by simp) (.slice a3 n c3)).set 0 (.bool true)
  have hV := ((h3.otherBlk (p := ⟨w.heap.size, 0, none⟩) (by simp; omega) (.slice a3 n c3)).otherBlk (p := ⟨w.heap.size + 1, 0, none⟩) (by simp; omega) (.bool true)).vw
  have hb13 : Below w.heap.size w w3 := (below_drewN (((((Below.refl _ _).alloc (Nat.le_refl _) _).alloc (by simp) _).alloc (by simp; omega) _).trans (hl1.mono (by omega))) nq).trans (hb3.mono (by simp; omega))
  have hBel : Below w.heap.size w ((w3.setCell ⟨w.heap.size, 0, none⟩ (.slice a3 n c3)).setCell ⟨w.heap.size + 1, 0, none⟩ (.bool true)) := (hb13.setCell (by simp) _).setCell (by simp) _
  generalize hW4 : (w3.setCell ⟨w.heap.size, 0, none⟩ (.slice a3 n c3)).setCell ⟨w.heap.size + 1, 0, none⟩ (.bool true) = W4 at D2 D3 hV hBel ⊢
  have d2 := D2.cell (i := 0) rfl
  have d3 := D3.cell (i := 0) rfl
  simp at d2 d3
  simp [Leaves, settle, results, Tryd.results15, go_sem, d2, d3]
  exact ⟨_, _, _, ⟨rfl, rfl, rfl⟩, hV, hBel⟩
end Go.Proofs.YtkbfppjniaejnaaDoor
