/- buffer.Buffer: a block that holds a row of bytes of its own and the index 0; its appends. -/
import Derived.Test.YtkbfppjniaejnaaDoorApp
import Derived.Test.YtkbfppjniaejnaaDoorNum
import Derived.Test.YtkbfppjniaejnaaDoorBig
import Derived.Defers
import Derived.Recover
namespace Go.Proofs.YtkbfppjniaejnaaDoor
open Go.RowKit
set_option linter.unusedVariables false
set_option linter.unusedSimpArgs false

/-- A buffer in block g. -/
structure Bf (w : World) (g : Nat) (l : List Int) : Prop where
  ex : ∃ a n c, Blk w g 58 #[.slice a n c, .int .i64 0] ∧ O8 w (g + 1) a n c l

theorem Own.otherBlk {E : TypeId} {w : World} {B : Nat} {a : Option Addr} {n c : Nat} {l : List Int} (h : Own E w B a n c l) {p : Addr} (hp : p.block < B) (v : Value) : Own E (w.setCell p v) B a n c l := by
  have hge := h.ge
  exact h.kept fun g cur e hb => hb.other (by have := hge _ e; simp at this; omega) v

theorem Bf.new (w : World) : Bf (w.alloc (.cells #[.slice none 0 0, .int .i64 0] 58)) w.heap.size [] :=
  ⟨none, 0, 0, Blk.new _ _ _, Own.nil _ _ _⟩

theorem Bf.lt {w : World} {g : Nat} {l : List Int} (h : Bf w g l) : g < w.heap.size := by
  obtain ⟨a, n, c, hb, _⟩ := h.ex
  exact hb.lt

/-- The end of an append: the row has grown, the new slice is stored into the buffer's block. -/
theorem Bf.grow {w w1 : World} {g : Nat} {a : Option Addr} {n c : Nat} {l2 : List Int} {a' : Option Addr} {n' c' : Nat} (hb : Blk w g 58 #[.slice a n c, .int .i64 0])
    (hbel : Below (g + 1) w w1) (ho : O8 w1 (g + 1) a' n' c' l2) : Bf (w1.setCell ⟨g, 0, none⟩ (.slice a' n' c')) g l2 ∧ Below g w (w1.setCell ⟨g, 0, none⟩ (.slice a' n' c')) := by
  have h1 := hb.below hbel (Nat.lt_succ_self g)
  refine ⟨⟨_, _, _, h1.set 0 _, ho.otherBlk (by simp) _⟩, ?_⟩
  exact Below.setCell (hbel.mono (Nat.le_succ g)) (Nat.le_refl _) _

set_option maxHeartbeats 1000000 in
theorem bufAppend (g : Nat) (l : List Int) (a2 : Option Addr) (m c2 : Nat) (l2 : List Int) (w : World) (hb : Bf w g l) (hv2 : Vw w a2 m c2 l2) (hn : l.length + m ≤ 1099511627776) :
    Calls Tryd.prog 40 #[.pointer (some ⟨g, 0, none⟩), .slice a2 m c2] w fun e w' => e = .returned (.tuple #[]) ∧ Bf w' g (l ++ l2) ∧ Below g w w' := by
  have hlt := hb.lt
  obtain ⟨a, n, c, hB, ho⟩ := hb.ex
  have hc0 := hB.cell (i := 0) rfl
  have hln := ho.vw.len
  go_enter Tryd.func40, Tryd.ntmps40
  go_wp2_with (at_builtin; refine app8 (by rfl) _ _ (by rfl) (g + 1) a n c l (by rfl) ho a2 m c2 l2 (by rfl) hv2 (by omega) (by omega) ?_; intro a' c' w1 ho1 hg; have hb1 := below_of_grown hg (by omega) ho.ge; have hB1 := hB.below hb1 (Nat.lt_succ_self g); have hc1 := hB1.cell (i := 0) rfl; have hf1 := hB1.frozen 0)
  go_wp2_with fail
  go_end0
  exact ⟨rfl, Bf.grow hB hb1 ho1⟩

set_option maxHeartbeats 1000000 in
theorem bufByte (g : Nat) (l : List Int) (z : Int) (w : World) (hb : Bf w g l) (h0 : 0 ≤ z) (h1 : z < 256) (hn : l.length + 1 ≤ 1099511627776) :
    Calls Tryd.prog 46 #[.pointer (some ⟨g, 0, none⟩), .int .u8 z] w fun e w' => e = .returned (.tuple #[]) ∧ Bf w' g (l ++ [z]) ∧ Below g w w' := by
  have hlt := hb.lt
  obtain ⟨a, n, c, hB, ho⟩ := hb.ex
  have hc0 := hB.cell (i := 0) rfl
  have hln := ho.vw.len
  have hl := Own.lit 5 w [z] (by simp; omega) (by simp)
  go_enter Tryd.func46, Tryd.ntmps46
  go_wp2_with (at_builtin; refine app8 (by rfl) _ _ (by rfl) (g + 1) a n c l (by rfl) (ho.alloc _) _ 1 1 [z] (by rfl) hl.vw (by omega) (by simp <;> omega) ?_; intro a' c' w1 ho1 hg; have hb1 := Below.trans ((Below.refl (g + 1) w).alloc (by omega) _) (below_of_grown hg (by simp <;> omega) ho.ge); have hB1 := hB.below hb1 (Nat.lt_succ_self g); have hc1 := hB1.cell (i := 0) rfl; have hf1 := hB1.frozen 0)
  go_wp2_with fail
  go_end0
  exact ⟨rfl, Bf.grow hB hb1 ho1⟩

set_option maxHeartbeats 1000000 in
theorem bufU32 (g : Nat) (l : List Int) (u : Int) (w : World) (hb : Bf w g l) (h0 : 0 ≤ u) (h1 : u < 4294967296) (hn : l.length + 4 ≤ 1099511627776) :
    Calls Tryd.prog 47 #[.pointer (some ⟨g, 0, none⟩), .int .u32 u] w fun e w' => e = .returned (.tuple #[]) ∧ Bf w' g (l ++ [u / 16777216, u / 65536 % 256, u / 256 % 256, u % 256]) ∧ Below g w w' := by
  have hlt := hb.lt
  obtain ⟨a, n, c, hB, ho⟩ := hb.ex
  have hc0 := hB.cell (i := 0) rfl
  have hln := ho.vw.len
  have hl := Own.lit 5 w [u / 16777216, u / 65536 % 256, u / 256 % 256, u % 256] (by simp; omega) (by simp)
  go_enter Tryd.func47, Tryd.ntmps47
  go_wp2_with (at_builtin; refine app8 (by rfl) _ _ (by rfl) (g + 1) a n c l (by rfl) (ho.alloc _) _ 4 4 [u / 16777216, u / 65536 % 256, u / 256 % 256, u % 256] (by rfl) hl.vw (by omega) (by simp <;> omega) ?_; intro a' c' w1 ho1 hg; have hb1 := Below.trans ((Below.refl (g + 1) w).alloc (by omega) _) (below_of_grown hg (by simp <;> omega) ho.ge); have hB1 := hB.below hb1 (Nat.lt_succ_self g); have hc1 := hB1.cell (i := 0) rfl; have hf1 := hB1.frozen 0)
  go_wp2_with fail
  go_end0
  exact ⟨rfl, Bf.grow hB hb1 ho1⟩

/-- The big-endian bytes of a number of 64 bits. -/
def be8 (u : Int) : List Int := [u / 72057594037927936, u / 281474976710656 % 256, u / 1099511627776 % 256, u / 4294967296 % 256, u / 16777216 % 256, u / 65536 % 256, u / 256 % 256, u % 256]

set_option maxHeartbeats 1000000 in
theorem bufU64 (g : Nat) (l : List Int) (u : Int) (w : World) (hb : Bf w g l) (h0 : 0 ≤ u) (h1 : u < 18446744073709551616) (hn : l.length + 8 ≤ 1099511627776) :
    Calls Tryd.prog 50 #[.pointer (some ⟨g, 0, none⟩), .int .u64 u] w fun e w' => e = .returned (.tuple #[]) ∧ Bf w' g (l ++ be8 u) ∧ Below g w w' := by
  have hlt := hb.lt
  obtain ⟨a, n, c, hB, ho⟩ := hb.ex
  have hc0 := hB.cell (i := 0) rfl
  have hln := ho.vw.len
  have hl := Own.lit 5 w (be8 u) (by simp [be8]; omega) (by simp [be8])
  go_enter Tryd.func50, Tryd.ntmps50
  go_wp2_with (at_builtin; refine app8 (by rfl) _ _ (by rfl) (g + 1) a n c l (by rfl) (ho.alloc _) _ 8 8 (be8 u) (by rfl) hl.vw (by omega) (by simp <;> omega) ?_; intro a' c' w1 ho1 hg; have hb1 := Below.trans ((Below.refl (g + 1) w).alloc (by omega) _) (below_of_grown hg (by simp <;> omega) ho.ge); have hB1 := hB.below hb1 (Nat.lt_succ_self g); have hc1 := hB1.cell (i := 0) rfl; have hf1 := hB1.frozen 0)
  go_wp2_with fail
  go_end0
  exact ⟨rfl, Bf.grow hB hb1 ho1⟩

set_option maxHeartbeats 1000000 in
theorem bufBytes (g : Nat) (l : List Int) (w : World) (hb : Bf w g l) :
    Calls Tryd.prog 28 #[.pointer (some ⟨g, 0, none⟩)] w fun e w' => ∃ a n c nq, e = .returned (.slice a n c) ∧ w' = w.drewN nq ∧ Vw w a n c l := by
  have hlt := hb.lt
  obtain ⟨a, n, c, hB, ho⟩ := hb.ex
  have hc0 := hB.cell (i := 0) rfl
  have hc1 := hB.cell (i := 1) rfl
  obtain ⟨a', hs, hv'⟩ := off_of ho.vw 0 0 rfl (by omega)
  simp at hv'
  unfold Off at hs
  go_enter Tryd.func28, Tryd.ntmps28
  go_wp2_with fail
  go_quiet (fail)
  go_wp2_with fail
  go_ret
  exact ⟨a', n, c, _, rfl, rfl, hv'⟩

/-- noData, deferred, where nothing has panicked: it turns nothing. -/
theorem noData_idle (p q : Addr) (w : World) :
    CallsD Tryd.prog 25 #[.pointer (some p), .pointer (some q)] .returning w fun e u' w' => e = .returned (.tuple #[]) ∧ u' = .returning ∧ w' = w := by
  refine callsD_of_wpS Tryd.func25 rfl fun c₀ cs hu => ?_
  apply wpS_seq
  apply wpS_region
  simp [wpOpsS, go_sem, recoverD, hu, Tryd.ntmps25, Exit.thenS]
  refine wpS_cond (t := false) (by simp [Act.eval, Array.replicate]) ?_
  refine wpS_of_wp ?_
  simp only [Bool.false_eq_true, if_false]
  refine wp_skip ?_
  cases c₀
  simp_all [bodyPostS, results, Tryd.results25, Exit.thenS]
end Go.Proofs.YtkbfppjniaejnaaDoor
