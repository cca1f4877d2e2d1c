/- encoding.writeInt64, impl.WriteLong. -/
import Derived.Test.YtkbfppjniaejnaaDoorBuf
import Derived.Test.YtkbfppjniaejnaaDoorSigned
namespace Go.Proofs.YtkbfppjniaejnaaDoor
open Go.RowKit
set_option linter.unusedVariables false
set_option linter.unusedSimpArgs false

theorem wrap_u64 (n : Int) : IntKind.u64.wrap n = n % 18446744073709551616 := by
  simp [IntKind.wrap, IntKind.signed, IntKind.bits]
theorem wrap64_mod (n : Int) : wrap64 n = (n + 9223372036854775808) % 18446744073709551616 - 9223372036854775808 := by
  unfold wrap64; omega

/-- What AMQP's encoder lays for a long. -/
def longB (u : Int) : List Int := if -128 ≤ u ∧ u < 128 then [85, u % 256] else 129 :: be8 (u % 18446744073709551616)

theorem longB_len (u : Int) : (longB u).length ≤ 9 := by
  unfold longB be8
  split <;> simp

theorem longB_whole (u : Int) (h0 : -9223372036854775808 ≤ u) (h1 : u < 9223372036854775808) : Whole (longB u) 9 (u % 18446744073709551616) ⟨#[]⟩ := by
  unfold longB
  split
  · exact whole_signed1 85 9 _ (u % 256) ⟨rfl, rfl⟩ (by omega) (by omega) (by omega) (by omega) (by omega) (by omega) (by rw [wrap_u64, wrap64_mod]; omega)
  · exact whole_signed8 129 9 _ (be8 (u % 18446744073709551616)) rfl (u % 18446744073709551616) (by simp [beN, be8]; omega) ⟨rfl, rfl⟩ (by omega) (by omega) (by omega) (by omega) (by omega) (by omega) (by rw [wrap_u64, wrap64_mod]; omega)

set_option maxRecDepth 100000 in
set_option maxHeartbeats 4000000 in
theorem writeInt64_buf (u : Int) (h0 : -9223372036854775808 ≤ u) (h1 : u < 9223372036854775808) (g : Nat) (w : World) (hb : Bf w g []) :
    Calls Tryd.prog 43 #[.pointer (some ⟨g, 0, none⟩), .int .i64 u] w fun e w' => e = .returned (.tuple #[]) ∧ Bf w' g (longB u) ∧ Below g w w' := by
  unfold longB
  by_cases hs : -128 ≤ u ∧ u < 128
  · rw [if_pos hs]
    have hlt : decide (u < 128) = true := by simpa using hs.2
    have hge : decide (u ≥ -128) = true := by simpa using hs.1
    have hl := Own.lit 5 w [85, u % 256] (by simp; omega) (by simp)
    have hbl := hb.lt
    have hbx : ∀ o, Bf (w.alloc o) g [] := fun o => by
      obtain ⟨a, n, c, hB, ho⟩ := hb.ex
      exact ⟨a, n, c, hB.alloc o, ho.alloc o⟩
    go_enter Tryd.func43, Tryd.ntmps43
    go_wp2_with (go_at_call 40; refine (bufAppend g [] _ 2 2 [85, u % 256] _ (hbx _) hl.vw (by simp)).mono ?_; rintro e w1 ⟨rfl, hb1, hl1⟩)
    first | go_end0 | refine bodyPost_ret (results_none rfl _ _ _) rfl ?_
    exact ⟨rfl, hb1, Below.trans ((Below.refl _ _).alloc (by omega) _) hl1⟩
  · rw [if_neg hs]
    have hcv : IntKind.u64.wrap u = u % 18446744073709551616 := wrap_u64 u
    obtain ⟨v, hv⟩ : ∃ v, v = u % 18446744073709551616 := ⟨_, rfl⟩
    rw [← hv] at hcv ⊢
    have hv0 : 0 ≤ v := by omega
    have hv1 : v < 18446744073709551616 := by omega
    have HV := Lib.hid hv
    clear hv
    by_cases hn : u < 128
    · have hlt : decide (u < 128) = true := by simpa using hn
      have hge : decide (u ≥ -128) = false := by simp; omega
      have HS := Lib.hid hs
      clear hs
      go_enter Tryd.func43, Tryd.ntmps43
      go_wp2_with (go_at_call 46; refine (bufByte g [] 129 _ hb (by omega) (by omega) (by simp)).mono ?_; rintro e w1 ⟨rfl, hb1, hl1⟩)
      refine (bufU64 g _ v _ hb1 hv0 hv1 (by simp)).mono ?_
      rintro e w2 ⟨rfl, hb2, hl2⟩
      go_wp2_with fail
      first | go_end0 | refine bodyPost_ret (results_none rfl _ _ _) rfl ?_
      exact ⟨rfl, hb2, hl1.trans hl2⟩
    · have hlt : decide (u < 128) = false := by simpa using hn
      have HS := Lib.hid hs
      clear hs
      go_enter Tryd.func43, Tryd.ntmps43
      go_wp2_with (go_at_call 46; refine (bufByte g [] 129 _ hb (by omega) (by omega) (by simp)).mono ?_; rintro e w1 ⟨rfl, hb1, hl1⟩)
      refine (bufU64 g _ v _ hb1 hv0 hv1 (by simp)).mono ?_
      rintro e w2 ⟨rfl, hb2, hl2⟩
      go_wp2_with fail
      first | go_end0 | refine bodyPost_ret (results_none rfl _ _ _) rfl ?_
      exact ⟨rfl, hb2, hl1.trans hl2⟩
theorem WriteInt64_buf (u : Int) (h0 : -9223372036854775808 ≤ u) (h1 : u < 9223372036854775808) (g : Nat) (w : World) (hb : Bf w g []) :
    Calls Tryd.prog 31 #[.pointer (some ⟨g, 0, none⟩), .int .i64 u] w fun e w' => e = .returned (.tuple #[]) ∧ Bf w' g (longB u) ∧ Below g w w' := by
  go_enter Tryd.func31, Tryd.ntmps31
  go_wp2_with (go_at_call 43; refine (writeInt64_buf u h0 h1 g _ hb).mono ?_; rintro e w1 ⟨rfl, hb1, hl1⟩)
  go_end0
  exact ⟨rfl, hb1, hl1⟩

set_option maxRecDepth 100000 in
set_option maxHeartbeats 4000000 in
theorem implWriteLong (u : Int) (h0 : -9223372036854775808 ≤ u) (h1 : u < 9223372036854775808) (w : World) :
    Calls Tryd.prog 14 #[.int .i64 u] w fun e w' => ∃ a n c, e = .returned (.tuple #[.slice a n c, .bool true]) ∧ Vw w' a n c (longB u) ∧ Below w.heap.size w w' := by
  have hlen := longB_len u
  go_enter_defers Tryd.func14, Tryd.ntmps14
  go_wp2_with (go_at_call 31; refine (WriteInt64_buf u h0 h1 (w.heap.size + 2) _ (by simpa using Bf.new ((w.alloc _).alloc _))).mono ?_; rintro e w1 ⟨rfl, hb1, hl1⟩)
  refine (bufBytes (w.heap.size + 2) _ _ hb1).mono ?_
  rintro e w2 ⟨a, n, c, nq, rfl, rfl, hv⟩
  have hB2 : Blk w1 w.heap.size 22 #[nilS] := Blk.below (((Blk.new _ _ _).alloc _).alloc _) hl1 (by omega)
  have hB3 : Blk w1 (w.heap.size + 1) 4 #[.bool false] := Blk.below ((by simpa using Blk.new (w.alloc _) _ _ : Blk ((w.alloc _).alloc _) (w.heap.size + 1) _ _).alloc _) hl1 (by omega)
  have hs1 : w.heap.size + 3 ≤ w1.heap.size := by have := hl1.size; simp at this; omega
  go_wp2_with (go_at_call 27; refine (copied_any a n c _ _ (hv.drewN nq) (by have := hv.len; omega)).mono ?_; rintro e w3 ⟨a3, c3, rfl, h3, hb3⟩; have hC2 := (hB2.drewN nq).below hb3 (by simp; omega); have hC3 := (hB3.drewN nq).below hb3 (by simp; omega); have q20 := hC2.cell (i := 0) rfl; have q30 := hC3.cell (i := 0) rfl; have f2 := hC2.frozen 0; have f3 := hC3.frozen 0)
  refine leaves_cons (f := 25) (args := #[.pointer (some ⟨w.heap.size, 0, none⟩), .pointer (some ⟨w.heap.size + 1, 0, none⟩)]) (by simp) (by simp [go_sem]) ?_
  refine (noData_idle ⟨w.heap.size, 0, none⟩ ⟨w.heap.size + 1, 0, none⟩ _).mono ?_
  rintro e u' w'' ⟨rfl, rfl, rfl⟩
  have D2 := (hC2.set 0 (.slice a3 n c3)).other (p := ⟨w.heap.size + 1, 0, none⟩) (by simp) (.bool true)
  have D3 := (hC3.other (p := ⟨w.heap.size, 0, none⟩) (by simp) (.slice a3 n c3)).set 0 (.bool true)
  have hV := ((h3.otherBlk (p := ⟨w.heap.size, 0, none⟩) (by simp; omega) (.slice a3 n c3)).otherBlk (p := ⟨w.heap.size + 1, 0, none⟩) (by simp; omega) (.bool true)).vw
  have hb13 : Below w.heap.size w w3 := (below_drewN (((((Below.refl _ _).alloc (Nat.le_refl _) _).alloc (by simp) _).alloc (by simp; omega) _).trans (hl1.mono (by omega))) nq).trans (hb3.mono (by simp; omega))
  have hBel : Below w.heap.size w ((w3.setCell ⟨w.heap.size, 0, none⟩ (.slice a3 n c3)).setCell ⟨w.heap.size + 1, 0, none⟩ (.bool true)) := (hb13.setCell (by simp) _).setCell (by simp) _
  generalize hW4 : (w3.setCell ⟨w.heap.size, 0, none⟩ (.slice a3 n c3)).setCell ⟨w.heap.size + 1, 0, none⟩ (.bool true) = W4 at D2 D3 hV hBel ⊢
  have d2 := D2.cell (i := 0) rfl
  have d3 := D3.cell (i := 0) rfl
  simp at d2 d3
  simp [Leaves, settle, results, Tryd.results14, go_sem, d2, d3]
  exact ⟨_, _, _, ⟨rfl, rfl, rfl⟩, hV, hBel⟩
end Go.Proofs.YtkbfppjniaejnaaDoor
