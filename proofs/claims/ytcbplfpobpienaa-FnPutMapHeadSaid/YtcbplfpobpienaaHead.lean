/- spec.TakeHead at the heads of maps. -/
import Derived.Test.YtcbplfpobpienaaBig
import Derived.Test.YtcbplfpobpienaaMap
import Derived.Outline
namespace Go.Proofs.Ytcbplfpobpienaa
open Go.RowKit
set_option linter.unusedVariables false

theorem zeroPair (w : World) : (zeroValue 49).run Try.prog w = .ok (.agg #[.int .i64 0, .int .i64 0]) w := by kernel_rfl
theorem made0 (t : TypeId) (w : World) : (Instr.makeMap t none).run Try.prog w = .ok (.map (some w.heap.size)) (w.alloc (imap [])) := rfl

def pr (a b : Int) : Value := .agg #[.int .i64 a, .int .i64 b]
def heads : List (Int × Value) := [(196, pr 7 1), (197, pr 7 2), (198, pr 7 4), (217, pr 6 1), (218, pr 6 2), (219, pr 6 4), (220, pr 8 2), (221, pr 8 4), (222, pr 9 2), (223, pr 9 4)]

/-- The answer of TakeHead. -/
def Head (a : Option Addr) (n c : Nat) (w : World) (kind u : Int) (a' : Option Addr) (n' c' : Nat) : Prop :=
  Calls Try.prog 14 #[.slice a n c] w fun e w' => e = .returned (.tuple #[.int .i64 kind, .int .u64 u, .slice a' n' c', .bool true]) ∧ Below w.heap.size w w'

set_option maxHeartbeats 1000000 in
theorem takeHead_fixmap (b : Int) (hb0 : 128 ≤ b) (hb1 : b < 144) (a : Option Addr) (n c : Nat) (l : List Int) (w0 : World) (hv : Vw w0 a n c (b :: l)) :
    ∃ a', Vw w0 a' (n - 1) (c - 1) l ∧ ∀ w, Below w0.heap.size w0 w → Head a n c w 9 (b - 128) a' (n - 1) (c - 1) := by
  have hcn := hv.cap
  have hcb := hv.big
  have hn : 1 ≤ n := by have := hv.len; simp at this; omega
  obtain ⟨a1, hs, hv'⟩ := off_of hv 1 1 rfl hn
  unfold Off at hs
  refine ⟨a1, hv', fun w hx => ?_⟩
  rcases (Vw.below hx (Nat.le_refl _) hv).cells with h0 | ⟨bl, off, rfl, hc⟩
  · omega
  · have hc0 := hc 0 (by omega)
    simp at hc0
    clear hc
    have hn0 : ((n : Int) == 0) = false := by simp; omega
    have hn1 : (0 : Int) < (n : Int) := by omega
    have hand : IntKind.u64.wrap (bits BinOp.and IntKind.i64 b 15) = b - 128 := by rw [i64_and15, IntKind.wrap_u64]; omega
    have hl1 : decide (128 ≤ b) = true := by simp; omega
    have hl2 : decide (b < 144) = true := by simp; omega
    unfold Head
    go_enter Try.func14, Try.ntmps14
    go_wp2_with fail
    go_quiet (fail)
    go_wp2_with fail
    refine bodyPost_ret (v := .tuple #[.int .i64 9, .int .u64 (b - 128), .slice a1 (n - 1) (c - 1), .bool true]) (by simp [results, Try.results14, go_sem]) rfl ⟨rfl, ?_⟩
    (repeat (first | with_reducible exact Below.refl _ _ | with_reducible assumption | with_reducible refine below_drewN ?_ _ | with_reducible refine Below.drew ?_ | with_reducible refine below_row ?_ (by first | omega | (simp; done) | (simp; omega)) _ | with_reducible refine Below.alloc ?_ (by first | omega | (simp; done) | (simp; omega)) _ | with_reducible refine Below.setCell ?_ (by first | omega | (simp; done) | (simp; omega)) _))

set_option maxRecDepth 100000 in
set_option maxHeartbeats 2000000 in
theorem takeHead_map (b : Int) (k : Nat) (hb : b = 222 ∧ k = 2 ∨ b = 223 ∧ k = 4) (a : Option Addr) (n c : Nat) (l : List Int) (w0 : World) (hv : Vw w0 a n c (b :: l)) (hk : k ≤ n - 1) :
    ∃ a', Vw w0 a' (n - 1 - k) (c - 1 - k) (l.drop k) ∧ ∀ w, Below w0.heap.size w0 w → Head a n c w 9 (beN (l.take k)) a' (n - 1 - k) (c - 1 - k) := by
  have hcn := hv.cap
  have hcb := hv.big
  have hn : 1 ≤ n := by have := hv.len; simp at this; omega
  have hl : ilook heads (.agg #[.int .i64 0, .int .i64 0]) b = pr 9 k := by rcases hb with ⟨rfl, rfl⟩ | ⟨rfl, rfl⟩ <;> rfl
  have hh : ihas heads b = true := by rcases hb with ⟨rfl, rfl⟩ | ⟨rfl, rfl⟩ <;> rfl
  obtain ⟨a1, hs, hv'⟩ := off_of hv 1 1 rfl hn
  obtain ⟨a2, hs2, hv2⟩ := off_of hv' (k : Int) k rfl hk
  simp only [List.drop_succ_cons, List.drop_zero] at hv' hv2
  refine ⟨a2, hv2, fun w hx => ?_⟩
  have hvw := Vw.below hx (Nat.le_refl _) hv'
  have HS := Lib.hid hs2
  unfold Off at hs
  have hlk : ∀ (W : World) (m : Nat), m = W.heap.size → (Instr.lookup 50 (.map (some m)) (.int .i64 b) true).run Try.prog (W.alloc (imap heads)) = .ok (.tuple #[.agg #[.int .i64 9, .int .i64 k], .bool true]) (W.alloc (imap heads)) := by
    intro W m hm
    subst hm
    have := run_lookup_imap_ok (P := Try.prog) 50 3 49 Try.underlying50 Try.underlying3 heads b (.agg #[.int .i64 0, .int .i64 0]) (W.alloc (imap heads)) W.heap.size (heap_alloc_new W _) (zeroPair _)
    rw [hl, hh] at this
    exact this
  simp only [heads, pr] at hlk
  have hmk := made0
  have hins := insert_rule (P := Try.prog) 50 3 49 Try.underlying50 Try.underlying3
  have hk8 : k ≤ 8 := by omega
  rcases (Vw.below hx (Nat.le_refl _) hv).cells with h0 | ⟨bl, off, rfl, hc⟩
  · omega
  · have hc0 := hc 0 (by omega)
    simp at hc0
    clear hc
    have hn0 : ((n : Int) == 0) = false := by simp; omega
    have hn1 : (0 : Int) < (n : Int) := by omega
    have hb2 : 222 ≤ b := by omega
    have hb3 : b ≤ 223 := by omega
    clear hb hl hh hs2
    unfold Head
    go_enter Try.func14, Try.ntmps14
    go_wp2_with fail
    go_quiet ((go_at_call 24; exact Calls.quiet_of (takeBig_ok _ _ _ _ k rfl l _ (((hvw.alloc _).alloc _).drewN _) _ HS.out hk hk8)))
    go_wp2_with fail
    refine bodyPost_ret (v := .tuple #[.int .i64 9, .int .u64 (beN (l.take k)), .slice a2 (n - 1 - k) (c - 1 - k), .bool true]) (by simp [results, Try.results14, go_sem]) rfl ⟨rfl, ?_⟩
    (repeat (first | with_reducible exact Below.refl _ _ | with_reducible assumption | with_reducible refine below_drewN ?_ _ | with_reducible refine Below.drew ?_ | with_reducible refine below_row ?_ (by first | omega | (simp; done) | (simp; omega)) _ | with_reducible refine Below.alloc ?_ (by first | omega | (simp; done) | (simp; omega)) _ | with_reducible refine Below.setCell ?_ (by first | omega | (simp; done) | (simp; omega)) _))
end Go.Proofs.Ytcbplfpobpienaa
