/- spec.takeCoded, spec.takeText, spec.takeExt: what stands behind a code from C0 to DF, values without values in them. -/
import Derived.Test.YtbngkfdfjpbajaaProg
import Derived.Test.YtbngkfdfjpbajaaBig
import Derived.Test.YtbngkfdfjpbajaaMap
import Derived.Outline
import Derived.RegionTactic
import Derived.Deep.QuietTactic
import Derived.BigQuiet
import Derived.Deep.LoopGhost
namespace Go.Proofs.Ytbngkfdfjpbajaa
open Go.RowKit
set_option linter.unusedVariables false

/-- A value of MessagePack without values in it, as the model has it. -/
def pk (kind num : Int) (text : ByteArray) (ext : Int) : Value := .agg #[.int .i64 kind, .int .u64 num, .string text, .int .i64 ext, .slice none 0 0]

def codes : List (Int × Value) := [(196, .int .i64 1), (197, .int .i64 2), (198, .int .i64 4), (199, .int .i64 1), (200, .int .i64 2), (201, .int .i64 4), (202, .int .i64 4), (203, .int .i64 8), (204, .int .i64 1), (205, .int .i64 2), (206, .int .i64 4), (207, .int .i64 8), (208, .int .i64 1), (209, .int .i64 2), (210, .int .i64 4), (211, .int .i64 8), (217, .int .i64 1), (218, .int .i64 2), (219, .int .i64 4), (220, .int .i64 2), (221, .int .i64 4), (222, .int .i64 2), (223, .int .i64 4)]
theorem codes_apart : codes.Pairwise (fun x y => x.1 ≠ y.1) := by unfold codes; simp

theorem zeroInt (w : World) : (zeroValue 3).run Try.prog w = .ok (.int .i64 0) w := by kernel_rfl

theorem look_codes (b : Int) (k : Value) (h : ilook codes (.int .i64 0) b = k) (W : World) (m : Nat) (hm : m = W.heap.size) :
    (Instr.lookup 73 (.map (some m)) (.int .i64 b) false).run Try.prog (W.alloc (imap codes)) = .ok k (W.alloc (imap codes)) := by
  subst hm; subst h
  exact run_lookup_imap (P := Try.prog) 73 3 3 Try.underlying73 Try.underlying3 codes b (.int .i64 0) (W.alloc (imap codes)) W.heap.size (heap_alloc_new W _) (zeroInt _)

/-- The end of takeCoded's walks: the block of the result, the slots. -/
theorem blk_coded (w : World) (o1 o2 : Obj) (nq : Nat) (v0 v1 v2 v3 v4 : Value) (cs : Array Value) (hcs : cs.size = 5) :
    Blk ((((((((((w.alloc (.cells cs 31)).alloc o1).alloc o2).drewN nq).setCell ⟨w.heap.size, 0, none⟩ v0).setCell ⟨w.heap.size, 1, none⟩ v1).setCell ⟨w.heap.size, 2, none⟩ v2).setCell ⟨w.heap.size, 3, none⟩ v3).setCell ⟨w.heap.size, 4, none⟩ v4)) w.heap.size 31 #[v0, v1, v2, v3, v4] :=
  Blk.set5 ((((Blk.new w _ _).alloc _).alloc _).drewN nq) hcs _ _ _ _ _

set_option maxRecDepth 100000 in
set_option maxHeartbeats 1000000 in
theorem takeCoded_nil (a : Option Addr) (n c : Nat) (l : List Int) (lv : Int) (w0 : World) (hv : Vw w0 a n c l) :
    ∃ a', Vw w0 a' n c l ∧ ∀ w, Below w0.heap.size w0 w → Calls Try.prog 25 #[.int .i64 192, .slice a n c, .int .i64 lv] w fun e w' => e = .returned (.tuple #[pk 0 0 ⟨#[]⟩ 0, .slice a' n c, .bool true]) ∧ Below w.heap.size w w' := by
  have hmm := @run_makeMap Try.prog
  have hlk := look_codes 192 (.int .i64 0) rfl
  obtain ⟨a', hs, hv'⟩ := off_of hv 0 0 rfl (by omega)
  simp at hv'
  refine ⟨a', hv', fun w hx => ?_⟩
  have hvw := Vw.below hx (Nat.le_refl _) hv
  go_enter Try.func25, Try.ntmps25
  go_wp2_with (refine wpList_inserts_n _ 73 3 3 Try.underlying73 Try.underlying3 17 23 codes (by simp [Act.eval]) (by simp [insOf, codes]) codes_apart ?_)
  go_wp2_with (go_at_call 37; refine (takeBig_ok _ _ _ 0 0 rfl l _ (((hvw.alloc _).alloc _).alloc _) _ hs (by omega) (by omega)).mono ?_; rintro e w' ⟨rfl, nq, rfl⟩)
  refine bodyPost_ret (results_ctt rfl _ _ w.heap.size 31 _ _ rfl (blk_coded w _ _ nq _ _ _ _ _ _ rfl) Try.underlying31 rfl (by kernel_rfl)) rfl ⟨rfl, ?_⟩
  (repeat (first | with_reducible exact Below.refl _ _ | with_reducible assumption | with_reducible refine below_drewN ?_ _ | with_reducible refine Below.drew ?_ | with_reducible refine below_row ?_ (by first | omega | (simp; done) | (simp; omega)) _ | with_reducible refine Below.alloc ?_ (by first | omega | (simp; done) | (simp; omega)) _ | with_reducible refine Below.setCell ?_ (by first | omega | (simp; done) | (simp; omega)) _))

set_option maxRecDepth 100000 in
set_option maxHeartbeats 4000000 in
theorem takeCoded_uint (b : Int) (k : Nat) (hb : b = 204 ∧ k = 1 ∨ b = 205 ∧ k = 2 ∨ b = 206 ∧ k = 4 ∨ b = 207 ∧ k = 8) (a : Option Addr) (n c : Nat) (l : List Int) (lv : Int) (w0 : World) (hv : Vw w0 a n c l) (hk : k ≤ n) :
    ∃ a', Vw w0 a' (n - k) (c - k) (l.drop k) ∧ ∀ w, Below w0.heap.size w0 w → Calls Try.prog 25 #[.int .i64 b, .slice a n c, .int .i64 lv] w fun e w' => e = .returned (.tuple #[pk 3 (beN (l.take k)) ⟨#[]⟩ 0, .slice a' (n - k) (c - k), .bool true]) ∧ Below w.heap.size w w' := by
  have hl : ilook codes (.int .i64 0) b = .int .i64 k := by rcases hb with ⟨rfl, rfl⟩ | ⟨rfl, rfl⟩ | ⟨rfl, rfl⟩ | ⟨rfl, rfl⟩ <;> rfl
  have hk8 : k ≤ 8 := by omega
  have h1 : 204 ≤ b := by omega
  have h2 : b ≤ 207 := by omega
  have hlk := look_codes _ _ hl
  have e1 : (b == 193) = false := by simp; omega
  have e2 : (b == 192) = false := by simp; omega
  have e3 : (b == 194) = false := by simp; omega
  have e4 : (b == 195) = false := by simp; omega
  have e5 : (b == 202) = false := by simp; omega
  have e6 : (b == 203) = false := by simp; omega
  have hmm := @run_makeMap Try.prog
  obtain ⟨a', hs, hv'⟩ := off_of hv (k : Int) k rfl hk
  clear hb hl
  refine ⟨a', hv', fun w hx => ?_⟩
  have hvw := Vw.below hx (Nat.le_refl _) hv
  go_enter Try.func25, Try.ntmps25
  go_wp2_with (refine wpList_inserts_n _ 73 3 3 Try.underlying73 Try.underlying3 17 23 codes (by simp [Act.eval]) (by simp [insOf, codes]) codes_apart ?_)
  go_wp2_with (go_at_call 37; refine (takeBig_ok _ _ _ _ _ rfl l _ (((hvw.alloc _).alloc _).alloc _) _ hs (by omega) (by omega)).mono ?_; rintro e w' ⟨rfl, nq, rfl⟩)
  go_goals
  refine bodyPost_ret (results_ctt rfl _ _ w.heap.size 31 _ _ rfl (blk_coded w _ _ nq _ _ _ _ _ _ rfl) Try.underlying31 rfl (by kernel_rfl)) rfl ⟨rfl, ?_⟩
  (repeat (first | with_reducible exact Below.refl _ _ | with_reducible assumption | with_reducible refine below_drewN ?_ _ | with_reducible refine Below.drew ?_ | with_reducible refine below_row ?_ (by first | omega | (simp; done) | (simp; omega)) _ | with_reducible refine Below.alloc ?_ (by first | omega | (simp; done) | (simp; omega)) _ | with_reducible refine Below.setCell ?_ (by first | omega | (simp; done) | (simp; omega)) _))
end Go.Proofs.Ytbngkfdfjpbajaa
