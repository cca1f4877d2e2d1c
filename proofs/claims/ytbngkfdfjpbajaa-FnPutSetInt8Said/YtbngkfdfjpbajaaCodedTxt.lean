/- spec.takeCoded at texts and bytes. -/
import Derived.Test.YtbngkfdfjpbajaaText
namespace Go.Proofs.Ytbngkfdfjpbajaa
open Go.RowKit
set_option linter.unusedVariables false

set_option maxRecDepth 100000 in
set_option maxHeartbeats 4000000 in
theorem takeCoded_text (b : Int) (k : Nat) (hb : b = 217 ∧ k = 1 ∨ b = 218 ∧ k = 2 ∨ b = 219 ∧ k = 4) (a : Option Addr) (n c : Nat) (l : List Int) (lv : Int) (w0 : World) (hv : Vw w0 a n c l) (hk : k ≤ n) (m : Nat) (hm : beN (l.take k) = m) (hmn : k + m ≤ n) :
    ∃ a', Vw w0 a' (n - k - m) (c - k - m) ((l.drop k).drop m) ∧ ∀ w, Below w0.heap.size w0 w → Calls Try.prog 25 #[.int .i64 b, .slice a n c, .int .i64 lv] w fun e w' => e = .returned (.tuple #[pk 6 0 (strOfNums ((l.drop k).take m)) 0, .slice a' (n - k - m) (c - k - m), .bool true]) ∧ Below w.heap.size w w' := by
  have hl : ilook codes (.int .i64 0) b = .int .i64 k := by rcases hb with ⟨rfl, rfl⟩ | ⟨rfl, rfl⟩ | ⟨rfl, rfl⟩ <;> rfl
  have hk8 : k ≤ 8 := by omega
  have h1 : 217 ≤ b := by omega
  have h2 : b ≤ 219 := by omega
  have hlk := look_codes _ _ hl
  have e1 : (b == 193) = false := by simp; omega
  have e2 : (b == 192) = false := by simp; omega
  have e3 : (b == 194) = false := by simp; omega
  have e4 : (b == 195) = false := by simp; omega
  have e5 : (b == 202) = false := by simp; omega
  have e6 : (b == 203) = false := by simp; omega
  have hmm := @run_makeMap Try.prog
  obtain ⟨a', hs, hv'⟩ := off_of hv (k : Int) k rfl hk
  obtain ⟨a2, hs2, hv2⟩ := off_u64 hv' (m : Int) m rfl (by omega)
  have HM := Lib.hid hm
  clear hb hl hm
  refine ⟨a2, hv2, fun w hx => ?_⟩
  have hvw := Vw.below hx (Nat.le_refl _) hv
  go_enter Try.func25, Try.ntmps25
  go_wp2_with (refine wpList_inserts_n _ 73 3 3 Try.underlying73 Try.underlying3 17 23 codes (by simp [Act.eval]) (by simp [insOf, codes]) codes_apart ?_)
  go_wp2_with (go_at_call 37; refine (takeBig_ok _ _ _ _ _ rfl l _ (((hvw.alloc _).alloc _).alloc _) _ hs (by omega) (by omega)).mono ?_; rw [HM.out]; rintro e w' ⟨rfl, nq, rfl⟩)
  refine (takeText_ok _ _ _ _ _ _ (((((Vw.below hx (Nat.le_refl _) hv').alloc _).alloc _).alloc _).drewN _) _ m rfl (by omega) _ hs2).mono ?_
  rintro e w1 ⟨rfl, hb1⟩
  have hB : Blk w1 w.heap.size 31 _ := Blk.below ((((Blk.new w _ _).alloc _).alloc _).drewN _) hb1 (by simp <;> omega)
  go_wp2_with (refine wpList_store_row (by rfl) 31 _ _ (by rfl) w.heap.size _ (by rfl) (by rfl) _ _ hB (by kernel_rfl) (by rfl) (by simp [Value.oneCell']) ?_)
  refine bodyPost_ret (results_ctt rfl _ _ w.heap.size 31 _ _ rfl (hB.row _) Try.underlying31 rfl (by kernel_rfl)) rfl ⟨rfl, ?_⟩
  refine below_row (Below.trans ?_ (hb1.mono (by simp <;> omega))) (Nat.le_refl _) _
  (repeat (first | with_reducible exact Below.refl _ _ | with_reducible assumption | with_reducible refine below_drewN ?_ _ | with_reducible refine Below.drew ?_ | with_reducible refine below_row ?_ (by first | omega | (simp; done) | (simp; omega)) _ | with_reducible refine Below.alloc ?_ (by first | omega | (simp; done) | (simp; omega)) _ | with_reducible refine Below.setCell ?_ (by first | omega | (simp; done) | (simp; omega)) _))
end Go.Proofs.Ytbngkfdfjpbajaa
