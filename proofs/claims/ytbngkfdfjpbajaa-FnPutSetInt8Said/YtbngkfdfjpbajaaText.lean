/- spec.takeText, spec.takeExt. -/
import Derived.Test.YtbngkfdfjpbajaaCoded
import Derived.StillTailTactics
namespace Go.Proofs.Ytbngkfdfjpbajaa
open Go.RowKit
set_option linter.unusedVariables false

/-- The region's world: a block, draws. -/
theorem conv_of {w : World} {a : Option Addr} {n c : Nat} {l : List Int} (h : Vw w a n c l) :
    (convert 22 9 (.slice a n c)).run Try.prog w = .ok (.string (strOfNums l)) w :=
  h.string Try.prog 22 5 9 Try.underlying22 Try.underlying5 Try.underlying9

/-- Slicing from i, an uint64, on gives the address a'. -/
def Off64 (a : Option Addr) (n c : Nat) (i : Int) (a' : Option Addr) (k : Nat) : Prop :=
  ∀ w', (Instr.slice 22 (.slice a n c) (some (.int .u64 i)) none none).run Try.prog w' = .ok (.slice a' (n - k) (c - k)) w'

theorem off_u64 {w : World} {a : Option Addr} {n c : Nat} {l : List Int} (h : Vw w a n c l) (i : Int) (k : Nat) (hi : i = k) (hk : k ≤ n) :
    ∃ a', Off64 a n c i a' k ∧ Vw w a' (n - k) (c - k) (l.drop k) :=
  h.from Try.prog 22 5 Try.underlying22 size1 .u64 i k hi hk

set_option maxRecDepth 100000 in
set_option maxHeartbeats 1000000 in
theorem takeText_ok (kind : Int) (a : Option Addr) (n c : Nat) (l : List Int) (w : World) (hv : Vw w a n c l) (i : Int) (k : Nat) (hi : i = k) (hk : k ≤ n) (a' : Option Addr) (hs : Off64 a n c i a' k) :
    Calls Try.prog 24 #[.int .i64 kind, .int .u64 i, .slice a n c] w fun e w' => e = .returned (.tuple #[pk kind 0 (strOfNums (l.take k)) 0, .slice a' (n - k) (c - k), .bool true]) ∧ Below w.heap.size w w' := by
  have hcn := hv.cap
  have hcb := hv.big
  unfold Off64 at hs
  subst hi
  have hcv := fun o => conv_of (((hv.take hk).alloc o).drew)
  have hkc : k ≤ c := by omega
  have hnk : (decide (n < k)) = false := by simp; omega
  go_enter Try.func24, Try.ntmps24
  go_wp2_with fail
  go_region
  go_wp2_with fail
  refine bodyPost_ret (results_ctt rfl _ _ w.heap.size 31 _ _ rfl ((Blk.new w _ _).drew) Try.underlying31 rfl (by kernel_rfl)) rfl ⟨rfl, ?_⟩
  (repeat (first | with_reducible exact Below.refl _ _ | with_reducible assumption | with_reducible refine below_drewN ?_ _ | with_reducible refine Below.drew ?_ | with_reducible refine below_row ?_ (by first | omega | (simp; done) | (simp; omega)) _ | with_reducible refine Below.alloc ?_ (by first | omega | (simp; done) | (simp; omega)) _ | with_reducible refine Below.setCell ?_ (by first | omega | (simp; done) | (simp; omega)) _))

theorem takeText_no (kind : Int) (a : Option Addr) (n c : Nat) (l : List Int) (w : World) (hv : Vw w a n c l) (i : Int) (hi : (n : Int) < i) :
    Calls Try.prog 24 #[.int .i64 kind, .int .u64 i, .slice a n c] w fun e w' => e = .returned (.tuple #[pk 0 0 ⟨#[]⟩ 0, .slice none 0 0, .bool false]) ∧ Below w.heap.size w w' := by
  have hcn := hv.cap
  have hcb := hv.big
  go_enter Try.func24, Try.ntmps24
  go_wp2_with fail
  refine bodyPost_ret (results_ctt rfl _ _ w.heap.size 31 _ _ rfl (Blk.new w _ _) Try.underlying31 rfl (by kernel_rfl)) rfl ⟨rfl, ?_⟩
  (repeat (first | with_reducible exact Below.refl _ _ | with_reducible assumption | with_reducible refine below_drewN ?_ _ | with_reducible refine Below.drew ?_ | with_reducible refine below_row ?_ (by first | omega | (simp; done) | (simp; omega)) _ | with_reducible refine Below.alloc ?_ (by first | omega | (simp; done) | (simp; omega)) _ | with_reducible refine Below.setCell ?_ (by first | omega | (simp; done) | (simp; omega)) _))

end Go.Proofs.Ytbngkfdfjpbajaa
