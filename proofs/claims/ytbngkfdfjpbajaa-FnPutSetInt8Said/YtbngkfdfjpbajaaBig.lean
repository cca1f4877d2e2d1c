/- spec.takeBig. -/
import Derived.Test.YtbngkfdfjpbajaaProg
import Derived.Test.YtbngkfdfjpbajaaLib
import Derived.Test.YtbngkfdfjpbajaaNum
import Derived.Outline
import Derived.RegionTactic
import Derived.Deep.QuietTactic
import Derived.BigQuiet
import Derived.Deep.LoopGhost
namespace Go.Proofs.Ytbngkfdfjpbajaa
open Go.RowKit
set_option linter.unusedVariables false

theorem size1 (w : World) : (sizeOf 5).run Try.prog w = .ok 1 w := by kernel_rfl

/-- Slicing from i on gives the address a'. -/
def Off (a : Option Addr) (n c : Nat) (i : Int) (a' : Option Addr) (k : Nat) : Prop :=
  ∀ w', (Instr.slice 22 (.slice a n c) (some (.int .i64 i)) none none).run Try.prog w' = .ok (.slice a' (n - k) (c - k)) w'

theorem off_of {w : World} {a : Option Addr} {n c : Nat} {l : List Int} (h : Vw w a n c l) (i : Int) (k : Nat) (hi : i = k) (hk : k ≤ n) : ∃ a', Off a n c i a' k ∧ Vw w a' (n - k) (c - k) (l.drop k) :=
  h.from Try.prog 22 5 Try.underlying22 size1 .i64 i k hi hk

set_option maxHeartbeats 400000 in
theorem takeBig_ok (a : Option Addr) (n c : Nat) (i : Int) (k : Nat) (hi : i = k) (l : List Int) (w : World) (hv : Vw w a n c l) (a' : Option Addr) (hs : Off a n c i a' k) (hk : k ≤ n) (hk8 : k ≤ 8) :
    Calls Try.prog 37 #[.slice a n c, .int .i64 i] w fun e w' => e = .returned (.tuple #[.int .u64 (beN (l.take k)), .slice a' (n - k) (c - k), .bool true]) ∧ ∃ nq, w' = w.drewN nq := by
  subst hi
  have hcn := hv.cap
  have hcb := hv.big
  unfold Off at hs
  have hlt : ¬ ((n : Int) < (k : Int)) := by omega
  go_enter Try.func37, Try.ntmps37
  go_wp2_with fail
  go_loop [7, 18] (fun u i => ∃ j : Nat, j ≤ k ∧ i = .int .i64 j ∧ u = .int .u64 (beN (l.take j))) (fun _ i => k - (intOf i).toNat)
  case atStart => exact ⟨0, Nat.zero_le _, rfl, rfl⟩
  case round =>
    obtain ⟨j, hj, rfl, rfl⟩ := hrel
    by_cases hjk : j < k
    · rcases hv.cells with h0 | ⟨b, off, rfl, hx⟩
      · omega
      · have hxj : w.cell? ⟨b, off + j, none⟩ = some (.int .u8 (l[j]?.getD 0)) := by have := hx j (by omega); simpa [List.getD] using this
        have hln : j < l.length := by rw [hv.len]; omega
        have hbd := beN_bd l hv.byt j (by omega)
        have h7 := pow256_le j (by omega)
        obtain ⟨d0, d1⟩ := hbd
        have d2 : beN (l.take j) < 72057594037927936 := by omega
        have hy := hv.byt _ (getD_mem l j hln)
        rw [show l.getD j 0 = l[j]?.getD 0 from rfl] at hy
        obtain ⟨y0, y1⟩ := hy
        have hor := or256' (beN (l.take j)) (l[j]?.getD 0) d0 d2 y0 y1
        have hs2 := beN_snoc (l.take j) (l[j]?.getD 0)
        rw [show l[j]?.getD 0 = l.getD j 0 from rfl, ← take_succ_getD l j hln] at hs2
        have HS := Lib.hid (hor.trans hs2.symm)
        clear hx d1 h7 hor hs2 hln
        go_wp2_with fail
        go_round
        case rel => exact ⟨j + 1, by omega, by go_num, by rw [HS.out]⟩
        case measure => simp [intOf]; omega
    · obtain rfl : j = k := by omega
      go_wp2_with fail
      go_quiet (fail)
      go_wp2_with fail
      go_ret3
      exact ⟨rfl, _, rfl⟩

theorem takeBig_no (a : Option Addr) (n c : Nat) (k : Int) (w : World) (hc : n ≤ c) (hm : c ≤ 9223372036854775807) (hk : n < k) :
    Calls Try.prog 37 #[.slice a n c, .int .i64 k] w fun e w' => e = .returned (.tuple #[.int .u64 0, .slice none 0 0, .bool false]) ∧ w' = w := by
  have hlt : ((n : Int) < (k : Int)) := by omega
  go_enter Try.func37, Try.ntmps37
  go_wp2_with fail
  go_ret3
  exact ⟨rfl, rfl⟩
end Go.Proofs.Ytbngkfdfjpbajaa
