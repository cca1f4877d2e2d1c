/- spec.asciiOnly, spec.ASCII, laws.short. -/
import Derived.Test.YtkbfppjniaejnaaDoorProg
import Derived.Test.YtkbfppjniaejnaaDoorInts
import Derived.Outline
import Derived.RegionTactic
import Derived.Deep.QuietTactic
import Derived.BigQuiet
import Derived.Deep.LoopGhost
namespace Go.Proofs.YtkbfppjniaejnaaDoor
open Go.RowKit
set_option linter.unusedVariables false
set_option linter.unusedSimpArgs false

def Asc (s : ByteArray) : Prop := ∀ i (h : i < s.size), (s[i].toNat : Int) < 128

/-- What asciiOnly tells. -/
def AscRes (s : ByteArray) (w : World) (e : Ending) (w' : World) : Prop := ∃ b, e = .returned (.bool b) ∧ (b = true ↔ Asc s) ∧ w' = w

set_option maxRecDepth 100000 in
set_option maxHeartbeats 1000000 in
theorem asciiOnly_any (s : ByteArray) (hz : s.size < 9223372036854775807) (w : World) :
    Calls Tryd.prog 34 #[.string s] w (AscRes s w) := by
  go_enter Tryd.func34, Tryd.ntmps34
  go_wp2_with fail
  go_loop [3] (fun i => ∃ j : Nat, j ≤ s.size ∧ (∀ q (h : q < s.size), q < j → (s[q].toNat : Int) < 128) ∧ i = .int .i64 j) (fun i => s.size - (intOf i).toNat)
  case atStart => exact ⟨0, Nat.zero_le _, fun q h hq => absurd hq (Nat.not_lt_zero q), rfl⟩
  case round =>
    obtain ⟨j, hj, hall, rfl⟩ := hrel
    by_cases hjk : j < s.size
    · have HA := Lib.hid hall
      clear hall
      go_wp2_with fail
      · go_ret
        exact ⟨false, rfl, ⟨fun h => (by cases h), fun h => (by have := h j hjk; omega)⟩, rfl⟩
      · refine ⟨⟨j + 1, by omega, fun q h hq => ?_, by go_num⟩, by simp [intOf]; omega⟩
        by_cases e : q = j
        · subst e; assumption
        · exact HA.out q h (by omega)
    · obtain rfl : j = s.size := by omega
      have HA := Lib.hid hall
      clear hall
      go_wp2_with fail
      go_ret
      exact ⟨true, rfl, ⟨fun _ q h => HA.out q h h, fun _ => rfl⟩, rfl⟩

theorem asciiOnly_yes (s : ByteArray) (hz : s.size < 9223372036854775807) (ha : Asc s) (w : World) :
    Calls Tryd.prog 34 #[.string s] w fun e w' => e = .returned (.bool true) ∧ w' = w := by
  refine (asciiOnly_any s hz w).mono ?_
  rintro e w' ⟨b, rfl, hb, rfl⟩
  exact ⟨by rw [hb.2 ha], rfl⟩

theorem ASCII_any (s : ByteArray) (hz : s.size < 9223372036854775807) (w : World) :
    Calls Tryd.prog 18 #[.string s] w (AscRes s w) := by
  go_enter Tryd.func18, Tryd.ntmps18
  go_wp2_with (go_at_call 34; refine (asciiOnly_any s hz _).mono ?_; rintro e w1 ⟨b, rfl, hb, rfl⟩)
  go_ret
  exact ⟨b, rfl, hb, rfl⟩

theorem short_yes (s : ByteArray) (h : s.size ≤ 131072) (w : World) :
    Calls Tryd.prog 17 #[.string s] w fun e w' => e = .returned (.bool true) ∧ w' = w := by
  have h1 : (s.size : Int) ≤ 131072 := by omega
  go_enter Tryd.func17, Tryd.ntmps17
  go_wp2
  go_ret
  exact ⟨rfl, rfl⟩

theorem short_no (s : ByteArray) (h : 131072 < s.size) (w : World) :
    Calls Tryd.prog 17 #[.string s] w fun e w' => e = .returned (.bool false) ∧ w' = w := by
  have h1 : (131072 : Int) < s.size := by omega
  have h2 : ¬ ((s.size : Int) ≤ 131072) := by omega
  go_enter Tryd.func17, Tryd.ntmps17
  go_wp2
  go_ret
  exact ⟨rfl, rfl⟩
end Go.Proofs.YtkbfppjniaejnaaDoor
