/- msgp.ReadInt64Bytes. -/
import Derived.Test.YtbngkfdfjpbajaaDoorOff
import Derived.Test.YtbngkfdfjpbajaaDoorBad
namespace Go.Proofs.YtbngkfdfjpbajaaDoor
open Go.RowKit
set_option linter.unusedVariables false
set_option linter.unusedSimpArgs false

theorem isfix_yes (z : Int) (h0 : 0 ≤ z) (h1 : z < 128) (w : World) : Calls Tryd.prog 70 #[.int .u8 z] w fun e w' => e = .returned (.bool true) ∧ w = w' := by
  have d : (z / 128 == 0) = true := by simp; omega
  go_enter Tryd.func70, Tryd.ntmps70
  go_wp2_with fail
  go_ret
  exact ⟨rfl, rfl⟩
theorem isfix_no (z : Int) (h0 : 128 ≤ z) (h1 : z < 256) (w : World) : Calls Tryd.prog 70 #[.int .u8 z] w fun e w' => e = .returned (.bool false) ∧ w = w' := by
  have d : (z / 128 == 0) = false := by simp; omega
  go_enter Tryd.func70, Tryd.ntmps70
  go_wp2_with fail
  go_ret
  exact ⟨rfl, rfl⟩
theorem rfix_any (z : Int) (h0 : 0 ≤ z) (h1 : z < 128) (w : World) : Calls Tryd.prog 71 #[.int .u8 z] w fun e w' => e = .returned (.int .u8 z) ∧ w = w' := by
  go_enter Tryd.func71, Tryd.ntmps71
  go_wp2_with fail
  go_ret
  exact ⟨rfl, rfl⟩
theorem and224 (z : Int) (h0 : 0 ≤ z) (h1 : z < 256) : (bits .and .u8 z 224 == 224) = decide (224 ≤ z) := by
  have h : ∀ n : Fin 256, (bits .and .u8 (n.val : Int) 224 == 224) = decide (224 ≤ (n.val : Int)) := by decide +kernel
  have := h ⟨z.toNat, by omega⟩
  simp only [show ((z.toNat : Nat) : Int) = z by omega] at this
  exact this
theorem or16s (x y : Int) (h0 : 0 ≤ x) (h1 : x ≤ 255) (h2 : 0 ≤ y) (h3 : y ≤ 255) : bits .or .i16 (IntKind.i16.wrap (x * 256)) y = IntKind.i16.wrap (x * 256 + y) := by
  have wr : ∀ n : Int, 0 ≤ n → n < 65536 → IntKind.i16.wrap n = if n < 32768 then n else n - 65536 := fun n h0 h1 => by
    unfold IntKind.wrap; simp [IntKind.bits, IntKind.signed]
    split <;> split <;> omega
  have e1 : (BitVec.ofInt 16 (IntKind.i16.wrap (x * 256))).toNat = (x * 256).toNat := by
    rw [BitVec.toNat_ofInt, wr _ (by omega) (by omega)]
    split <;> (congr 1; omega)
  have e2 : (BitVec.ofInt 16 y).toNat = y.toNat := by
    rw [BitVec.toNat_ofInt]
    congr 1; omega
  show IntKind.i16.wrap ((BitVec.ofInt 16 (IntKind.i16.wrap (x * 256)) ||| BitVec.ofInt 16 y).toNat : Nat) = _
  rw [BitVec.toNat_or, e1, e2, nat_join 8 _ _ (by omega) (by omega)]
  congr 1
  omega
theorem isnfix_any (z : Int) (h0 : 0 ≤ z) (h1 : z < 256) (w : World) : Calls Tryd.prog 73 #[.int .u8 z] w fun e w' => e = .returned (.bool (decide (224 ≤ z))) ∧ w = w' := by
  have d := and224 z h0 h1
  have H := Lib.hid d
  clear d
  go_enter Tryd.func73, Tryd.ntmps73
  go_wp2_with fail
  go_ret
  exact ⟨by rw [← H.out]; rfl, rfl⟩
theorem rnfix_any (z : Int) (h0 : 224 ≤ z) (h1 : z < 256) (w : World) : Calls Tryd.prog 74 #[.int .u8 z] w fun e w' => e = .returned (.int .i8 (z - 256)) ∧ w = w' := by
  have hw : IntKind.i8.wrap z = z - 256 := by unfold IntKind.wrap; simp [IntKind.bits, IntKind.signed]; omega
  go_enter Tryd.func74, Tryd.ntmps74
  go_wp2_with fail
  go_ret
  exact ⟨rfl, rfl⟩
theorem beN_bds (l : List Int) (h : ∀ x ∈ l, 0 ≤ x ∧ x ≤ 255) : 0 ≤ beN l ∧ beN l < ((256 ^ l.length : Nat) : Int) := by
  have := beN_bd l h l.length (Nat.le_refl _)
  rwa [List.take_of_length_le (Nat.le_refl _)] at this
theorem i8_bd (x : Int) : -128 ≤ IntKind.i8.wrap x ∧ IntKind.i8.wrap x ≤ 127 := by
  unfold IntKind.wrap; simp [IntKind.bits, IntKind.signed]; split <;> omega
theorem i8_lo (x : Int) (h0 : 0 ≤ x) (h1 : x < 128) : IntKind.i8.wrap x = x := by
  unfold IntKind.wrap; simp [IntKind.bits, IntKind.signed]; rw [if_neg (by omega)]; omega
theorem i8_hi (x : Int) (h0 : 128 ≤ x) (h1 : x < 256) : IntKind.i8.wrap x = x - 256 := by
  unfold IntKind.wrap; simp [IntKind.bits, IntKind.signed]; rw [if_pos (by omega)]; omega
theorem i16_bd (x : Int) : -32768 ≤ IntKind.i16.wrap x ∧ IntKind.i16.wrap x ≤ 32767 := by
  unfold IntKind.wrap; simp [IntKind.bits, IntKind.signed]; split <;> omega
theorem i16_lo (x : Int) (h0 : 0 ≤ x) (h1 : x < 32768) : IntKind.i16.wrap x = x := by
  unfold IntKind.wrap; simp [IntKind.bits, IntKind.signed]; rw [if_neg (by omega)]; omega
theorem i16_hi (x : Int) (h0 : 32768 ≤ x) (h1 : x < 65536) : IntKind.i16.wrap x = x - 65536 := by
  unfold IntKind.wrap; simp [IntKind.bits, IntKind.signed]; rw [if_pos (by omega)]; omega
theorem i32_bd (x : Int) : -2147483648 ≤ wrap32 x ∧ wrap32 x ≤ 2147483647 := by unfold wrap32; omega
theorem i32_lo (x : Int) (h0 : 0 ≤ x) (h1 : x < 2147483648) : wrap32 x = x := by unfold wrap32; omega
theorem i32_hi (x : Int) (h0 : 2147483648 ≤ x) (h1 : x < 4294967296) : wrap32 x = x - 4294967296 := by unfold wrap32; omega
theorem i64_bd (x : Int) : -9223372036854775808 ≤ wrap64 x ∧ wrap64 x ≤ 9223372036854775807 := by unfold wrap64; omega
theorem i64_lo (x : Int) (h0 : 0 ≤ x) (h1 : x < 9223372036854775808) : wrap64 x = x := by unfold wrap64; omega
theorem i64_hi (x : Int) (h0 : 9223372036854775808 ≤ x) (h1 : x < 18446744073709551616) : wrap64 x = x - 18446744073709551616 := by unfold wrap64; omega
end Go.Proofs.YtbngkfdfjpbajaaDoor
