/- The readers of integers over what spec.PutPack writes. -/
import Derived.Test.YtbngkfdfjpbajaaDoorHdP
import Derived.Test.YtbngkfdfjpbajaaDoorRdInt
import Derived.Test.YtbngkfdfjpbajaaDoorRdUint
namespace Go.Proofs.YtbngkfdfjpbajaaDoor
open Go.RowKit
set_option linter.unusedVariables false
set_option linter.unusedSimpArgs false

theorem take_lt {q k : Nat} (z : Int) (l : List Int) (hl : l.length = k) (h : q < k + 1) (P : List Int → Prop) (h0 : P []) (h1 : ∀ r, r.length < k → P (z :: r)) : P ((z :: l).take q) := by
  cases q with
  | zero => simpa using h0
  | succ q =>
    rw [List.take_succ_cons]
    exact h1 _ (by rw [List.length_take]; omega)
theorem dInt_nil : dInt [] = none := by simp [dInt]
theorem dInt_208 (u : Int) (t : List Int) : dInt ((208 :: beL u 1) ++ t) = some (IntKind.i8.wrap (u % 256), 2) := by
  rw [beL_1]; simp only [List.cons_append, List.nil_append]
  unfold dInt
  rw [if_neg (by simp), if_neg (by simp), if_neg (by simp), if_pos (by simp), if_neg (by simp)]
  simp
theorem dInt_208_cut (r : List Int) (h : r.length < 1) : dInt (208 :: r) = none := by
  unfold dInt
  rw [if_neg (by simp), if_neg (by simp), if_neg (by simp), if_pos (by simp), if_pos (by simp; omega)]
theorem dInt_204 (u : Int) (t : List Int) : dInt ((204 :: beL u 1) ++ t) = some (u % 256, 2) := by
  rw [beL_1]; simp only [List.cons_append, List.nil_append]
  unfold dInt
  rw [if_neg (by simp), if_neg (by simp), if_neg (by simp), if_neg (by simp), if_pos (by simp), if_neg (by simp)]
  simp
theorem dInt_204_cut (r : List Int) (h : r.length < 1) : dInt (204 :: r) = none := by
  unfold dInt
  rw [if_neg (by simp), if_neg (by simp), if_neg (by simp), if_neg (by simp), if_pos (by simp), if_pos (by simp; omega)]
theorem dInt_209 (u : Int) (t : List Int) : dInt ((209 :: beL u 2) ++ t) = some (IntKind.i16.wrap (u % 65536), 3) := by
  rw [beL_2]; simp only [List.cons_append, List.nil_append]
  unfold dInt
  rw [if_neg (by simp), if_neg (by simp), if_neg (by simp), if_neg (by simp), if_neg (by simp), if_pos (by simp), if_neg (by simp)]
  simp [beN_2]
theorem dInt_209_cut (r : List Int) (h : r.length < 2) : dInt (209 :: r) = none := by
  unfold dInt
  rw [if_neg (by simp), if_neg (by simp), if_neg (by simp), if_neg (by simp), if_neg (by simp), if_pos (by simp), if_pos (by simp; omega)]
theorem dInt_205 (u : Int) (t : List Int) : dInt ((205 :: beL u 2) ++ t) = some (u % 65536, 3) := by
  rw [beL_2]; simp only [List.cons_append, List.nil_append]
  unfold dInt
  rw [if_neg (by simp), if_neg (by simp), if_neg (by simp), if_neg (by simp), if_neg (by simp), if_neg (by simp), if_pos (by simp), if_neg (by simp)]
  simp [beN_2]
theorem dInt_205_cut (r : List Int) (h : r.length < 2) : dInt (205 :: r) = none := by
  unfold dInt
  rw [if_neg (by simp), if_neg (by simp), if_neg (by simp), if_neg (by simp), if_neg (by simp), if_neg (by simp), if_pos (by simp), if_pos (by simp; omega)]
theorem dInt_210 (u : Int) (t : List Int) : dInt ((210 :: beL u 4) ++ t) = some (wrap32 (u % 4294967296), 5) := by
  rw [beL_4]; simp only [List.cons_append, List.nil_append]
  unfold dInt
  rw [if_neg (by simp), if_neg (by simp), if_neg (by simp), if_neg (by simp), if_neg (by simp), if_neg (by simp), if_neg (by simp), if_pos (by simp), if_neg (by simp)]
  simp [beN_4]
theorem dInt_210_cut (r : List Int) (h : r.length < 4) : dInt (210 :: r) = none := by
  unfold dInt
  rw [if_neg (by simp), if_neg (by simp), if_neg (by simp), if_neg (by simp), if_neg (by simp), if_neg (by simp), if_neg (by simp), if_pos (by simp), if_pos (by simp; omega)]
theorem dInt_206 (u : Int) (t : List Int) : dInt ((206 :: beL u 4) ++ t) = some (u % 4294967296, 5) := by
  rw [beL_4]; simp only [List.cons_append, List.nil_append]
  unfold dInt
  rw [if_neg (by simp), if_neg (by simp), if_neg (by simp), if_neg (by simp), if_neg (by simp), if_neg (by simp), if_neg (by simp), if_neg (by simp), if_pos (by simp), if_neg (by simp)]
  simp [beN_4]
theorem dInt_206_cut (r : List Int) (h : r.length < 4) : dInt (206 :: r) = none := by
  unfold dInt
  rw [if_neg (by simp), if_neg (by simp), if_neg (by simp), if_neg (by simp), if_neg (by simp), if_neg (by simp), if_neg (by simp), if_neg (by simp), if_pos (by simp), if_pos (by simp; omega)]
theorem dInt_211 (u : Int) (t : List Int) : dInt ((211 :: beL u 8) ++ t) = some (wrap64 (u % 18446744073709551616), 9) := by
  rw [beL_8]; simp only [List.cons_append, List.nil_append]
  unfold dInt
  rw [if_neg (by simp), if_neg (by simp), if_neg (by simp), if_neg (by simp), if_neg (by simp), if_neg (by simp), if_neg (by simp), if_neg (by simp), if_neg (by simp), if_pos (by simp), if_neg (by simp)]
  simp [beN_8]
theorem dInt_211_cut (r : List Int) (h : r.length < 8) : dInt (211 :: r) = none := by
  unfold dInt
  rw [if_neg (by simp), if_neg (by simp), if_neg (by simp), if_neg (by simp), if_neg (by simp), if_neg (by simp), if_neg (by simp), if_neg (by simp), if_neg (by simp), if_pos (by simp), if_pos (by simp; omega)]
theorem dInt_207 (u : Int) (hu : ¬ u % 18446744073709551616 > 9223372036854775807) (t : List Int) : dInt ((207 :: beL u 8) ++ t) = some (u % 18446744073709551616, 9) := by
  rw [beL_8]; simp only [List.cons_append, List.nil_append]
  unfold dInt
  rw [if_neg (by simp), if_neg (by simp), if_neg (by simp), if_neg (by simp), if_neg (by simp), if_neg (by simp), if_neg (by simp), if_neg (by simp), if_neg (by simp), if_neg (by simp), if_pos (by simp), if_neg (by simp), if_neg (by simpa [beN_8] using hu)]
  simp [beN_8]
theorem dInt_207_no (u : Int) (hu : u % 18446744073709551616 > 9223372036854775807) (t : List Int) : dInt ((207 :: beL u 8) ++ t) = none := by
  rw [beL_8]; simp only [List.cons_append, List.nil_append]
  unfold dInt
  rw [if_neg (by simp), if_neg (by simp), if_neg (by simp), if_neg (by simp), if_neg (by simp), if_neg (by simp), if_neg (by simp), if_neg (by simp), if_neg (by simp), if_neg (by simp), if_pos (by simp), if_neg (by simp), if_pos (by simpa [beN_8] using hu)]
theorem dInt_207_cut (r : List Int) (h : r.length < 8) : dInt (207 :: r) = none := by
  unfold dInt
  rw [if_neg (by simp), if_neg (by simp), if_neg (by simp), if_neg (by simp), if_neg (by simp), if_neg (by simp), if_neg (by simp), if_neg (by simp), if_neg (by simp), if_neg (by simp), if_pos (by simp), if_pos (by simp; omega)]
theorem dInt_other (z : Int) (r : List Int) (h0 : ¬ z < 128) (h1 : ¬ (204 ≤ z ∧ z ≤ 211)) (h2 : ¬ 224 ≤ z) : dInt (z :: r) = none := by
  unfold dInt
  rw [if_neg (by simp), if_neg (by simpa using h0), if_neg (by simpa using h2), if_neg (by simp; omega), if_neg (by simp; omega), if_neg (by simp; omega), if_neg (by simp; omega), if_neg (by simp; omega), if_neg (by simp; omega), if_neg (by simp; omega), if_neg (by simp; omega)]
theorem dInt_fix (z : Int) (r : List Int) (h0 : z < 128) : dInt (z :: r) = some (z, 1) := by
  unfold dInt
  rw [if_neg (by simp), if_pos (by simpa using h0)]
  simp
theorem dUint_nil : dUint [] = none := by simp [dUint]
theorem dUint_208 (u : Int) (hu : ¬ IntKind.i8.wrap (u % 256) < 0) (t : List Int) : dUint ((208 :: beL u 1) ++ t) = some (IntKind.i8.wrap (u % 256), 2) := by
  rw [beL_1]; simp only [List.cons_append, List.nil_append]
  unfold dUint
  rw [if_neg (by simp), if_neg (by simp), if_pos (by simp), if_neg (by simp), if_neg (by simpa using hu)]
  simp
theorem dUint_208_no (u : Int) (hu : IntKind.i8.wrap (u % 256) < 0) (t : List Int) : dUint ((208 :: beL u 1) ++ t) = none := by
  rw [beL_1]; simp only [List.cons_append, List.nil_append]
  unfold dUint
  rw [if_neg (by simp), if_neg (by simp), if_pos (by simp), if_neg (by simp), if_pos (by simpa using hu)]
theorem dUint_208_cut (r : List Int) (h : r.length < 1) : dUint (208 :: r) = none := by
  unfold dUint
  rw [if_neg (by simp), if_neg (by simp), if_pos (by simp), if_pos (by simp; omega)]
theorem dUint_204 (u : Int) (t : List Int) : dUint ((204 :: beL u 1) ++ t) = some (u % 256, 2) := by
  rw [beL_1]; simp only [List.cons_append, List.nil_append]
  unfold dUint
  rw [if_neg (by simp), if_neg (by simp), if_neg (by simp), if_pos (by simp), if_neg (by simp)]
  simp
theorem dUint_204_cut (r : List Int) (h : r.length < 1) : dUint (204 :: r) = none := by
  unfold dUint
  rw [if_neg (by simp), if_neg (by simp), if_neg (by simp), if_pos (by simp), if_pos (by simp; omega)]
theorem dUint_209 (u : Int) (hu : ¬ IntKind.i16.wrap (u % 65536) < 0) (t : List Int) : dUint ((209 :: beL u 2) ++ t) = some (IntKind.i16.wrap (u % 65536), 3) := by
  rw [beL_2]; simp only [List.cons_append, List.nil_append]
  unfold dUint
  rw [if_neg (by simp), if_neg (by simp), if_neg (by simp), if_neg (by simp), if_pos (by simp), if_neg (by simp), if_neg (by simpa [beN_2] using hu)]
  simp [beN_2]
theorem dUint_209_no (u : Int) (hu : IntKind.i16.wrap (u % 65536) < 0) (t : List Int) : dUint ((209 :: beL u 2) ++ t) = none := by
  rw [beL_2]; simp only [List.cons_append, List.nil_append]
  unfold dUint
  rw [if_neg (by simp), if_neg (by simp), if_neg (by simp), if_neg (by simp), if_pos (by simp), if_neg (by simp), if_pos (by simpa [beN_2] using hu)]
theorem dUint_209_cut (r : List Int) (h : r.length < 2) : dUint (209 :: r) = none := by
  unfold dUint
  rw [if_neg (by simp), if_neg (by simp), if_neg (by simp), if_neg (by simp), if_pos (by simp), if_pos (by simp; omega)]
theorem dUint_205 (u : Int) (t : List Int) : dUint ((205 :: beL u 2) ++ t) = some (u % 65536, 3) := by
  rw [beL_2]; simp only [List.cons_append, List.nil_append]
  unfold dUint
  rw [if_neg (by simp), if_neg (by simp), if_neg (by simp), if_neg (by simp), if_neg (by simp), if_pos (by simp), if_neg (by simp)]
  simp [beN_2]
theorem dUint_205_cut (r : List Int) (h : r.length < 2) : dUint (205 :: r) = none := by
  unfold dUint
  rw [if_neg (by simp), if_neg (by simp), if_neg (by simp), if_neg (by simp), if_neg (by simp), if_pos (by simp), if_pos (by simp; omega)]
theorem dUint_210 (u : Int) (hu : ¬ wrap32 (u % 4294967296) < 0) (t : List Int) : dUint ((210 :: beL u 4) ++ t) = some (wrap32 (u % 4294967296), 5) := by
  rw [beL_4]; simp only [List.cons_append, List.nil_append]
  unfold dUint
  rw [if_neg (by simp), if_neg (by simp), if_neg (by simp), if_neg (by simp), if_neg (by simp), if_neg (by simp), if_pos (by simp), if_neg (by simp), if_neg (by simpa [beN_4] using hu)]
  simp [beN_4]
theorem dUint_210_no (u : Int) (hu : wrap32 (u % 4294967296) < 0) (t : List Int) : dUint ((210 :: beL u 4) ++ t) = none := by
  rw [beL_4]; simp only [List.cons_append, List.nil_append]
  unfold dUint
  rw [if_neg (by simp), if_neg (by simp), if_neg (by simp), if_neg (by simp), if_neg (by simp), if_neg (by simp), if_pos (by simp), if_neg (by simp), if_pos (by simpa [beN_4] using hu)]
theorem dUint_210_cut (r : List Int) (h : r.length < 4) : dUint (210 :: r) = none := by
  unfold dUint
  rw [if_neg (by simp), if_neg (by simp), if_neg (by simp), if_neg (by simp), if_neg (by simp), if_neg (by simp), if_pos (by simp), if_pos (by simp; omega)]
theorem dUint_206 (u : Int) (t : List Int) : dUint ((206 :: beL u 4) ++ t) = some (u % 4294967296, 5) := by
  rw [beL_4]; simp only [List.cons_append, List.nil_append]
  unfold dUint
  rw [if_neg (by simp), if_neg (by simp), if_neg (by simp), if_neg (by simp), if_neg (by simp), if_neg (by simp), if_neg (by simp), if_pos (by simp), if_neg (by simp)]
  simp [beN_4]
theorem dUint_206_cut (r : List Int) (h : r.length < 4) : dUint (206 :: r) = none := by
  unfold dUint
  rw [if_neg (by simp), if_neg (by simp), if_neg (by simp), if_neg (by simp), if_neg (by simp), if_neg (by simp), if_neg (by simp), if_pos (by simp), if_pos (by simp; omega)]
theorem dUint_211 (u : Int) (hu : ¬ wrap64 (u % 18446744073709551616) < 0) (t : List Int) : dUint ((211 :: beL u 8) ++ t) = some (wrap64 (u % 18446744073709551616), 9) := by
  rw [beL_8]; simp only [List.cons_append, List.nil_append]
  unfold dUint
  rw [if_neg (by simp), if_neg (by simp), if_neg (by simp), if_neg (by simp), if_neg (by simp), if_neg (by simp), if_neg (by simp), if_neg (by simp), if_pos (by simp), if_neg (by simp), if_neg (by simpa [beN_8] using hu)]
  simp [beN_8]
theorem dUint_211_no (u : Int) (hu : wrap64 (u % 18446744073709551616) < 0) (t : List Int) : dUint ((211 :: beL u 8) ++ t) = none := by
  rw [beL_8]; simp only [List.cons_append, List.nil_append]
  unfold dUint
  rw [if_neg (by simp), if_neg (by simp), if_neg (by simp), if_neg (by simp), if_neg (by simp), if_neg (by simp), if_neg (by simp), if_neg (by simp), if_pos (by simp), if_neg (by simp), if_pos (by simpa [beN_8] using hu)]
theorem dUint_211_cut (r : List Int) (h : r.length < 8) : dUint (211 :: r) = none := by
  unfold dUint
  rw [if_neg (by simp), if_neg (by simp), if_neg (by simp), if_neg (by simp), if_neg (by simp), if_neg (by simp), if_neg (by simp), if_neg (by simp), if_pos (by simp), if_pos (by simp; omega)]
theorem dUint_207 (u : Int) (t : List Int) : dUint ((207 :: beL u 8) ++ t) = some (u % 18446744073709551616, 9) := by
  rw [beL_8]; simp only [List.cons_append, List.nil_append]
  unfold dUint
  rw [if_neg (by simp), if_neg (by simp), if_neg (by simp), if_neg (by simp), if_neg (by simp), if_neg (by simp), if_neg (by simp), if_neg (by simp), if_neg (by simp), if_pos (by simp), if_neg (by simp)]
  simp [beN_8]
theorem dUint_207_cut (r : List Int) (h : r.length < 8) : dUint (207 :: r) = none := by
  unfold dUint
  rw [if_neg (by simp), if_neg (by simp), if_neg (by simp), if_neg (by simp), if_neg (by simp), if_neg (by simp), if_neg (by simp), if_neg (by simp), if_neg (by simp), if_pos (by simp), if_pos (by simp; omega)]
theorem dUint_other (z : Int) (r : List Int) (h0 : ¬ z < 128) (h1 : ¬ (204 ≤ z ∧ z ≤ 211)) : dUint (z :: r) = none := by
  unfold dUint
  rw [if_neg (by simp), if_neg (by simpa using h0), if_neg (by simp; omega), if_neg (by simp; omega), if_neg (by simp; omega), if_neg (by simp; omega), if_neg (by simp; omega), if_neg (by simp; omega), if_neg (by simp; omega), if_neg (by simp; omega)]
theorem dUint_fix (z : Int) (r : List Int) (h0 : z < 128) : dUint (z :: r) = some (z, 1) := by
  unfold dUint
  rw [if_neg (by simp), if_pos (by simpa using h0)]
  simp
theorem dInt_nfix (z : Int) (r : List Int) (h0 : 224 ≤ z) : dInt (z :: r) = some (z - 256, 1) := by
  unfold dInt
  rw [if_neg (by simp), if_neg (by simp; omega), if_pos (by simpa using h0)]
  simp
theorem c208 : (208 : Int) + ((0 : Nat) : Int) = 208 := rfl
theorem c209 : (208 : Int) + ((1 : Nat) : Int) = 209 := rfl
theorem c210 : (208 : Int) + ((2 : Nat) : Int) = 210 := rfl
theorem c211 : (208 : Int) + ((3 : Nat) : Int) = 211 := rfl
theorem dInt_pos (num : Int) (h0 : 0 ≤ num) (h1 : num < 18446744073709551616) (x : List Int) (hu : num < 9223372036854775808) (h : PosL num x) : (∀ t, dInt (x ++ t) = some (wrap64 num, x.length)) ∧ ∀ q, q < x.length → dInt (x.take q) = none := by
  rcases h with ⟨hg, rfl⟩ | ⟨f, hf, rfl⟩ | ⟨i, k, hm, hb, rfl⟩
  · refine ⟨fun t => ?_, fun q hq => ?_⟩
    · rw [List.cons_append, dInt_fix _ _ hg]; simp; unfold wrap64; omega
    · obtain rfl : q = 0 := by simp at hq; omega
      exact dInt_nil
  · obtain ⟨hm, hh⟩ := may_mem hf
    simp only [List.mem_cons, List.not_mem_nil, or_false] at hm
    rcases hm with rfl | rfl | rfl | rfl
    all_goals simp only [Nat.reduceMul, Int.reducePow, Nat.reduceLeDiff, false_or, true_or] at hh
    · have e1 : num % 256 = wrap64 num := by unfold wrap64; omega
      refine ⟨fun t => by rw [dInt_204 num t, e1]; simp [beL_len], fun q hq => take_lt 204 _ (beL_len num 1) (by simpa [beL_len] using hq) (fun l => dInt l = none) dInt_nil (fun r hr => dInt_204_cut r hr)⟩
    · have e1 : num % 65536 = wrap64 num := by unfold wrap64; omega
      refine ⟨fun t => by rw [dInt_205 num t, e1]; simp [beL_len], fun q hq => take_lt 205 _ (beL_len num 2) (by simpa [beL_len] using hq) (fun l => dInt l = none) dInt_nil (fun r hr => dInt_205_cut r hr)⟩
    · have e1 : num % 4294967296 = wrap64 num := by unfold wrap64; omega
      refine ⟨fun t => by rw [dInt_206 num t, e1]; simp [beL_len], fun q hq => take_lt 206 _ (beL_len num 4) (by simpa [beL_len] using hq) (fun l => dInt l = none) dInt_nil (fun r hr => dInt_206_cut r hr)⟩
    · have e1 : num % 18446744073709551616 = wrap64 num := by unfold wrap64; omega
      refine ⟨fun t => by rw [dInt_207 num (by omega) t, e1]; simp [beL_len], fun q hq => take_lt 207 _ (beL_len num 8) (by simpa [beL_len] using hq) (fun l => dInt l = none) dInt_nil (fun r hr => dInt_207_cut r hr)⟩
  · simp only [List.mem_cons, Prod.mk.injEq, List.not_mem_nil, or_false] at hm
    rcases hm with ⟨rfl, rfl⟩ | ⟨rfl, rfl⟩ | ⟨rfl, rfl⟩ | ⟨rfl, rfl⟩
    all_goals simp only [c208, c209, c210, c211]
    · have e1 : IntKind.i8.wrap (num % 256) = wrap64 num := by rw [i8_lo (num % 256) (by omega) (by omega)]; unfold wrap64; omega
      refine ⟨fun t => by rw [dInt_208 num t, e1]; simp [beL_len], fun q hq => take_lt 208 _ (beL_len num 1) (by simpa [beL_len] using hq) (fun l => dInt l = none) dInt_nil (fun r hr => dInt_208_cut r hr)⟩
    · have e1 : IntKind.i16.wrap (num % 65536) = wrap64 num := by rw [i16_lo (num % 65536) (by omega) (by omega)]; unfold wrap64; omega
      refine ⟨fun t => by rw [dInt_209 num t, e1]; simp [beL_len], fun q hq => take_lt 209 _ (beL_len num 2) (by simpa [beL_len] using hq) (fun l => dInt l = none) dInt_nil (fun r hr => dInt_209_cut r hr)⟩
    · have e1 : wrap32 (num % 4294967296) = wrap64 num := by rw [i32_lo (num % 4294967296) (by omega) (by omega)]; unfold wrap64; omega
      refine ⟨fun t => by rw [dInt_210 num t, e1]; simp [beL_len], fun q hq => take_lt 210 _ (beL_len num 4) (by simpa [beL_len] using hq) (fun l => dInt l = none) dInt_nil (fun r hr => dInt_210_cut r hr)⟩
    · have e1 : wrap64 (num % 18446744073709551616) = wrap64 num := by rw [i64_lo (num % 18446744073709551616) (by omega) (by omega)]; unfold wrap64; omega
      refine ⟨fun t => by rw [dInt_211 num t, e1]; simp [beL_len], fun q hq => take_lt 211 _ (beL_len num 8) (by simpa [beL_len] using hq) (fun l => dInt l = none) dInt_nil (fun r hr => dInt_211_cut r hr)⟩
theorem dInt_big (num : Int) (h0 : 0 ≤ num) (h1 : num < 18446744073709551616) (x : List Int) (hu : 9223372036854775808 ≤ num) (h : PosL num x) : (∀ t, dInt (x ++ t) = none) ∧ ∀ q, q < x.length → dInt (x.take q) = none := by
  rcases h with ⟨hg, rfl⟩ | ⟨f, hf, rfl⟩ | ⟨i, k, hm, hb, rfl⟩
  · omega
  · obtain ⟨hm, hh⟩ := may_mem hf
    simp only [List.mem_cons, List.not_mem_nil, or_false] at hm
    rcases hm with rfl | rfl | rfl | rfl
    all_goals simp only [Nat.reduceMul, Int.reducePow, Nat.reduceLeDiff, false_or, true_or] at hh
    · omega
    · omega
    · omega
    · refine ⟨fun t => dInt_207_no num (by omega) t, fun q hq => take_lt 207 _ (beL_len num 8) (by simpa [beL_len] using hq) (fun l => dInt l = none) dInt_nil (fun r hr => dInt_207_cut r hr)⟩
  · simp only [List.mem_cons, Prod.mk.injEq, List.not_mem_nil, or_false] at hm
    rcases hm with ⟨rfl, rfl⟩ | ⟨rfl, rfl⟩ | ⟨rfl, rfl⟩ | ⟨rfl, rfl⟩
    all_goals simp only [c208, c209, c210, c211]
    all_goals (simp at hb; omega)
theorem dInt_neg (num : Int) (h0 : 0 ≤ num) (h1 : num < 18446744073709551616) (x : List Int) (hu : 9223372036854775808 ≤ num) (h : NegL num x) : (∀ t, dInt (x ++ t) = some (wrap64 num, x.length)) ∧ ∀ q, q < x.length → dInt (x.take q) = none := by
  rcases h with ⟨hg, rfl⟩ | ⟨i, k, hm, hb, rfl⟩
  · refine ⟨fun t => ?_, fun q hq => ?_⟩
    · rw [List.cons_append, dInt_nfix _ _ (by omega)]; simp; unfold wrap64; omega
    · obtain rfl : q = 0 := by simp at hq; omega
      exact dInt_nil
  · simp only [List.mem_cons, Prod.mk.injEq, List.not_mem_nil, or_false] at hm
    rcases hm with ⟨rfl, rfl⟩ | ⟨rfl, rfl⟩ | ⟨rfl, rfl⟩ | ⟨rfl, rfl⟩
    all_goals simp only [c208, c209, c210, c211]
    · have e1 : IntKind.i8.wrap (num % 256) = wrap64 num := by rw [i8_hi (num % 256) (by omega) (by omega)]; unfold wrap64; omega
      refine ⟨fun t => by rw [dInt_208 num t, e1]; simp [beL_len], fun q hq => take_lt 208 _ (beL_len num 1) (by simpa [beL_len] using hq) (fun l => dInt l = none) dInt_nil (fun r hr => dInt_208_cut r hr)⟩
    · have e1 : IntKind.i16.wrap (num % 65536) = wrap64 num := by rw [i16_hi (num % 65536) (by omega) (by omega)]; unfold wrap64; omega
      refine ⟨fun t => by rw [dInt_209 num t, e1]; simp [beL_len], fun q hq => take_lt 209 _ (beL_len num 2) (by simpa [beL_len] using hq) (fun l => dInt l = none) dInt_nil (fun r hr => dInt_209_cut r hr)⟩
    · have e1 : wrap32 (num % 4294967296) = wrap64 num := by rw [i32_hi (num % 4294967296) (by omega) (by omega)]; unfold wrap64; omega
      refine ⟨fun t => by rw [dInt_210 num t, e1]; simp [beL_len], fun q hq => take_lt 210 _ (beL_len num 4) (by simpa [beL_len] using hq) (fun l => dInt l = none) dInt_nil (fun r hr => dInt_210_cut r hr)⟩
    · have e1 : wrap64 (num % 18446744073709551616) = wrap64 num := by rw [i64_hi (num % 18446744073709551616) (by omega) (by omega)]; unfold wrap64; omega
      refine ⟨fun t => by rw [dInt_211 num t, e1]; simp [beL_len], fun q hq => take_lt 211 _ (beL_len num 8) (by simpa [beL_len] using hq) (fun l => dInt l = none) dInt_nil (fun r hr => dInt_211_cut r hr)⟩
theorem dInt_kind (k z : Int) (r : List Int) (hk : ¬ (k = 2 ∨ k = 3)) (h : HdOf k z) : dInt (z :: r) = none := by
  unfold HdOf at h
  exact dInt_other z r (by omega) (by omega) (by omega)
theorem dUint_pos (num : Int) (h0 : 0 ≤ num) (h1 : num < 18446744073709551616) (x : List Int) (hu : num < 18446744073709551616) (h : PosL num x) : (∀ t, dUint (x ++ t) = some (num, x.length)) ∧ ∀ q, q < x.length → dUint (x.take q) = none := by
  rcases h with ⟨hg, rfl⟩ | ⟨f, hf, rfl⟩ | ⟨i, k, hm, hb, rfl⟩
  · refine ⟨fun t => ?_, fun q hq => ?_⟩
    · rw [List.cons_append, dUint_fix _ _ hg]; simp
    · obtain rfl : q = 0 := by simp at hq; omega
      exact dUint_nil
  · obtain ⟨hm, hh⟩ := may_mem hf
    simp only [List.mem_cons, List.not_mem_nil, or_false] at hm
    rcases hm with rfl | rfl | rfl | rfl
    all_goals simp only [Nat.reduceMul, Int.reducePow, Nat.reduceLeDiff, false_or, true_or] at hh
    · have e1 : num % 256 = num := by omega
      refine ⟨fun t => by rw [dUint_204 num t, e1]; simp [beL_len], fun q hq => take_lt 204 _ (beL_len num 1) (by simpa [beL_len] using hq) (fun l => dUint l = none) dUint_nil (fun r hr => dUint_204_cut r hr)⟩
    · have e1 : num % 65536 = num := by omega
      refine ⟨fun t => by rw [dUint_205 num t, e1]; simp [beL_len], fun q hq => take_lt 205 _ (beL_len num 2) (by simpa [beL_len] using hq) (fun l => dUint l = none) dUint_nil (fun r hr => dUint_205_cut r hr)⟩
    · have e1 : num % 4294967296 = num := by omega
      refine ⟨fun t => by rw [dUint_206 num t, e1]; simp [beL_len], fun q hq => take_lt 206 _ (beL_len num 4) (by simpa [beL_len] using hq) (fun l => dUint l = none) dUint_nil (fun r hr => dUint_206_cut r hr)⟩
    · have e1 : num % 18446744073709551616 = num := by omega
      refine ⟨fun t => by rw [dUint_207 num t, e1]; simp [beL_len], fun q hq => take_lt 207 _ (beL_len num 8) (by simpa [beL_len] using hq) (fun l => dUint l = none) dUint_nil (fun r hr => dUint_207_cut r hr)⟩
  · simp only [List.mem_cons, Prod.mk.injEq, List.not_mem_nil, or_false] at hm
    rcases hm with ⟨rfl, rfl⟩ | ⟨rfl, rfl⟩ | ⟨rfl, rfl⟩ | ⟨rfl, rfl⟩
    all_goals simp only [c208, c209, c210, c211]
    · have e1 : IntKind.i8.wrap (num % 256) = num := by rw [i8_lo (num % 256) (by omega) (by omega)]; omega
      refine ⟨fun t => by rw [dUint_208 num (by rw [i8_lo (num % 256) (by omega) (by omega)]; omega) t, e1]; simp [beL_len], fun q hq => take_lt 208 _ (beL_len num 1) (by simpa [beL_len] using hq) (fun l => dUint l = none) dUint_nil (fun r hr => dUint_208_cut r hr)⟩
    · have e1 : IntKind.i16.wrap (num % 65536) = num := by rw [i16_lo (num % 65536) (by omega) (by omega)]; omega
      refine ⟨fun t => by rw [dUint_209 num (by rw [i16_lo (num % 65536) (by omega) (by omega)]; omega) t, e1]; simp [beL_len], fun q hq => take_lt 209 _ (beL_len num 2) (by simpa [beL_len] using hq) (fun l => dUint l = none) dUint_nil (fun r hr => dUint_209_cut r hr)⟩
    · have e1 : wrap32 (num % 4294967296) = num := by rw [i32_lo (num % 4294967296) (by omega) (by omega)]; omega
      refine ⟨fun t => by rw [dUint_210 num (by rw [i32_lo (num % 4294967296) (by omega) (by omega)]; omega) t, e1]; simp [beL_len], fun q hq => take_lt 210 _ (beL_len num 4) (by simpa [beL_len] using hq) (fun l => dUint l = none) dUint_nil (fun r hr => dUint_210_cut r hr)⟩
    · have e1 : wrap64 (num % 18446744073709551616) = num := by rw [i64_lo (num % 18446744073709551616) (by omega) (by omega)]; omega
      refine ⟨fun t => by rw [dUint_211 num (by rw [i64_lo (num % 18446744073709551616) (by omega) (by omega)]; omega) t, e1]; simp [beL_len], fun q hq => take_lt 211 _ (beL_len num 8) (by simpa [beL_len] using hq) (fun l => dUint l = none) dUint_nil (fun r hr => dUint_211_cut r hr)⟩
theorem dUint_neg (num : Int) (h0 : 0 ≤ num) (h1 : num < 18446744073709551616) (x : List Int) (hu : 9223372036854775808 ≤ num) (h : NegL num x) : (∀ t, dUint (x ++ t) = none) ∧ ∀ q, q < x.length → dUint (x.take q) = none := by
  rcases h with ⟨hg, rfl⟩ | ⟨i, k, hm, hb, rfl⟩
  · refine ⟨fun t => ?_, fun q hq => ?_⟩
    · rw [List.cons_append]; exact dUint_other _ _ (by omega) (by omega)
    · obtain rfl : q = 0 := by simp at hq; omega
      exact dUint_nil
  · simp only [List.mem_cons, Prod.mk.injEq, List.not_mem_nil, or_false] at hm
    rcases hm with ⟨rfl, rfl⟩ | ⟨rfl, rfl⟩ | ⟨rfl, rfl⟩ | ⟨rfl, rfl⟩
    all_goals simp only [c208, c209, c210, c211]
    · refine ⟨fun t => dUint_208_no num (by rw [i8_hi (num % 256) (by omega) (by omega)]; omega) t, fun q hq => take_lt 208 _ (beL_len num 1) (by simpa [beL_len] using hq) (fun l => dUint l = none) dUint_nil (fun r hr => dUint_208_cut r hr)⟩
    · refine ⟨fun t => dUint_209_no num (by rw [i16_hi (num % 65536) (by omega) (by omega)]; omega) t, fun q hq => take_lt 209 _ (beL_len num 2) (by simpa [beL_len] using hq) (fun l => dUint l = none) dUint_nil (fun r hr => dUint_209_cut r hr)⟩
    · refine ⟨fun t => dUint_210_no num (by rw [i32_hi (num % 4294967296) (by omega) (by omega)]; omega) t, fun q hq => take_lt 210 _ (beL_len num 4) (by simpa [beL_len] using hq) (fun l => dUint l = none) dUint_nil (fun r hr => dUint_210_cut r hr)⟩
    · refine ⟨fun t => dUint_211_no num (by rw [i64_hi (num % 18446744073709551616) (by omega) (by omega)]; omega) t, fun q hq => take_lt 211 _ (beL_len num 8) (by simpa [beL_len] using hq) (fun l => dUint l = none) dUint_nil (fun r hr => dUint_211_cut r hr)⟩
theorem dUint_kind (k z : Int) (r : List Int) (hk : ¬ (k = 2 ∨ k = 3)) (h : HdOf k z) : dUint (z :: r) = none := by
  unfold HdOf at h
  exact dUint_other z r (by omega) (by omega)
end Go.Proofs.YtbngkfdfjpbajaaDoor
