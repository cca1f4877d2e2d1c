/- (*msgp.Writer).WriteUint64, WriteInt64: what they write, and how it is read. -/
import Derived.Test.YtliaiaefhbgblaaWrP
import Derived.Test.YtliaiaefhbgblaaReads
namespace Go.Proofs.Ytliaiaefhbgblaa
open Go.RowKit
set_option linter.unusedVariables false
set_option linter.unusedSimpArgs false

/-- A method of a Writer, of one value, writes these bytes behind the others. -/
def Wrts (f : FuncId) (x : Value) (enc : List Int) : Prop := ∀ (B : Nat) (K : Nat → Prop) (W sz wl : Nat) (tot : List Int) (w : World), Wr w B K W sz wl tot → tot.length ≤ 1000000000000 →
  Calls Try.prog f #[.pointer (some ⟨W, 0, none⟩), x] w (WrRes B K W sz (tot ++ enc) w)

theorem u8_and127 (x : Int) (h0 : 0 ≤ x) (h1 : x < 128) : bits .and .u8 x 127 = x := by
  rw [u8_and x 127 h0 (by omega) (by omega) (by omega)]
  have := nat_mask7 x.toNat
  simp only [show (127 : Int).toNat = 127 from rfl, this]
  omega
theorem u8_or224 (x : Int) (h0 : -32 ≤ x) (h1 : x < 0) : bits .or .u8 (x % 256) 224 = x + 256 := by
  rw [u8_or (x % 256) 224 (by omega) (by omega) (by omega) (by omega)]
  have e : (x % 256).toNat = (x + 32).toNat + 224 := by omega
  have e2 : ((x + 32).toNat + 224) = 224 ||| (x + 32).toNat := by
    rw [nat_join 5 224 (x + 32).toNat (by decide) (by omega)]; omega
  rw [e, e2, show (224 : Int).toNat = 224 from rfl, Nat.or_comm 224, Nat.or_assoc, Nat.or_self, Nat.or_comm, nat_join 5 224 (x + 32).toNat (by decide) (by omega)]
  omega

set_option maxHeartbeats 1000000 in
theorem wu1 (u : Int) (h0 : 0 ≤ u) (h1 : u < 128) : Wrts 16 (.int .u64 u) [u] := by
  intro B K W sz wl tot w h hn
  have hand := u8_and127 u h0 h1
  go_enter Try.func16, Try.ntmps16
  go_wp2_with (go_at_call 33; go_in)
  refine (push_any _ _ _ _ _ _ u (by omega) _ h (by omega)).mono ?_
  rintro e w1 ⟨rfl, h1, h2, h3⟩
  go_wp2_with fail
  go_ret
  exact ⟨rfl, h1, h2, h3⟩
set_option maxHeartbeats 1000000 in
theorem wu2 (u : Int) (h0 : 128 ≤ u) (h1 : u < 256) : Wrts 16 (.int .u64 u) [204, u] := by
  intro B K W sz wl tot w h hn
  go_enter Try.func16, Try.ntmps16
  go_wp2_with (fail)
  refine (prefix8_any _ _ _ _ _ _ 204 u (by omega) (by omega) (by omega) _ h (by omega)).mono ?_
  rintro e w1 ⟨rfl, h1, h2, h3⟩
  go_wp2_with fail
  go_ret
  exact ⟨rfl, h1, h2, h3⟩
set_option maxHeartbeats 1000000 in
theorem wu3 (u : Int) (h0 : 256 ≤ u) (h1 : u < 65536) : Wrts 16 (.int .u64 u) [205, u / 256, u % 256] := by
  intro B K W sz wl tot w h hn
  go_enter Try.func16, Try.ntmps16
  go_wp2_with (fail)
  refine (prefix16_any _ _ _ _ _ _ 205 u (by omega) (by omega) (by omega) _ h (by omega)).mono ?_
  rintro e w1 ⟨rfl, h1, h2, h3⟩
  go_wp2_with fail
  go_ret
  exact ⟨rfl, h1, h2, h3⟩
set_option maxHeartbeats 1000000 in
theorem wu5 (u : Int) (h0 : 65536 ≤ u) (h1 : u < 4294967296) : Wrts 16 (.int .u64 u) [206, u / 16777216, u / 65536 % 256, u / 256 % 256, u % 256] := by
  intro B K W sz wl tot w h hn
  go_enter Try.func16, Try.ntmps16
  go_wp2_with (fail)
  refine (prefix32_any _ _ _ _ _ _ 206 u (by omega) (by omega) (by omega) _ h (by omega)).mono ?_
  rintro e w1 ⟨rfl, h1, h2, h3⟩
  go_wp2_with fail
  go_ret
  exact ⟨rfl, h1, h2, h3⟩
set_option maxHeartbeats 1000000 in
theorem wu9 (u : Int) (h0 : 4294967296 ≤ u) (h1 : u < 18446744073709551616) : Wrts 16 (.int .u64 u) [207, u / 72057594037927936, u / 281474976710656 % 256, u / 1099511627776 % 256, u / 4294967296 % 256, u / 16777216 % 256, u / 65536 % 256, u / 256 % 256, u % 256] := by
  intro B K W sz wl tot w h hn
  go_enter Try.func16, Try.ntmps16
  go_wp2_with (fail)
  refine (prefix64_any _ _ _ _ _ _ 207 u (by omega) (by omega) (by omega) _ h (by omega)).mono ?_
  rintro e w1 ⟨rfl, h1, h2, h3⟩
  go_wp2_with fail
  go_ret
  exact ⟨rfl, h1, h2, h3⟩

theorem wrts_uint64 (u : Int) (h0 : 0 ≤ u) (h1 : u < 18446744073709551616) : ∃ enc, 1 ≤ enc.length ∧ enc.length ≤ 9 ∧ Reads enc 3 u ⟨#[]⟩ 0 ∧ Wrts 16 (.int .u64 u) enc := by
  by_cases c1 : u < 128
  · exact ⟨[u], by simp, by simp, reads_small u c1, wu1 u h0 c1⟩
  · by_cases c2 : u < 256
    · exact ⟨_, by simp, by simp, reads_uint' 204 1 (by omega) _ rfl u (by simp [beN]), wu2 u (by omega) c2⟩
    · by_cases c3 : u < 65536
      · exact ⟨_, by simp, by simp, reads_uint' 205 2 (by omega) _ rfl u (by simp only [beN, List.foldl]; omega), wu3 u (by omega) c3⟩
      · by_cases c4 : u < 4294967296
        · exact ⟨_, by simp, by simp, reads_uint' 206 4 (by omega) _ rfl u (by simp only [beN, List.foldl]; omega), wu5 u (by omega) c4⟩
        · exact ⟨_, by simp, by simp, reads_uint' 207 8 (by omega) _ rfl u (by simp only [beN, List.foldl]; omega), wu9 u (by omega) h1⟩

set_option maxHeartbeats 1000000 in
theorem wi1 (u : Int) (h0 : 0 ≤ u) (h1 : u < 128) : Wrts 24 (.int .i64 u) [u] := by
  intro B K W sz wl tot w h hn
  have hand := u8_and127 u h0 h1
  go_enter Try.func24, Try.ntmps24
  go_wp2_with (go_at_call 33; go_in)
  refine (push_any _ _ _ _ _ _ u (by omega) _ h (by omega)).mono ?_
  rintro e w1 ⟨rfl, h1, h2, h3⟩
  go_wp2_with fail
  go_ret
  exact ⟨rfl, h1, h2, h3⟩
set_option maxHeartbeats 1000000 in
theorem wi1n (u : Int) (h0 : (-32) ≤ u) (h1 : u < 0) : Wrts 24 (.int .i64 u) [(u + 256)] := by
  intro B K W sz wl tot w h hn
  have hor := u8_or224 u h0 h1
  go_enter Try.func24, Try.ntmps24
  go_wp2_with (go_at_call 42; go_in)
  refine (push_any _ _ _ _ _ _ (u + 256) (by omega) _ h (by omega)).mono ?_
  rintro e w1 ⟨rfl, h1, h2, h3⟩
  go_wp2_with fail
  go_ret
  exact ⟨rfl, h1, h2, h3⟩
set_option maxHeartbeats 1000000 in
theorem wi3 (u : Int) (h0 : 128 ≤ u) (h1 : u < 32768) : Wrts 24 (.int .i64 u) [209, u / 256, u % 256] := by
  intro B K W sz wl tot w h hn
  go_enter Try.func24, Try.ntmps24
  go_wp2_with (fail)
  refine (prefix16_any _ _ _ _ _ _ 209 u (by omega) (by omega) (by omega) _ h (by omega)).mono ?_
  rintro e w1 ⟨rfl, h1, h2, h3⟩
  go_wp2_with fail
  go_ret
  exact ⟨rfl, h1, h2, h3⟩
set_option maxHeartbeats 1000000 in
theorem wi5 (u : Int) (h0 : 32768 ≤ u) (h1 : u < 2147483648) : Wrts 24 (.int .i64 u) [210, u / 16777216, u / 65536 % 256, u / 256 % 256, u % 256] := by
  intro B K W sz wl tot w h hn
  go_enter Try.func24, Try.ntmps24
  go_wp2_with (fail)
  refine (prefix32_any _ _ _ _ _ _ 210 u (by omega) (by omega) (by omega) _ h (by omega)).mono ?_
  rintro e w1 ⟨rfl, h1, h2, h3⟩
  go_wp2_with fail
  go_ret
  exact ⟨rfl, h1, h2, h3⟩
set_option maxHeartbeats 1000000 in
theorem wi9 (u : Int) (h0 : 2147483648 ≤ u) (h1 : u < 9223372036854775808) : Wrts 24 (.int .i64 u) [211, u / 72057594037927936, u / 281474976710656 % 256, u / 1099511627776 % 256, u / 4294967296 % 256, u / 16777216 % 256, u / 65536 % 256, u / 256 % 256, u % 256] := by
  intro B K W sz wl tot w h hn
  go_enter Try.func24, Try.ntmps24
  go_wp2_with (fail)
  refine (prefix64_any _ _ _ _ _ _ 211 u (by omega) (by omega) (by omega) _ h (by omega)).mono ?_
  rintro e w1 ⟨rfl, h1, h2, h3⟩
  go_wp2_with fail
  go_ret
  exact ⟨rfl, h1, h2, h3⟩
set_option maxHeartbeats 1000000 in
theorem wi2n (u : Int) (h0 : (-128) ≤ u) (h1 : u < (-32)) : Wrts 24 (.int .i64 u) [208, (u % 256)] := by
  intro B K W sz wl tot w h hn
  go_enter Try.func24, Try.ntmps24
  go_wp2_with (fail)
  refine (prefix8_any _ _ _ _ _ _ 208 (u % 256) (by omega) (by omega) (by omega) _ h (by omega)).mono ?_
  rintro e w1 ⟨rfl, h1, h2, h3⟩
  go_wp2_with fail
  go_ret
  exact ⟨rfl, h1, h2, h3⟩
set_option maxHeartbeats 1000000 in
theorem wi3n (u : Int) (h0 : (-32768) ≤ u) (h1 : u < (-128)) : Wrts 24 (.int .i64 u) [209, (u % 65536) / 256, (u % 65536) % 256] := by
  intro B K W sz wl tot w h hn
  go_enter Try.func24, Try.ntmps24
  go_wp2_with (fail)
  refine (prefix16_any _ _ _ _ _ _ 209 (u % 65536) (by omega) (by omega) (by omega) _ h (by omega)).mono ?_
  rintro e w1 ⟨rfl, h1, h2, h3⟩
  go_wp2_with fail
  go_ret
  exact ⟨rfl, h1, h2, h3⟩
set_option maxHeartbeats 1000000 in
theorem wi5n (u : Int) (h0 : (-2147483648) ≤ u) (h1 : u < (-32768)) : Wrts 24 (.int .i64 u) [210, (u % 4294967296) / 16777216, (u % 4294967296) / 65536 % 256, (u % 4294967296) / 256 % 256, (u % 4294967296) % 256] := by
  intro B K W sz wl tot w h hn
  go_enter Try.func24, Try.ntmps24
  go_wp2_with (fail)
  refine (prefix32_any _ _ _ _ _ _ 210 (u % 4294967296) (by omega) (by omega) (by omega) _ h (by omega)).mono ?_
  rintro e w1 ⟨rfl, h1, h2, h3⟩
  go_wp2_with fail
  go_ret
  exact ⟨rfl, h1, h2, h3⟩
set_option maxHeartbeats 1000000 in
theorem wi9n (u : Int) (h0 : (-9223372036854775808) ≤ u) (h1 : u < (-2147483648)) : Wrts 24 (.int .i64 u) [211, (u % 18446744073709551616) / 72057594037927936, (u % 18446744073709551616) / 281474976710656 % 256, (u % 18446744073709551616) / 1099511627776 % 256, (u % 18446744073709551616) / 4294967296 % 256, (u % 18446744073709551616) / 16777216 % 256, (u % 18446744073709551616) / 65536 % 256, (u % 18446744073709551616) / 256 % 256, (u % 18446744073709551616) % 256] := by
  intro B K W sz wl tot w h hn
  go_enter Try.func24, Try.ntmps24
  go_wp2_with (fail)
  refine (prefix64_any _ _ _ _ _ _ 211 (u % 18446744073709551616) (by omega) (by omega) (by omega) _ h (by omega)).mono ?_
  rintro e w1 ⟨rfl, h1, h2, h3⟩
  go_wp2_with fail
  go_ret
  exact ⟨rfl, h1, h2, h3⟩

/-- An integer reads as itself, of either kind. -/
theorem wrts_int64 (u : Int) (h0 : -9223372036854775808 ≤ u) (h1 : u < 9223372036854775808) : ∃ enc, 1 ≤ enc.length ∧ enc.length ≤ 9 ∧ (Reads enc (if 0 ≤ u then 3 else 2) (u % 18446744073709551616) ⟨#[]⟩ 0) ∧ Wrts 24 (.int .i64 u) enc := by
  by_cases p : 0 ≤ u
  · rw [if_pos p, Int.emod_eq_of_lt p (by omega)]
    by_cases c1 : u < 128
    · exact ⟨[u], by simp, by simp, reads_small u c1, wi1 u p c1⟩
    · by_cases c2 : u < 32768
      · exact ⟨_, by simp, by simp, reads_int2p _ rfl u (by simp only [beN, List.foldl]; omega) c2, wi3 u (by omega) c2⟩
      · by_cases c3 : u < 2147483648
        · exact ⟨_, by simp, by simp, reads_int4p _ rfl u (by simp only [beN, List.foldl]; omega) c3, wi5 u (by omega) c3⟩
        · exact ⟨_, by simp, by simp, reads_int8p _ rfl u (by simp only [beN, List.foldl]; omega) h1, wi9 u (by omega) h1⟩
  · rw [if_neg p, show u % 18446744073709551616 = u + 18446744073709551616 by omega]
    by_cases c1 : -32 ≤ u
    · refine ⟨_, by simp, by simp, ?_, wi1n u c1 (by omega)⟩
      have := reads_nfix (u + 256) (by omega)
      rwa [show u + 256 + 18446744073709551360 = u + 18446744073709551616 by omega] at this
    · by_cases c2 : -128 ≤ u
      · refine ⟨_, by simp, by simp, ?_, wi2n u c2 (by omega)⟩
        have := reads_int1n [u % 256] rfl (u + 256) (by simp only [beN, List.foldl]; omega) (by omega)
        rwa [show u + 256 + 18446744073709551360 = u + 18446744073709551616 by omega] at this
      · by_cases c3 : -32768 ≤ u
        · refine ⟨_, by simp, by simp, ?_, wi3n u c3 (by omega)⟩
          have := reads_int2n [u % 65536 / 256, u % 65536 % 256] rfl (u + 65536) (by simp only [beN, List.foldl]; omega) (by omega)
          rwa [show u + 65536 + 18446744073709486080 = u + 18446744073709551616 by omega] at this
        · by_cases c4 : -2147483648 ≤ u
          · refine ⟨_, by simp, by simp, ?_, wi5n u c4 (by omega)⟩
            have := reads_int4n [(u % 4294967296) / 16777216, (u % 4294967296) / 65536 % 256, (u % 4294967296) / 256 % 256, (u % 4294967296) % 256] rfl (u + 4294967296) (by simp only [beN, List.foldl]; omega) (by omega)
            rwa [show u + 4294967296 + 18446744069414584320 = u + 18446744073709551616 by omega] at this
          · refine ⟨_, by simp, by simp, ?_, wi9n u h0 (by omega)⟩
            exact reads_int8n [(u % 18446744073709551616) / 72057594037927936, (u % 18446744073709551616) / 281474976710656 % 256, (u % 18446744073709551616) / 1099511627776 % 256, (u % 18446744073709551616) / 4294967296 % 256, (u % 18446744073709551616) / 16777216 % 256, (u % 18446744073709551616) / 65536 % 256, (u % 18446744073709551616) / 256 % 256, (u % 18446744073709551616) % 256] rfl (u + 18446744073709551616) (by simp only [beN, List.foldl]; omega) (by omega)

end Go.Proofs.Ytliaiaefhbgblaa
