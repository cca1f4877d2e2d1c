/- impl.PutUint16, impl.PutInt16: what they write, and how it is read. -/
import Derived.Test.YtbngkfdfjpbajaaAppIntO
import Derived.Test.YtbngkfdfjpbajaaReads
namespace Go.Proofs.Ytbngkfdfjpbajaa
open Go.RowKit
set_option linter.unusedVariables false

/-- A function of one value besides the bytes before appends these bytes. -/
def Puts (f : FuncId) (x : Value) (enc : List Int) : Prop :=
  ∀ (a : Option Addr) (n c : Nat) (l : List Int) (w : World), Vw w a n c l → n ≤ 1099511627776 →
    Calls Try.prog f #[.slice a n c, x] w fun e w' => ∃ a' c', e = .returned (.slice a' (n + enc.length) c') ∧ O8 w' w.heap.size a' (n + enc.length) c' (l ++ enc) ∧ Below w.heap.size w w'

/-- The same of a function over rows of one's own. -/
def Apps (f : FuncId) (x : Value) (enc : List Int) : Prop :=
  ∀ (B : Nat) (a : Option Addr) (n c : Nat) (l : List Int) (w : World), O8 w B a n c l → B ≤ w.heap.size → n ≤ 1099511627776 →
    Calls Try.prog f #[.slice a n c, x] w fun e w' => ∃ a' c', e = .returned (.slice a' (n + enc.length) c') ∧ O8 w' B a' (n + enc.length) c' (l ++ enc) ∧ Below B w w' ∧ Oth a w w'

theorem apps_uint64 (u : Int) (h0 : 0 ≤ u) (h1 : u < 18446744073709551616) : ∃ enc, 1 ≤ enc.length ∧ enc.length ≤ 9 ∧ (u < 65536 → enc.length ≤ 3) ∧ Reads enc 3 u ⟨#[]⟩ 0 ∧ Apps 36 (.int .u64 u) enc := by
  by_cases c1 : u < 128
  · exact ⟨[u], by simp, by simp, by simp, reads_small u c1, fun B a n c l w hv hB hn => appOUint64_1 u h0 c1 B a n c l w hv hB hn⟩
  · by_cases c2 : u < 256
    · have e : beN [u] = u := by simp [beN]
      exact ⟨[204, u], by simp, by simp, by simp, reads_uint' 204 1 (by omega) _ rfl u e, fun B a n c l w hv hB hn => appOUint64_2 u (by omega) c2 B a n c l w hv hB hn⟩
    · by_cases c3 : u < 65536
      · have e : beN [u / 256, u % 256] = u := by simp only [beN, List.foldl]; omega
        exact ⟨[205, u / 256, u % 256], by simp, by simp, by simp, reads_uint' 205 2 (by omega) _ rfl u e, fun B a n c l w hv hB hn => appOUint64_3 u (by omega) c3 B a n c l w hv hB hn⟩
      · by_cases c4 : u < 4294967296
        · have e : beN [u / 16777216, u / 65536 % 256, u / 256 % 256, u % 256] = u := by simp only [beN, List.foldl]; omega
          exact ⟨[206, u / 16777216, u / 65536 % 256, u / 256 % 256, u % 256], by simp, by simp, by omega, reads_uint' 206 4 (by omega) _ rfl u e, fun B a n c l w hv hB hn => appOUint64_5 u (by omega) c4 B a n c l w hv hB hn⟩
        · have e : beN [u / 72057594037927936, u / 281474976710656 % 256, u / 1099511627776 % 256, u / 4294967296 % 256, u / 16777216 % 256, u / 65536 % 256, u / 256 % 256, u % 256] = u := by simp only [beN, List.foldl]; omega
          exact ⟨[207, u / 72057594037927936, u / 281474976710656 % 256, u / 1099511627776 % 256, u / 4294967296 % 256, u / 16777216 % 256, u / 65536 % 256, u / 256 % 256, u % 256], by simp, by simp, by omega, reads_uint' 207 8 (by omega) _ rfl u e, fun B a n c l w hv hB hn => appOUint64_9 u (by omega) h1 B a n c l w hv hB hn⟩

/-- An integer reads as itself, of either kind. -/
theorem apps_int64 (u : Int) (h0 : -9223372036854775808 ≤ u) (h1 : u < 9223372036854775808) : ∃ enc, 1 ≤ enc.length ∧ enc.length ≤ 9 ∧ (-32768 ≤ u ∧ u < 32768 → enc.length ≤ 3) ∧ (Reads enc (if 0 ≤ u then 3 else 2) (u % 18446744073709551616) ⟨#[]⟩ 0) ∧ Apps 40 (.int .i64 u) enc := by
  by_cases p : 0 ≤ u
  · rw [if_pos p, Int.emod_eq_of_lt p (by omega)]
    by_cases c1 : u < 128
    · exact ⟨[u], by simp, by simp, by simp, reads_small u c1, fun B a n c l w hv hB hn => appOInt64_1 u p c1 B a n c l w hv hB hn⟩
    · by_cases c2 : u < 32768
      · exact ⟨[209, u / 256 % 256, u % 256], by simp, by simp, by simp, reads_int2p _ rfl u (by simp only [beN, List.foldl]; omega) c2, fun B a n c l w hv hB hn => appOInt64_3 u (by omega) c2 B a n c l w hv hB hn⟩
      · by_cases c3 : u < 2147483648
        · exact ⟨[210, u / 16777216 % 256, u / 65536 % 256, u / 256 % 256, u % 256], by simp, by simp, by omega, reads_int4p _ rfl u (by simp only [beN, List.foldl]; omega) c3, fun B a n c l w hv hB hn => appOInt64_5 u (by omega) c3 B a n c l w hv hB hn⟩
        · exact ⟨[211, u / 72057594037927936 % 256, u / 281474976710656 % 256, u / 1099511627776 % 256, u / 4294967296 % 256, u / 16777216 % 256, u / 65536 % 256, u / 256 % 256, u % 256], by simp, by simp, by omega, reads_int8p _ rfl u (by simp only [beN, List.foldl]; omega) h1, fun B a n c l w hv hB hn => appOInt64_9 u (by omega) h1 B a n c l w hv hB hn⟩
  · rw [if_neg p, show u % 18446744073709551616 = u + 18446744073709551616 by omega]
    by_cases c1 : -32 ≤ u
    · refine ⟨[u + 256], by simp, by simp, by simp, ?_, fun B a n c l w hv hB hn => appOInt64_1n u c1 (by omega) B a n c l w hv hB hn⟩
      have := reads_nfix (u + 256) (by omega)
      rwa [show u + 256 + 18446744073709551360 = u + 18446744073709551616 by omega] at this
    · by_cases c2 : -128 ≤ u
      · refine ⟨[208, u % 256], by simp, by simp, by simp, ?_, fun B a n c l w hv hB hn => appOInt64_2n u c2 (by omega) B a n c l w hv hB hn⟩
        have := reads_int1n [u % 256] rfl (u + 256) (by simp only [beN, List.foldl]; omega) (by omega)
        rwa [show u + 256 + 18446744073709551360 = u + 18446744073709551616 by omega] at this
      · by_cases c3 : -32768 ≤ u
        · refine ⟨[209, u / 256 % 256, u % 256], by simp, by simp, by simp, ?_, fun B a n c l w hv hB hn => appOInt64_3n u c3 (by omega) B a n c l w hv hB hn⟩
          have := reads_int2n [u / 256 % 256, u % 256] rfl (u + 65536) (by simp only [beN, List.foldl]; omega) (by omega)
          rwa [show u + 65536 + 18446744073709486080 = u + 18446744073709551616 by omega] at this
        · by_cases c4 : -2147483648 ≤ u
          · refine ⟨[210, u / 16777216 % 256, u / 65536 % 256, u / 256 % 256, u % 256], by simp, by simp, by omega, ?_, fun B a n c l w hv hB hn => appOInt64_5n u c4 (by omega) B a n c l w hv hB hn⟩
            have := reads_int4n [u / 16777216 % 256, u / 65536 % 256, u / 256 % 256, u % 256] rfl (u + 4294967296) (by simp only [beN, List.foldl]; omega) (by omega)
            rwa [show u + 4294967296 + 18446744069414584320 = u + 18446744073709551616 by omega] at this
          · refine ⟨[211, u / 72057594037927936 % 256, u / 281474976710656 % 256, u / 1099511627776 % 256, u / 4294967296 % 256, u / 16777216 % 256, u / 65536 % 256, u / 256 % 256, u % 256], by simp, by simp, by omega, ?_, fun B a n c l w hv hB hn => appOInt64_9n u h0 (by omega) B a n c l w hv hB hn⟩
            exact reads_int8n [u / 72057594037927936 % 256, u / 281474976710656 % 256, u / 1099511627776 % 256, u / 4294967296 % 256, u / 16777216 % 256, u / 65536 % 256, u / 256 % 256, u % 256] rfl (u + 18446744073709551616) (by simp only [beN, List.foldl]; omega) (by omega)
end Go.Proofs.Ytbngkfdfjpbajaa
