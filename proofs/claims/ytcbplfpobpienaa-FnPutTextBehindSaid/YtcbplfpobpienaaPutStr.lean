/- impl.PutText: what it writes, and how it is read. -/
import Derived.Test.YtcbplfpobpienaaAppStr
import Derived.Test.YtcbplfpobpienaaPutInt
namespace Go.Proofs.Ytcbplfpobpienaa
open Go.RowKit
set_option linter.unusedVariables false

theorem apps_string (s : ByteArray) (hs : s.size ≤ 131072) : ∃ enc, 1 ≤ enc.length ∧ enc.length ≤ 131077 ∧ Reads enc 6 0 s 0 ∧ Apps 25 (.string s) enc := by
  have hi := ints_length s
  by_cases c0 : s.size = 0
  · refine ⟨[160], by simp, by simp, ?_, fun B a n c l w hv hB hn => appendString_none s c0 B a n c l w hv hB hn⟩
    have := reads_fixtext (ints s) (by omega)
    rw [strOfNums_ints] at this
    have e : ints s = [] := List.eq_nil_of_length_eq_zero (by omega)
    rw [e] at this
    simpa using this
  · by_cases c1 : s.size < 32
    · refine ⟨[160 + (s.size : Int)] ++ ints s, by simp, by simp [hi]; omega, ?_, fun B a n c l w hv hB hn => ?_⟩
      · have := reads_fixtext (ints s) (by omega)
        rwa [strOfNums_ints, hi] at this
      · have := appendString_fix s s.size rfl (by omega) c1 B a n c l w hv hB hn
        rw [show ([160 + (s.size : Int)] ++ ints s).length = 1 + s.size by simp [hi]; omega]
        exact this
    · by_cases c2 : s.size < 256
      · refine ⟨[217, (s.size : Int)] ++ ints s, by simp, by simp [hi]; omega, ?_, fun B a n c l w hv hB hn => ?_⟩
        · have := reads_text 217 1 (by omega) [(s.size : Int)] (ints s) rfl (by simp [beN, hi])
          rwa [strOfNums_ints] at this
        · have := appendString_8 s s.size rfl (by omega) c2 B a n c l w hv hB hn
          rw [show ([217, (s.size : Int)] ++ ints s).length = 2 + s.size by simp [hi]; omega]
          exact this
      · by_cases c3 : s.size < 65536
        · refine ⟨[218, (s.size : Int) / 256, (s.size : Int) % 256] ++ ints s, by simp, by simp [hi]; omega, ?_, fun B a n c l w hv hB hn => ?_⟩
          · have := reads_text 218 2 (by omega) [(s.size : Int) / 256, (s.size : Int) % 256] (ints s) rfl (by simp only [beN, List.foldl, hi]; omega)
            rwa [strOfNums_ints] at this
          · have := appendString_16 s s.size rfl (by omega) c3 B a n c l w hv hB hn
            rw [show ([218, (s.size : Int) / 256, (s.size : Int) % 256] ++ ints s).length = 3 + s.size by simp [hi]; omega]
            exact this
        · refine ⟨[219, (s.size : Int) / 16777216, (s.size : Int) / 65536 % 256, (s.size : Int) / 256 % 256, (s.size : Int) % 256] ++ ints s, by simp, by simp [hi]; omega, ?_, fun B a n c l w hv hB hn => ?_⟩
          · have := reads_text 219 4 (by omega) [(s.size : Int) / 16777216, (s.size : Int) / 65536 % 256, (s.size : Int) / 256 % 256, (s.size : Int) % 256] (ints s) rfl (by simp only [beN, List.foldl, hi]; omega)
            rwa [strOfNums_ints] at this
          · have := appendString_32 s s.size rfl (by omega) (by omega) B a n c l w hv hB hn
            rw [show ([219, (s.size : Int) / 16777216, (s.size : Int) / 65536 % 256, (s.size : Int) / 256 % 256, (s.size : Int) % 256] ++ ints s).length = 5 + s.size by simp [hi]; omega]
            exact this
end Go.Proofs.Ytcbplfpobpienaa
