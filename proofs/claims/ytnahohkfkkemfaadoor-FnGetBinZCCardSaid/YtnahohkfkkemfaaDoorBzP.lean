/- The reader of bytes over what spec.PutPack writes. -/
import Derived.Test.YtnahohkfkkemfaaDoorHdP
import Derived.Test.YtnahohkfkkemfaaDoorRdBz
namespace Go.Proofs.YtnahohkfkkemfaaDoor
open Go.RowKit
set_option linter.unusedVariables false
set_option linter.unusedSimpArgs false

theorem isBin_no (z : Int) (t : List Int) (h : ¬ (196 ≤ z ∧ z ≤ 198)) : isBin (z :: t) = none := by
  unfold isBin
  rw [if_neg (by simp), if_neg (by simp; omega), if_neg (by simp; omega), if_neg (by simp; omega)]
theorem dBz_none {l : List Int} (h : isBin l = none) : dBz l = none := by unfold dBz; rw [h]
theorem dBz_kind (k z : Int) (r : List Int) (hk : ¬ k = 7) (h : HdOf k z) : dBz (z :: r) = none := by
  unfold HdOf at h
  exact dBz_none (isBin_no z r (by omega))
theorem dBz_nil : dBz [] = none := dBz_none (by simp [isBin])

theorem binHead {n : Nat} {h : List Int} (hh : HeadL n (-1) 0 formsB h) (t : List Int) : isBin (h ++ t) = some ((n : Int), h.length) ∧ 0 < h.length ∧ ∀ q, q < h.length → isBin (h.take q) = none := by
  rcases hh with ⟨h0, _⟩ | ⟨f, hf, rfl⟩
  · omega
  · obtain ⟨hm, hh⟩ := may_mem hf
    simp only [List.mem_cons, List.not_mem_nil, or_false] at hm
    rcases hm with rfl | rfl | rfl
    · simp only [Nat.reduceMul, Int.reducePow, Nat.reduceLeDiff, false_or] at hh
      refine ⟨?_, by simp, fun q hq => ?_⟩
      · simp [isBin, beL_1]; omega
      · have hq2 : q < 2 := by simpa [beL_len] using hq
        rcases q with _ | _ | q
        · simp [isBin]
        · simp [isBin, beL_1]
        · omega
    · simp only [Nat.reduceMul, Int.reducePow, Nat.reduceLeDiff, false_or] at hh
      refine ⟨?_, by simp, fun q hq => ?_⟩
      · simp [isBin, beL_2, beN]; omega
      · have hq2 : q < 3 := by simpa [beL_len] using hq
        rcases q with _ | _ | _ | q
        · simp [isBin]
        · simp [isBin, beL_2]
        · simp [isBin, beL_2]
        · omega
    · simp only [Nat.reduceMul, Int.reducePow, Nat.reduceLeDiff, false_or] at hh
      refine ⟨?_, by simp, fun q hq => ?_⟩
      · simp [isBin, beL_4, beN]; omega
      · have hq2 : q < 5 := by simpa [beL_len] using hq
        rcases q with _ | _ | _ | _ | _ | q
        · simp [isBin]
        · simp [isBin, beL_4]
        · simp [isBin, beL_4]
        · simp [isBin, beL_4]
        · simp [isBin, beL_4]
        · omega

theorem bz_all {n : Nat} {h b : List Int} (hh : HeadL n (-1) 0 formsB h) (hb : b.length = n) : (∀ l, dBz ((h ++ b) ++ l) = some (h.length, n)) ∧ ∀ q, q < (h ++ b).length → dBz ((h ++ b).take q) = none := by
  refine ⟨fun l => ?_, fun q hq => ?_⟩
  · obtain ⟨e, _⟩ := binHead hh (b ++ l)
    unfold dBz
    rw [List.append_assoc, e]
    simp only [Int.toNat_natCast]
    rw [if_pos (by simp; omega)]
  · by_cases h1 : q < h.length
    · rw [List.take_append_of_le_length (by omega)]
      exact dBz_none ((binHead hh []).2.2 q h1)
    · rw [List.take_append]
      rw [List.take_of_length_le (by omega)]
      obtain ⟨e, _⟩ := binHead hh (b.take (q - h.length))
      unfold dBz
      rw [e]
      simp only [Int.toNat_natCast]
      rw [List.length_append] at hq
      rw [if_neg (by simp; omega)]
theorem strOfNums_btL (t : ByteArray) : strOfNums (btL t) = t := by
  unfold strOfNums btL
  rcases t with ⟨⟨l⟩⟩
  simp [Function.comp_def]
end Go.Proofs.YtnahohkfkkemfaaDoor
