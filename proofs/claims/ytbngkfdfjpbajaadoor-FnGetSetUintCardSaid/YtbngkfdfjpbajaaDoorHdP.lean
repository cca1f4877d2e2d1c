/- The first byte of what spec.PutPack writes; bytes of numbers. -/
import Derived.Test.YtbngkfdfjpbajaaDoorPutPk0
import Derived.Test.YtbngkfdfjpbajaaDoorEnc
namespace Go.Proofs.YtbngkfdfjpbajaaDoor
open Go.RowKit
set_option linter.unusedVariables false
set_option linter.unusedSimpArgs false

theorem beL_1 (u : Int) : beL u 1 = [u % 256] := by simp [beL, List.range_succ, byteAt]
theorem beL_2 (u : Int) : beL u 2 = [u / 256 % 256, u % 256] := by simp [beL, List.range_succ, byteAt]
theorem beL_4 (u : Int) : beL u 4 = [u / 16777216 % 256, u / 65536 % 256, u / 256 % 256, u % 256] := by simp [beL, List.range_succ, byteAt]
theorem beL_8 (u : Int) : beL u 8 = [u / 72057594037927936 % 256, u / 281474976710656 % 256, u / 1099511627776 % 256, u / 4294967296 % 256, u / 16777216 % 256, u / 65536 % 256, u / 256 % 256, u % 256] := by simp [beL, List.range_succ, byteAt]
theorem beN_2 (u : Int) : beN [u / 256 % 256, u % 256] = u % 65536 := by simp [beN]; omega
theorem beN_4 (u : Int) : beN [u / 16777216 % 256, u / 65536 % 256, u / 256 % 256, u % 256] = u % 4294967296 := by simp [beN]; omega
theorem beN_8 (u : Int) : beN [u / 72057594037927936 % 256, u / 281474976710656 % 256, u / 1099511627776 % 256, u / 4294967296 % 256, u / 16777216 % 256, u / 65536 % 256, u / 256 % 256, u % 256] = u % 18446744073709551616 := by simp [beN]; omega

theorem may_mem {u : Int} {l : List (Int × Nat)} {f : Int × Nat} (h : f ∈ may u l) : f ∈ l ∧ (8 ≤ f.2 ∨ u / 2 ^ (8 * f.2) = 0) := by
  have := List.mem_filter.1 h
  refine ⟨this.1, ?_⟩
  have h2 := this.2
  simp only [holds, Bool.or_eq_true, decide_eq_true_eq] at h2
  exact h2

/-- The first bytes of a kind. -/
def HdOf (k z : Int) : Prop :=
  (k = 0 ∧ z = 192) ∨ (k = 1 ∧ (z = 194 ∨ z = 195)) ∨ ((k = 2 ∨ k = 3) ∧ (0 ≤ z ∧ z < 128 ∨ 224 ≤ z ∧ z < 256 ∨ 204 ≤ z ∧ z ≤ 211)) ∨ (k = 4 ∧ z = 202) ∨ (k = 5 ∧ z = 203) ∨
  (k = 6 ∧ (160 ≤ z ∧ z < 192 ∨ 217 ≤ z ∧ z ≤ 219)) ∨ (k = 7 ∧ 196 ≤ z ∧ z ≤ 198) ∨ (k = 8 ∧ (144 ≤ z ∧ z < 160 ∨ z = 220 ∨ z = 221)) ∨ (k = 9 ∧ (128 ≤ z ∧ z < 144 ∨ z = 222 ∨ z = 223)) ∨
  (k = 10 ∧ (199 ≤ z ∧ z ≤ 201 ∨ 212 ≤ z ∧ z ≤ 216))

theorem hd_nil {k z : Int} (h : k = 0 ∧ z = 192) : HdOf k z := .inl h
theorem hd_bool {k z : Int} (h : k = 1 ∧ (z = 194 ∨ z = 195)) : HdOf k z := .inr (.inl h)
theorem hd_int {k z : Int} (h : (k = 2 ∨ k = 3) ∧ (0 ≤ z ∧ z < 128 ∨ 224 ≤ z ∧ z < 256 ∨ 204 ≤ z ∧ z ≤ 211)) : HdOf k z := .inr (.inr (.inl h))
theorem hd_f32 {k z : Int} (h : k = 4 ∧ z = 202) : HdOf k z := .inr (.inr (.inr (.inl h)))
theorem hd_f64 {k z : Int} (h : k = 5 ∧ z = 203) : HdOf k z := .inr (.inr (.inr (.inr (.inl h))))
theorem hd_text {k z : Int} (h : k = 6 ∧ (160 ≤ z ∧ z < 192 ∨ 217 ≤ z ∧ z ≤ 219)) : HdOf k z := .inr (.inr (.inr (.inr (.inr (.inl h)))))
theorem hd_bin {k z : Int} (h : k = 7 ∧ 196 ≤ z ∧ z ≤ 198) : HdOf k z := .inr (.inr (.inr (.inr (.inr (.inr (.inl h))))))
theorem hd_arr {k z : Int} (h : k = 8 ∧ (144 ≤ z ∧ z < 160 ∨ z = 220 ∨ z = 221)) : HdOf k z := .inr (.inr (.inr (.inr (.inr (.inr (.inr (.inl h)))))))
theorem hd_map {k z : Int} (h : k = 9 ∧ (128 ≤ z ∧ z < 144 ∨ z = 222 ∨ z = 223)) : HdOf k z := .inr (.inr (.inr (.inr (.inr (.inr (.inr (.inr (.inl h))))))))
theorem hd_ext {k z : Int} (h : k = 10 ∧ (199 ≤ z ∧ z ≤ 201 ∨ 212 ≤ z ∧ z ≤ 216)) : HdOf k z := .inr (.inr (.inr (.inr (.inr (.inr (.inr (.inr (.inr (h)))))))))

theorem headL_hd {n : Nat} {fx : Int} {un : Nat} {l : List (Int × Nat)} {x : List Int} (h : HeadL n fx un l x) : ∃ z r, x = z :: r ∧ ((0 ≤ fx ∧ n < un ∧ z = fx + n ∧ r = []) ∨ ∃ f, f ∈ l ∧ (8 ≤ f.2 ∨ (n : Int) / 2 ^ (8 * f.2) = 0) ∧ z = f.1 ∧ r = beL n f.2) := by
  rcases h with ⟨h0, h1, rfl⟩ | ⟨f, hf, rfl⟩
  · exact ⟨_, _, rfl, .inl ⟨h0, h1, rfl, rfl⟩⟩
  · obtain ⟨hm, hh⟩ := may_mem hf
    exact ⟨_, _, rfl, .inr ⟨f, hm, hh, rfl, rfl⟩⟩

theorem pEnc_hd {k num : Int} {t : ByteArray} {ext : Int} {n : Nat} {l : List Int} (h0 : 0 ≤ num) (h1 : k = 1 → num ≤ 1) (h2 : num < 18446744073709551616) (h : PEnc k num t ext n l) : ∃ z r, l = z :: r ∧ HdOf k z := by
  rcases h with ⟨rfl, rfl⟩ | ⟨rfl, rfl⟩ | ⟨rfl, hn, h⟩ | ⟨hk, h⟩ | ⟨rfl, rfl⟩ | ⟨rfl, rfl⟩ | ⟨rfl, h, hh, rfl⟩ | ⟨rfl, h, hh, rfl⟩ | ⟨rfl, h, r, hh, rfl⟩ | ⟨rfl, h, r, hh, rfl⟩ | ⟨rfl, h, hh, rfl⟩
  · exact ⟨_, _, rfl, hd_nil ⟨rfl, rfl⟩⟩
  · exact ⟨_, _, rfl, hd_bool ⟨rfl, by have := h1 rfl; omega⟩⟩
  · rcases h with ⟨hg, rfl⟩ | ⟨i, k', hm, _, rfl⟩
    · exact ⟨_, _, rfl, hd_int ⟨.inl rfl, by omega⟩⟩
    · refine ⟨_, _, rfl, hd_int ⟨.inl rfl, ?_⟩⟩
      simp only [List.mem_cons, Prod.mk.injEq, List.not_mem_nil, or_false] at hm
      omega
  · have hk' : k = 2 ∨ k = 3 := by rcases hk with ⟨h, _⟩ | h; exact .inl h; exact .inr h
    rcases h with ⟨hg, rfl⟩ | ⟨f, hf, rfl⟩ | ⟨i, k', hm, _, rfl⟩
    · exact ⟨_, _, rfl, hd_int ⟨hk', by omega⟩⟩
    · obtain ⟨hm, _⟩ := may_mem hf
      refine ⟨_, _, rfl, hd_int ⟨hk', ?_⟩⟩
      simp only [List.mem_cons, List.not_mem_nil, or_false] at hm
      rcases hm with rfl | rfl | rfl | rfl <;> simp
    · refine ⟨_, _, rfl, hd_int ⟨hk', ?_⟩⟩
      simp only [List.mem_cons, Prod.mk.injEq, List.not_mem_nil, or_false] at hm
      omega
  · exact ⟨_, _, rfl, hd_f32 ⟨rfl, rfl⟩⟩
  · exact ⟨_, _, rfl, hd_f64 ⟨rfl, rfl⟩⟩
  · obtain ⟨z, r', rfl, h3⟩ := headL_hd hh
    refine ⟨_, _, rfl, hd_text ⟨rfl, ?_⟩⟩
    rcases h3 with ⟨_, _, rfl, _⟩ | ⟨f, hm, _, rfl, _⟩
    · omega
    · simp only [List.mem_cons, List.not_mem_nil, or_false] at hm
      rcases hm with rfl | rfl | rfl <;> simp
  · obtain ⟨z, r', rfl, h3⟩ := headL_hd hh
    refine ⟨_, _, rfl, hd_bin ⟨rfl, ?_⟩⟩
    rcases h3 with ⟨_, _, rfl, _⟩ | ⟨f, hm, _, rfl, _⟩
    · omega
    · simp only [List.mem_cons, List.not_mem_nil, or_false] at hm
      rcases hm with rfl | rfl | rfl <;> simp
  · obtain ⟨z, r', rfl, h3⟩ := headL_hd hh
    refine ⟨_, _, rfl, hd_arr ⟨rfl, ?_⟩⟩
    rcases h3 with ⟨_, _, rfl, _⟩ | ⟨f, hm, _, rfl, _⟩
    · omega
    · simp only [List.mem_cons, List.not_mem_nil, or_false] at hm
      rcases hm with rfl | rfl <;> simp
  · obtain ⟨z, r', rfl, h3⟩ := headL_hd hh
    refine ⟨_, _, rfl, hd_map ⟨rfl, ?_⟩⟩
    rcases h3 with ⟨_, _, rfl, _⟩ | ⟨f, hm, _, rfl, _⟩
    · omega
    · simp only [List.mem_cons, List.not_mem_nil, or_false] at hm
      rcases hm with rfl | rfl <;> simp
  · rcases hh with ⟨i, k', hm, _, rfl⟩ | ⟨f, hf, rfl⟩
    · refine ⟨_, _, rfl, hd_ext ⟨rfl, ?_⟩⟩
      simp only [List.mem_cons, Prod.mk.injEq, List.not_mem_nil, or_false] at hm
      omega
    · obtain ⟨hm, _⟩ := may_mem hf
      refine ⟨_, _, rfl, hd_ext ⟨rfl, ?_⟩⟩
      simp only [List.mem_cons, List.not_mem_nil, or_false] at hm
      rcases hm with rfl | rfl | rfl <;> simp

/-- The first byte of a value, whole. -/
theorem enc_hd {k num ext : Int} {t : ByteArray} {ks : List Pk} {x : List Int} (hf : (Pk.mk k num t ext ks).fits) (h0 : 0 ≤ num) (h2 : num < 18446744073709551616) (h : (Pk.mk k num t ext ks).Enc x) : ∃ z r, x = z :: r ∧ HdOf k z := by
  obtain ⟨hf1, hf2⟩ : FitN k num t.size ext ks.length ∧ Pk.fitsL ks := hf
  simp only [Pk.Enc] at h
  rcases h with ⟨_, h⟩ | ⟨rfl, h, r, hh, _, rfl⟩ | ⟨rfl, h, r, hh, _, rfl⟩
  · exact pEnc_hd h0 hf1.2.2.1 h2 h
  · exact pEnc_hd (n := ks.length) (t := t) (ext := ext) h0 (fun h => by omega) h2 (.inr (.inr (.inr (.inr (.inr (.inr (.inr (.inr (.inl ⟨rfl, h, r, hh, rfl⟩)))))))))
  · exact pEnc_hd (n := ks.length) (t := t) (ext := ext) h0 (fun h => by omega) h2 (.inr (.inr (.inr (.inr (.inr (.inr (.inr (.inr (.inr (.inl ⟨rfl, h, r, hh, rfl⟩))))))))))
/-- Of a kind without kids, the value itself. -/
theorem enc_leaf {k num ext : Int} {t : ByteArray} {ks : List Pk} {x : List Int} (hk : k ≠ 8 ∧ k ≠ 9) (h : (Pk.mk k num t ext ks).Enc x) : PEnc k num t ext ks.length x := by
  simp only [Pk.Enc] at h
  rcases h with ⟨_, h⟩ | ⟨rfl, _⟩ | ⟨rfl, _⟩
  · exact h
  · exact absurd rfl hk.1
  · exact absurd rfl hk.2
end Go.Proofs.YtbngkfdfjpbajaaDoor
