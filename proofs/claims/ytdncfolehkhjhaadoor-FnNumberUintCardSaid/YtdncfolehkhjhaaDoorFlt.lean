/- Floats read exactly: cut to a whole number, compared, written back; the test of the code for a whole number. -/
import Derived.Laws.FloatArith
import Derived.Lib.TrailingZeros
namespace Go.Proofs.YtdncfolehkhjhaaDoor
open Go Ieee
set_option linter.unusedVariables false
set_option linter.unusedSimpArgs false

/-- The magnitude of a number in units of 2^-1074. -/
def vv (m : Nat) (e : Int) : Nat := m * 2 ^ (e + 1074).toNat

theorem signed_eq (s : Bool) (m a : Nat) : signed s m a = if s then -((m * 2 ^ a : Nat) : Int) else ((m * 2 ^ a : Nat) : Int) := by
  unfold signed; simp [Nat.shiftLeft_eq]
theorem signed_mul (s : Bool) (m a b : Nat) : signed s m (a + b) = signed s m a * ((2 ^ b : Nat) : Int) := by
  rw [signed_eq, signed_eq]
  cases s <;> simp [Nat.pow_add, Int.natCast_mul, Int.mul_assoc, Int.neg_mul]
def sv (s : Bool) (v : Nat) : Int := if s then -(v : Int) else v
theorem signed_vv (s : Bool) (m : Nat) (e : Int) : signed s m (e + 1074).toNat = sv s (vv m e) := by
  rw [signed_eq]; rfl
theorem compare_mul (x y : Int) (c : Nat) (hc : 0 < c) : compare (x * (c : Int)) (y * (c : Int)) = compare x y := by
  have hc' : (0 : Int) < c := by omega
  simp only [compare, compareOfLessAndEq]
  by_cases h : x < y
  · rw [if_pos (Int.mul_lt_mul_of_pos_right h hc'), if_pos h]
  · by_cases h2 : x = y
    · subst h2; simp
    · have h3 : y < x := by omega
      have h4 := Int.mul_lt_mul_of_pos_right h3 hc'
      rw [if_neg (by omega), if_neg (by omega), if_neg h, if_neg h2]
theorem order_num (s t : Bool) (m n : Nat) (i j : Int) (hi : -1074 ≤ i) (hj : -1074 ≤ j) :
    (Datum.number s m i).order (.number t n j) = some (compare (sv s (vv m i)) (sv t (vv n j))) := by
  simp only [Datum.order, Option.some.injEq]
  obtain ⟨k, hk⟩ : ∃ k : Nat, min i j = (k : Int) - 1074 := ⟨(min i j + 1074).toNat, by omega⟩
  rw [← signed_vv, ← signed_vv, show (i + 1074).toNat = (i - min i j).toNat + k by omega, show (j + 1074).toNat = (j - min i j).toNat + k by omega, signed_mul, signed_mul, compare_mul _ _ _ (Nat.two_pow_pos k)]

/-- Cut towards zero. -/
theorem toInt_num (s : Bool) (m : Nat) (e : Int) (he : -1074 ≤ e) : (Datum.number s m e).toInt .zero = some (sv s (vv m e / 2 ^ 1074)) := by
  have key : Toward.zero.cut s (m <<< e.toNat) (-e).toNat = vv m e / 2 ^ 1074 := by
    simp only [Toward.cut, Bool.toNat_false, Nat.add_zero, Nat.shiftLeft_eq, Nat.one_mul]
    unfold vv
    by_cases h0 : 0 ≤ e
    · obtain ⟨k, rfl⟩ : ∃ k : Nat, e = k := ⟨e.toNat, by omega⟩
      have hz : (-(k : Int)).toNat = 0 := by omega
      have hp := Nat.two_pow_pos 1074
      rw [hz, show ((k : Int) + 1074).toNat = k + 1074 by omega, Nat.pow_add, ← Nat.mul_assoc]
      generalize 2 ^ 1074 = D at hp ⊢
      simp only [Int.toNat_natCast, Nat.zero_min, Nat.pow_zero, Nat.div_one]
      rw [Nat.mul_div_cancel _ hp]
    · obtain ⟨k, hk⟩ : ∃ k : Nat, e = -(k : Int) := ⟨(-e).toNat, by omega⟩
      subst hk
      have e1 : (-(k : Int)).toNat = 0 := by omega
      have e2 : (- -(k : Int)).toNat = k := by omega
      rw [e1, e2]
      simp only [Nat.pow_zero, Nat.mul_one]
      have hkk : k ≤ 1074 := by omega
      rw [show (-(k : Int) + 1074).toNat = 1074 - k by omega]
      have : m * 2 ^ (1074 - k) / 2 ^ 1074 = m / 2 ^ k := by
        have e3 : (2 : Nat) ^ 1074 = 2 ^ k * 2 ^ (1074 - k) := by rw [← Nat.pow_add]; congr 1; omega
        rw [e3]
        exact Nat.mul_div_mul_right m (2 ^ k) (Nat.two_pow_pos _)
      rw [this]
      by_cases hl : k ≤ m.log2 + 2
      · rw [Nat.min_eq_left hl]
      · rw [Nat.min_eq_right (by omega)]
        have h1 : m < 2 ^ (m.log2 + 1) := Nat.lt_log2_self
        have h2 : 2 ^ (m.log2 + 1) ≤ 2 ^ (m.log2 + 2) := Nat.pow_le_pow_right (by omega) (by omega)
        have h3 : 2 ^ (m.log2 + 2) ≤ 2 ^ k := Nat.pow_le_pow_right (by omega) (by omega)
        rw [Nat.div_eq_of_lt (by omega), Nat.div_eq_of_lt (by omega)]
  simp only [Datum.toInt, Datum.integral, key, signed_eq]
  generalize vv m e / 2 ^ 1074 = q
  simp [sv]

theorem d_least : double.leastPlace = -1074 := by decide
theorem d_binade : double.binade = 4503599627370496 := by decide
theorem d_inf : double.infRung = 9218868437227405312 := by decide
theorem d_sign : double.signWeight = 9223372036854775808 := by decide
theorem d_frac : double.fractionBits = 52 := rfl
theorem read_double (x : Nat) : double.read x = (if x % 9223372036854775808 / 4503599627370496 = 0 then .number (x / 9223372036854775808 % 2 == 1) (x % 4503599627370496) (-1074)
    else if x % 9223372036854775808 / 4503599627370496 < 2047 then .number (x / 9223372036854775808 % 2 == 1) (4503599627370496 + x % 4503599627370496) ((x % 9223372036854775808 / 4503599627370496 : Nat) - 1075)
    else if x % 4503599627370496 = 0 then .infinity (x / 9223372036854775808 % 2 == 1) else .nan (x / 9223372036854775808 % 2 == 1) (x % 4503599627370496)) := by
  unfold Format.read
  simp only [d_least, d_binade, d_inf, d_sign]
  have e1 : x % 9223372036854775808 % 4503599627370496 = x % 4503599627370496 := by omega
  by_cases h1 : x % 9223372036854775808 / 4503599627370496 = 0
  · rw [if_pos (by omega), if_pos h1, show x % 9223372036854775808 = x % 4503599627370496 by omega]
  · rw [if_neg (by omega), if_neg h1]
    by_cases h2 : x % 9223372036854775808 / 4503599627370496 < 2047
    · rw [if_pos (by omega), if_pos h2, e1]
      congr 1
      omega
    · rw [if_neg (by omega), if_neg h2]
      by_cases h3 : x % 4503599627370496 = 0
      · rw [if_pos (by omega), if_pos h3]
      · rw [if_neg (by omega), if_neg h3, show x % 9223372036854775808 - 9218868437227405312 = x % 4503599627370496 by omega]

set_option maxRecDepth 20000 in
theorem cut_even (s : Bool) (a d k : Nat) (h : a = k * 2 ^ d) : Toward.even.cut s a d = k := by
  subst h
  simp only [Toward.cut, Nat.shiftLeft_eq, Nat.one_mul]
  by_cases hk : k = 0
  · subst hk; simp
  have hl : d ≤ (k * 2 ^ d).log2 := by
    rw [Nat.le_log2 (Nat.mul_ne_zero hk (Nat.ne_of_gt (Nat.two_pow_pos d)))]
    exact Nat.le_mul_of_pos_left _ (by omega)
  rw [Nat.min_eq_left (by omega), Nat.mul_div_cancel _ (Nat.two_pow_pos d), Nat.mul_mod_left]
  have := Nat.two_pow_pos d
  have h2 : decide (2 ^ d < 2 * 0) = false := by simp
  have h3 : (2 ^ d == 2 * 0) = false := by simp
  rw [h2, h3]
  rfl

set_option maxRecDepth 20000 in
theorem near (s : Bool) (m : Nat) (e last : Int) (hm : m ≠ 0) (hl : last = e + m.log2 - 52) (he : -1074 ≤ e) (h0 : -1074 ≤ last) (h1 : last ≤ 971) (hx : last ≤ e ∨ ∃ k, m = k * 2 ^ (last - e).toNat) :
    ∃ M, double.read (double.nearest s m e) = .number s M last ∧ vv M last = vv m e := by
  obtain ⟨kept, hk, hv⟩ : ∃ kept, Toward.even.cut s (m <<< (e - last).toNat) (last - e).toNat = kept ∧ kept * 2 ^ (last - e).toNat = m * 2 ^ (e - last).toNat := by
    rcases hx with h | ⟨k, hk⟩
    · refine ⟨m * 2 ^ (e - last).toNat, ?_, ?_⟩
      · rw [Nat.shiftLeft_eq]
        exact cut_even s _ _ _ (by rw [show (last - e).toNat = 0 by omega]; simp)
      · rw [show (last - e).toNat = 0 by omega]; simp
    · by_cases h : last ≤ e
      · refine ⟨m * 2 ^ (e - last).toNat, ?_, ?_⟩
        · rw [Nat.shiftLeft_eq]
          exact cut_even s _ _ _ (by rw [show (last - e).toNat = 0 by omega]; simp)
        · rw [show (last - e).toNat = 0 by omega]; simp
      · refine ⟨k, ?_, ?_⟩
        · rw [Nat.shiftLeft_eq, show (e - last).toNat = 0 by omega]
          exact cut_even s _ _ _ (by simpa using hk)
        · rw [show (e - last).toNat = 0 by omega]; omega
  have hA := Nat.log2_self_le hm
  have hB : m < 2 ^ (m.log2 + 1) := Nat.lt_log2_self
  have hkb : 4503599627370496 ≤ kept ∧ kept < 9007199254740992 := by
    by_cases h : last ≤ e
    · rw [show (last - e).toNat = 0 by omega] at hv
      have h52 : (e - last).toNat + m.log2 = 52 := by omega
      have h3 : 2 ^ m.log2 * 2 ^ (e - last).toNat = 2 ^ 52 := by rw [← Nat.pow_add]; congr 1; omega
      have h4 : 2 ^ (m.log2 + 1) * 2 ^ (e - last).toNat = 2 ^ 53 := by rw [← Nat.pow_add]; congr 1; omega
      have h5 := Nat.mul_le_mul_right (2 ^ (e - last).toNat) hA
      have h6 := Nat.mul_lt_mul_of_pos_right hB (Nat.two_pow_pos (e - last).toNat)
      rw [← hv] at h5 h6
      rw [h3] at h5
      rw [h4] at h6
      omega
    · rw [show (e - last).toNat = 0 by omega] at hv
      have h3 : 2 ^ m.log2 = 2 ^ 52 * 2 ^ (last - e).toNat := by rw [← Nat.pow_add]; congr 1; omega
      have h4 : 2 ^ (m.log2 + 1) = 2 ^ 53 * 2 ^ (last - e).toNat := by rw [← Nat.pow_add]; congr 1; omega
      rw [h3] at hA
      rw [h4] at hB
      rw [show m = kept * 2 ^ (last - e).toNat by omega] at hA hB
      have h5 := Nat.le_of_mul_le_mul_right hA (Nat.two_pow_pos _)
      have h6 := Nat.lt_of_mul_lt_mul_right hB
      omega
  refine ⟨kept, ?_, ?_⟩
  · unfold Format.nearest
    rw [if_neg hm]
    simp only [d_least, d_binade, d_inf, d_frac]
    rw [show max (e + (m.log2 : Int) - (52 : Nat)) (-1074) = last by omega, hk]
    obtain ⟨q, hq⟩ : ∃ q : Nat, last = (q : Int) - 1074 := ⟨(last + 1074).toNat, by omega⟩
    rw [show (last - -1074).toNat = q by omega, Nat.min_eq_left (by omega)]
    have hr : ∀ b : Nat, b ≤ 1 → double.read (9223372036854775808 * b + (q * 4503599627370496 + kept)) = .number (b == 1) kept last := by
      intro b hb
      rw [read_double]
      rw [show (9223372036854775808 * b + (q * 4503599627370496 + kept)) % 9223372036854775808 / 4503599627370496 = q + 1 by omega, if_neg (by omega), if_pos (by omega), show (9223372036854775808 * b + (q * 4503599627370496 + kept)) / 9223372036854775808 % 2 = b by omega, show 4503599627370496 + (9223372036854775808 * b + (q * 4503599627370496 + kept)) % 4503599627370496 = kept by omega]
      congr 1
      omega
    unfold Format.word
    rw [d_sign]
    cases s
    · have := hr 0 (by omega)
      simpa using this
    · have := hr 1 (by omega)
      simpa using this
  · unfold vv
    by_cases h : last ≤ e
    · rw [show (last - e).toNat = 0 by omega] at hv
      rw [show (e + 1074).toNat = (e - last).toNat + (last + 1074).toNat by omega, Nat.pow_add, ← Nat.mul_assoc, ← hv]
      simp
    · rw [show (e - last).toNat = 0 by omega] at hv
      rw [show (last + 1074).toNat = (last - e).toNat + (e + 1074).toNat by omega, Nat.pow_add, ← Nat.mul_assoc, hv]
      simp

theorem pow_split (a b c : Nat) (h : a + b = c) : 2 ^ c = 2 ^ a * 2 ^ b := h ▸ Nat.pow_add 2 a b
theorem vv_zero (e : Int) : vv 0 e = 0 := by simp [vv]
set_option maxRecDepth 20000 in
/-- A number cut towards zero, within 2^62: as a float it is that whole number. -/
theorem back (s : Bool) (m : Nat) (e : Int) (hm : m < 2 ^ 53) (he : -1074 ≤ e) (hb : vv m e ≤ 2 ^ 62 * 2 ^ 1074) (n : Int) (hn : n = sv s (vv m e / 2 ^ 1074)) :
    ∃ s' M E, double.read (double.nearest (n < 0) n.natAbs 0) = .number s' M E ∧ -1074 ≤ E ∧ sv s' (vv M E) = n * ((2 ^ 1074 : Nat) : Int) := by
  obtain ⟨q, hq⟩ : ∃ q, q = vv m e / 2 ^ 1074 := ⟨_, rfl⟩
  rw [← hq] at hn
  have hab : n.natAbs = q := by rw [hn]; unfold sv; split <;> omega
  have hq2 : q ≤ 2 ^ 62 := by
    rw [hq]
    have hp := Nat.two_pow_pos 1074
    generalize 2 ^ 1074 = D at hp hb ⊢
    exact Nat.div_le_of_le_mul (Nat.le_trans hb (Nat.le_of_eq (Nat.mul_comm _ _)))
  rw [hab]
  by_cases h0 : q = 0
  · subst h0
    have hn0 : n = 0 := by omega
    subst hn0
    refine ⟨false, 0, -1074, by decide +kernel, by omega, ?_⟩
    rw [vv_zero]
    generalize 2 ^ 1074 = D
    simp [sv]
  · have hl62 : q.log2 ≤ 62 := by
      have h1 := Nat.log2_self_le h0
      have h2 : 2 ^ q.log2 < 2 ^ 63 := Nat.lt_of_le_of_lt (Nat.le_trans h1 hq2) (by decide)
      have := (Nat.pow_lt_pow_iff_right (by omega : 1 < 2)).1 h2
      omega
    have hx : ((q.log2 : Int) - 52 ≤ 0 ∨ ∃ k, q = k * 2 ^ ((q.log2 : Int) - 52 - 0).toNat) := by
      by_cases h52 : q.log2 ≤ 52
      · exact .inl (by omega)
      · right
        by_cases hp : 0 ≤ e
        · have hqe : q = m * 2 ^ e.toNat := by
            rw [hq]; unfold vv
            have hp := Nat.two_pow_pos 1074
            rw [show (e + 1074).toNat = e.toNat + 1074 by omega, Nat.pow_add, ← Nat.mul_assoc]
            generalize 2 ^ 1074 = D at hp ⊢
            exact Nat.mul_div_cancel _ hp
          have h3 : q < 2 ^ (53 + e.toNat) := by rw [hqe, Nat.pow_add]; exact Nat.mul_lt_mul_of_pos_right hm (Nat.two_pow_pos _)
          have h4 := (Nat.log2_lt h0).2 h3
          refine ⟨m * 2 ^ (e.toNat - ((q.log2 : Int) - 52 - 0).toNat), ?_⟩
          rw [Nat.mul_assoc, ← Nat.pow_add, show e.toNat - ((q.log2 : Int) - 52 - 0).toNat + ((q.log2 : Int) - 52 - 0).toNat = e.toNat by omega, ← hqe]
        · exfalso
          have hv : vv m e ≤ m * 2 ^ 1074 := by
            have hle : (e + 1074).toNat ≤ 1074 := by omega
            unfold vv
            generalize (1074 : Nat) = N at hle ⊢
            exact Nat.mul_le_mul_left _ (Nat.pow_le_pow_right (by omega) hle)
          have h3 : q ≤ m := by
            rw [hq]
            generalize 2 ^ 1074 = D at hv ⊢
            exact Nat.div_le_of_le_mul (Nat.le_trans hv (Nat.le_of_eq (Nat.mul_comm _ _)))
          have h4 := (Nat.log2_lt h0).2 (Nat.lt_of_le_of_lt h3 hm)
          omega
    obtain ⟨M, hM, hv⟩ := near (decide (n < 0)) q 0 ((q.log2 : Int) - 52) h0 (by omega) (by omega) (by omega) (by omega) hx
    refine ⟨_, M, _, hM, by omega, ?_⟩
    rw [hv]
    unfold vv sv
    have e1 : ((0 : Int) + 1074).toNat = 1074 := rfl
    rw [e1]
    clear hq hq2 hb hx hM hv hl62 hn e1
    by_cases hlt : n < 0
    · rw [if_pos (by simpa using hlt), Int.natCast_mul, ← Int.neg_mul]
      congr 1
      omega
    · rw [if_neg (by simpa using hlt), Int.natCast_mul]
      congr 1
      omega

theorem sv_eq (s : Bool) (v : Nat) (n : Int) (hn : n = sv s (v / 2 ^ 1074)) : (n * ((2 ^ 1074 : Nat) : Int) = sv s v) ↔ v % 2 ^ 1074 = 0 := by
  have hp := Nat.two_pow_pos 1074
  generalize 2 ^ 1074 = D at *
  have hd := Nat.div_add_mod v D
  have : n * (D : Int) = sv s (D * (v / D)) := by
    rw [hn]; unfold sv
    cases s
    · simp [Int.natCast_mul, Int.mul_comm]
    · simp [Int.natCast_mul, Int.mul_comm, Int.neg_mul, Int.mul_neg]
  rw [this]
  unfold sv
  cases s
  · simp only [Bool.false_eq_true, if_false]; omega
  · simp only [if_true]; omega

/-- Divided by 2^1074. -/
theorem whole_iff (N mB M a : Nat) (hM : M < 2 ^ mB) : ((2 ^ mB + M) * 2 ^ a) % 2 ^ N = 0 ↔ (N ≤ a ∨ (N - a ≤ mB ∧ M % 2 ^ (N - a) = 0)) := by
  by_cases h : N ≤ a
  · constructor
    · intro _; exact .inl h
    · intro _
      rw [show a = (a - N) + N by omega, Nat.pow_add, ← Nat.mul_assoc, Nat.mul_mod_left]
  · have e1 : (2 : Nat) ^ N = 2 ^ (N - a) * 2 ^ a := by rw [← Nat.pow_add]; congr 1; omega
    rw [e1, Nat.mul_mod_mul_right]
    have hpa := Nat.two_pow_pos a
    obtain ⟨k, hk⟩ : ∃ k, k = N - a := ⟨_, rfl⟩
    rw [← hk]
    have hk0 : 0 < k := by omega
    have hmul : (2 ^ mB + M) % 2 ^ k * 2 ^ a = 0 ↔ (2 ^ mB + M) % 2 ^ k = 0 := by
      constructor
      · intro h2
        rcases Nat.mul_eq_zero.1 h2 with h3 | h3
        · exact h3
        · omega
      · intro h2; rw [h2]; simp
    rw [hmul]
    by_cases hkm : k ≤ mB
    · have e2 : (2 : Nat) ^ mB = 2 ^ (mB - k) * 2 ^ k := by rw [← Nat.pow_add]; congr 1; omega
      rw [e2, Nat.add_comm, Nat.add_mul_mod_self_right]
      constructor
      · intro h2; exact .inr ⟨by omega, h2⟩
      · rintro (h2 | ⟨_, h2⟩)
        · exact absurd h2 h
        · exact h2
    · constructor
      · intro h2
        exfalso
        have h3 : 2 ^ (mB + 1) ≤ 2 ^ k := Nat.pow_le_pow_right (by omega) (by omega)
        rw [Nat.mod_eq_of_lt (by rw [Nat.pow_succ] at h3; omega)] at h2
        have := Nat.two_pow_pos mB
        omega
      · rintro (h2 | ⟨h2, _⟩)
        · exact absurd h2 h
        · omega

theorem ctz_iff (M k : Nat) (hM : M < 2 ^ 64) (hk : k ≤ 64) : k ≤ Go.Lib.ctz 64 M ↔ M % 2 ^ k = 0 := by
  unfold Go.Lib.ctz
  by_cases h0 : M = 0
  · subst h0; simp; exact hk
  · rw [if_neg h0]
    obtain ⟨m, hm, hc⟩ := Go.Lib.ctzFrom_spec 64 M (by omega) hM
    generalize Go.Lib.ctzFrom 64 M = c at *
    constructor
    · intro h
      rw [hm, show c = (c - k) + k by omega, Nat.pow_add, Nat.mul_assoc, Nat.mul_comm (2 ^ k), ← Nat.mul_assoc, Nat.mul_mod_left]
    · intro h
      by_cases hlt : k ≤ c
      · exact hlt
      · exfalso
        have e1 : (2 : Nat) ^ k = 2 ^ c * 2 ^ (k - c) := by rw [← Nat.pow_add]; congr 1; omega
        rw [hm, e1, Nat.mul_mod_mul_left] at h
        have h2 : (2 * m + 1) % 2 ^ (k - c) = 0 := by
          rcases Nat.mul_eq_zero.1 h with h3 | h3
          · have := Nat.two_pow_pos c; omega
          · exact h3
        have e2 : (2 : Nat) ^ (k - c) = 2 ^ (k - c - 1) * 2 := by rw [← Nat.pow_succ]; congr 1; omega
        rw [e2] at h2
        have h3 := Nat.mod_mul_left_mod (2 * m + 1) (2 ^ (k - c - 1)) 2
        omega

/-- Does the code call the bits of a float of 64 bits a whole number. -/
def ex64 (x : Nat) : Bool := if x / 4503599627370496 % 2048 = 0 ∧ x % 4503599627370496 = 0 then true else if x / 4503599627370496 % 2048 < 1023 ∨ x / 4503599627370496 % 2048 = 2047 then false else
  if 1075 ≤ x / 4503599627370496 % 2048 then true else decide (1075 - x / 4503599627370496 % 2048 ≤ Go.Lib.ctz 64 (x % 4503599627370496))
def Ex64 (x : Nat) : Datum → Prop
  | .number s m e => m < 2 ^ 53 ∧ -1074 ≤ e ∧ e ≤ 971 ∧ ex64 x = decide (vv m e % 2 ^ 1074 = 0) ∧ s = (x / 9223372036854775808 % 2 == 1) ∧ (m = 0 ↔ x % 9223372036854775808 = 0)
  | .infinity s => ex64 x = false ∧ s = (x / 9223372036854775808 % 2 == 1) ∧ x % 9223372036854775808 ≠ 0
  | .nan _ _ => ex64 x = false ∧ x % 9223372036854775808 ≠ 0
set_option maxRecDepth 20000 in
theorem ex64_read (x : Nat) : Ex64 x (double.read x) := by
  rw [read_double]
  have hE : x % 9223372036854775808 / 4503599627370496 = x / 4503599627370496 % 2048 := by omega
  rw [hE]
  obtain ⟨E, hEe⟩ : ∃ E, E = x / 4503599627370496 % 2048 := ⟨_, rfl⟩
  obtain ⟨M, hMe⟩ : ∃ M, M = x % 4503599627370496 := ⟨_, rfl⟩
  have hr : x % 9223372036854775808 = E * 4503599627370496 + M := by omega
  have hE2 : E < 2048 := by omega
  have hM2 : M < 4503599627370496 := by omega
  have hex : ex64 x = if E = 0 ∧ M = 0 then true else if E < 1023 ∨ E = 2047 then false else if 1075 ≤ E then true else decide (1075 - E ≤ Go.Lib.ctz 64 M) := by unfold ex64; rw [← hEe, ← hMe]
  rw [← hEe, ← hMe]
  by_cases h0 : E = 0
  · rw [if_pos h0]
    refine ⟨by omega, by omega, by omega, ?_, rfl, by omega⟩
    rw [hex]
    have e1 : vv M (-1074) = M := by simp [vv]
    rw [e1, Nat.mod_eq_of_lt (Nat.lt_of_lt_of_le hM2 (by decide +kernel))]
    by_cases hm : M = 0
    · rw [if_pos ⟨h0, hm⟩]; simp [hm]
    · rw [if_neg (by omega), if_pos (by omega)]; simp [hm]
  · rw [if_neg h0]
    by_cases h1 : E < 2047
    · rw [if_pos h1]
      refine ⟨by omega, by omega, by omega, ?_, rfl, by omega⟩
      have e1 : vv (4503599627370496 + M) ((E : Int) - 1075) = (2 ^ 52 + M) * 2 ^ (E - 1) := by
        unfold vv; rw [show ((E : Int) - 1075 + 1074).toNat = E - 1 by omega]
      have hw := whole_iff 1074 52 M (E - 1) hM2
      rw [← e1] at hw
      have hc := fun hk => ctz_iff M (1074 - (E - 1)) (by omega) hk
      rw [hex, if_neg (by omega)]
      generalize 2 ^ 1074 = D at hw ⊢
      by_cases h2 : E < 1023
      · rw [if_pos (by omega)]
        symm
        rw [decide_eq_false_iff_not, hw]
        omega
      · rw [if_neg (by omega)]
        by_cases h3 : 1075 ≤ E
        · rw [if_pos h3]
          symm
          rw [decide_eq_true_iff, hw]
          omega
        · rw [if_neg h3]
          have hc := hc (by omega)
          rw [decide_eq_decide, hw, show 1075 - E = 1074 - (E - 1) by omega, hc]
          constructor
          · intro h; exact .inr ⟨by omega, h⟩
          · rintro (h | ⟨_, h⟩)
            · omega
            · exact h
    · rw [if_neg h1]
      have hf : ex64 x = false := by rw [hex, if_neg (by omega), if_pos (by omega)]
      by_cases h2 : M = 0
      · rw [if_pos h2]; exact ⟨hf, rfl, by omega⟩
      · rw [if_neg h2]; exact ⟨hf, by omega⟩

theorem s_least : single.leastPlace = -149 := by decide
theorem s_binade : single.binade = 8388608 := by decide
theorem s_inf : single.infRung = 2139095040 := by decide
theorem s_sign : single.signWeight = 2147483648 := by decide
theorem read_single (x : Nat) : single.read x = (if x / 8388608 % 256 = 0 then .number (x / 2147483648 % 2 == 1) (x % 8388608) (-149)
    else if x / 8388608 % 256 < 255 then .number (x / 2147483648 % 2 == 1) (8388608 + x % 8388608) ((x / 8388608 % 256 : Nat) - 150)
    else if x % 8388608 = 0 then .infinity (x / 2147483648 % 2 == 1) else .nan (x / 2147483648 % 2 == 1) (x % 8388608)) := by
  unfold Format.read
  simp only [s_least, s_binade, s_inf, s_sign]
  have e1 : x % 2147483648 % 8388608 = x % 8388608 := by omega
  by_cases h1 : x / 8388608 % 256 = 0
  · rw [if_pos (by omega), if_pos h1, show x % 2147483648 = x % 8388608 by omega]
  · rw [if_neg (by omega), if_neg h1]
    by_cases h2 : x / 8388608 % 256 < 255
    · rw [if_pos (by omega), if_pos h2, e1, show x % 2147483648 / 8388608 = x / 8388608 % 256 by omega]
      congr 1
      omega
    · rw [if_neg (by omega), if_neg h2]
      by_cases h3 : x % 8388608 = 0
      · rw [if_pos (by omega), if_pos h3]
      · rw [if_neg (by omega), if_neg h3, show x % 2147483648 - 2139095040 = x % 8388608 by omega]
def ex32 (x : Nat) : Bool := if x / 8388608 % 256 = 0 ∧ x % 8388608 = 0 then true else if x / 8388608 % 256 < 127 ∨ x / 8388608 % 256 = 255 then false else
  if 150 ≤ x / 8388608 % 256 then true else decide (150 - x / 8388608 % 256 ≤ Go.Lib.ctz 64 (x % 8388608))
/-- A float of 32 bits, and what it is as one of 64 bits. -/
def Ex32 (x : Nat) : Datum → Prop
  | .number s m e => ∃ M E, double.read (double.nearest s m e) = .number s M E ∧ vv M E = vv m e ∧ -1074 ≤ E ∧ M < 2 ^ 53 ∧ -1074 ≤ e ∧ ex32 x = decide (vv m e % 2 ^ 1074 = 0) ∧ s = (x / 2147483648 % 2 == 1) ∧ (m = 0 ↔ x % 2147483648 = 0) ∧ (vv m e = 0 ↔ m = 0)
  | .infinity s => ex32 x = false ∧ s = (x / 2147483648 % 2 == 1) ∧ x % 2147483648 ≠ 0
  | .nan _ _ => ex32 x = false ∧ x % 2147483648 ≠ 0
theorem vv_eq_zero (m : Nat) (e : Int) : vv m e = 0 ↔ m = 0 := by
  unfold vv
  constructor
  · intro h
    rcases Nat.mul_eq_zero.1 h with h | h
    · exact h
    · have := Nat.two_pow_pos (e + 1074).toNat; omega
  · rintro rfl; simp
theorem near32 (s : Bool) (m : Nat) (e : Int) (hm : m < 16777216) (he : -149 ≤ e) (he2 : e ≤ 104) : ∃ M E, double.read (double.nearest s m e) = .number s M E ∧ vv M E = vv m e ∧ -1074 ≤ E ∧ M < 2 ^ 53 := by
  by_cases h0 : m = 0
  · subst h0
    refine ⟨0, -1074, ?_, by simp [vv], by omega, by decide⟩
    cases s
    · simp only [Format.nearest, if_true]; decide +kernel
    · simp only [Format.nearest, if_true]; decide +kernel
  · have hl : m.log2 < 24 := (Nat.log2_lt h0).2 (by omega)
    obtain ⟨M, hM, hv⟩ := near s m e (e + m.log2 - 52) h0 rfl (by omega) (by omega) (by omega) (.inl (by omega))
    have hx := ex64_read (double.nearest s m e)
    rw [hM] at hx
    exact ⟨M, _, hM, hv, by omega, hx.1⟩
set_option maxRecDepth 20000 in
theorem ex32_read (x : Nat) : Ex32 x (single.read x) := by
  rw [read_single]
  obtain ⟨E, hEe⟩ : ∃ E, E = x / 8388608 % 256 := ⟨_, rfl⟩
  obtain ⟨M, hMe⟩ : ∃ M, M = x % 8388608 := ⟨_, rfl⟩
  have hr : x % 2147483648 = E * 8388608 + M := by omega
  have hE2 : E < 256 := by omega
  have hM2 : M < 8388608 := by omega
  have hex : ex32 x = if E = 0 ∧ M = 0 then true else if E < 127 ∨ E = 255 then false else if 150 ≤ E then true else decide (150 - E ≤ Go.Lib.ctz 64 M) := by unfold ex32; rw [← hEe, ← hMe]
  rw [← hEe, ← hMe]
  by_cases h0 : E = 0
  · rw [if_pos h0]
    obtain ⟨M', E', h1, h2, h3, h4⟩ := near32 (x / 2147483648 % 2 == 1) M (-149) (by omega) (by omega) (by omega)
    refine ⟨M', E', h1, h2, h3, h4, by omega, ?_, rfl, by omega, vv_eq_zero _ _⟩
    rw [hex]
    have hlt : ∀ N : Nat, N = 1074 → vv M (-149) < 2 ^ N := by
      intro N hN
      have hlt0 : ∀ k N : Nat, 149 + k = N → M * 2 ^ k < 2 ^ N := fun k N h => by
        rw [pow_split 149 k N h]
        exact Nat.mul_lt_mul_of_pos_right (Nat.lt_of_lt_of_le hM2 (by decide +kernel)) (Nat.two_pow_pos k)
      have e2 : ((-149 : Int) + 1074).toNat = 925 := by decide
      unfold vv
      rw [e2]
      exact hlt0 925 N (by omega)
    have hlt := hlt 1074 rfl
    rw [Nat.mod_eq_of_lt hlt]
    have hz := vv_eq_zero M (-149)
    by_cases hm : M = 0
    · rw [if_pos ⟨h0, hm⟩]; symm; rw [decide_eq_true_iff]; exact hz.2 hm
    · rw [if_neg (by omega), if_pos (by omega)]; symm; rw [decide_eq_false_iff_not]; exact fun h => hm (hz.1 h)
  · rw [if_neg h0]
    by_cases h1 : E < 255
    · rw [if_pos h1]
      obtain ⟨M', E', g1, g2, g3, g4⟩ := near32 (x / 2147483648 % 2 == 1) (8388608 + M) ((E : Int) - 150) (by omega) (by omega) (by omega)
      refine ⟨M', E', g1, g2, g3, g4, by omega, ?_, rfl, by omega, vv_eq_zero _ _⟩
      have e1 : vv (8388608 + M) ((E : Int) - 150) = (2 ^ 23 + M) * 2 ^ (E + 924) := by
        unfold vv; rw [show ((E : Int) - 150 + 1074).toNat = E + 924 by omega]
      have hw := whole_iff 1074 23 M (E + 924) hM2
      rw [← e1] at hw
      have hc := fun hk => ctz_iff M (1074 - (E + 924)) (by omega) hk
      rw [hex, if_neg (by omega)]
      generalize 2 ^ 1074 = D at hw ⊢
      by_cases h2 : E < 127
      · rw [if_pos (by omega)]
        symm
        rw [decide_eq_false_iff_not, hw]
        omega
      · rw [if_neg (by omega)]
        by_cases h3 : 150 ≤ E
        · rw [if_pos h3]
          symm
          rw [decide_eq_true_iff, hw]
          omega
        · rw [if_neg h3]
          have hc := hc (by omega)
          rw [decide_eq_decide, hw, show 150 - E = 1074 - (E + 924) by omega, hc]
          constructor
          · intro h; exact .inr ⟨by omega, h⟩
          · rintro (h | ⟨_, h⟩)
            · omega
            · exact h
    · rw [if_neg h1]
      have hf : ex32 x = false := by rw [hex, if_neg (by omega), if_pos (by omega)]
      by_cases h2 : M = 0
      · rw [if_pos h2]; exact ⟨hf, rfl, by omega⟩
      · rw [if_neg h2]; exact ⟨hf, by omega⟩
end Go.Proofs.YtdncfolehkhjhaaDoor
