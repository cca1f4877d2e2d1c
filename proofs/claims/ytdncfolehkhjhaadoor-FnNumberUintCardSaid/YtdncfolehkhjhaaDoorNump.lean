/- Floats: what a Number's CoerceUInt and spec.Whole62 tell of them, in plain words. -/
import Derived.Test.YtdncfolehkhjhaaDoorFlt
namespace Go.Proofs.YtdncfolehkhjhaaDoor
open Go Ieee
set_option linter.unusedVariables false
set_option linter.unusedSimpArgs false

theorem cmp_gt {a b : Int} (h : b < a) : compare a b = .gt := by
  simp only [compare, compareOfLessAndEq]; rw [if_neg (by omega), if_neg (by omega)]
theorem cmp_lt {a b : Int} (h : a < b) : compare a b = .lt := by
  simp only [compare, compareOfLessAndEq]; rw [if_pos h]
theorem cmp_eq {a b : Int} (h : a = b) : compare a b = .eq := by
  simp only [compare, compareOfLessAndEq]; rw [if_neg (by omega), if_pos h]
theorem cmp_le {a b : Int} (h : a ≤ b) : compare a b = .lt ∨ compare a b = .eq := by
  by_cases h2 : a < b
  · exact .inl (cmp_lt h2)
  · exact .inr (cmp_eq (by omega))
theorem cmp_ge {a b : Int} (h : b ≤ a) : compare a b = .gt ∨ compare a b = .eq := by
  by_cases h2 : b < a
  · exact .inl (cmp_gt h2)
  · exact .inr (cmp_eq (by omega))

/-- One, and 2^62, in units of 2^-1074 (closed to reckoning). -/
structure Units (D T : Nat) : Prop where
  d : D = 2 ^ 1074
  t : T = 4611686018427387904 * D
  pos : 0 < D
theorem units : ∃ D T, Units D T := by
  obtain ⟨D, hD⟩ : ∃ D, D = 2 ^ 1074 := ⟨_, rfl⟩
  exact ⟨D, _, hD, rfl, by rw [hD]; exact Nat.two_pow_pos 1074⟩

theorem vv_c62 (D T : Nat) (u : Units D T) : vv 4503599627370496 10 = T := by
  rw [u.t, u.d]
  have e : ((10 : Int) + 1074).toNat = 10 + 1074 := by decide
  unfold vv
  rw [e]
  generalize 1074 = q
  rw [Nat.pow_add, ← Nat.mul_assoc]
theorem vv_c64 (D T : Nat) (u : Units D T) : vv 4503599627370496 12 = 4 * T := by
  rw [u.t, u.d]
  have e : ((12 : Int) + 1074).toNat = 12 + 1074 := by decide
  unfold vv
  rw [e]
  generalize 1074 = q
  rw [Nat.pow_add, ← Nat.mul_assoc, ← Nat.mul_assoc]
theorem vv_s64 (D T : Nat) (u : Units D T) : vv 8388608 41 = 4 * T := by
  rw [u.t, u.d]
  have e : ((41 : Int) + 1074).toNat = 41 + 1074 := by decide
  unfold vv
  rw [e]
  generalize 1074 = q
  rw [Nat.pow_add, ← Nat.mul_assoc, ← Nat.mul_assoc]
theorem rd_c62 : double.read 4886405595696988160 = .number false 4503599627370496 10 := by decide +kernel
theorem rd_m62 : double.read 14109777632551763968 = .number true 4503599627370496 10 := by decide +kernel
theorem rd_c64 : double.read 4895412794951729152 = .number false 4503599627370496 12 := by decide +kernel
theorem rd_0 : double.read 0 = .number false 0 (-1074) := by decide +kernel
theorem rs_c64 : single.read 1602224128 = .number false 8388608 41 := by decide +kernel
theorem rs_0 : single.read 0 = .number false 0 (-149) := by decide +kernel

/-- What is told of a float as a whole number without a sign. -/
def CuIs : Datum → Int → Bool → Prop
  | .nan _ _ => fun _ ok => ok = false
  | .infinity _ => fun _ _ => True
  | .number s m e => fun n ok => vv m e ≤ 4611686018427387904 * 2 ^ 1074 → ok = (decide (s = false ∨ m = 0) && decide (vv m e % 2 ^ 1074 = 0)) ∧ (ok = true → n = ((vv m e / 2 ^ 1074 : Nat) : Int))
/-- What spec.Whole62 tells. -/
def W62 : Datum → Int → Bool → Bool → Prop
  | .nan _ _ => fun _ is edge => is = false ∧ edge = false
  | .infinity _ => fun _ _ edge => edge = true
  | .number s m e => fun n is edge => (4611686018427387904 * 2 ^ 1074 < vv m e ∧ edge = true) ∨ (vv m e ≤ 4611686018427387904 * 2 ^ 1074 ∧ edge = false ∧ is = decide (vv m e % 2 ^ 1074 = 0) ∧ n = sv s (vv m e / 2 ^ 1074))

/-- Both agree. -/
theorem same_num {d d' : Datum} (hd : d = d' ∨ (∃ s m e M E, d = .number s m e ∧ d' = .number s M E ∧ vv M E = vv m e) ∨ (∃ s t s' t', d = .nan s t ∧ d' = .nan s' t') ∨ ∃ s, d = .infinity s ∧ d' = .infinity s) {n : Int} {ok : Bool} (h : CuIs d n ok) {want : Int} {is edge : Bool} (h2 : W62 d' want is edge) :
    edge = true ∨ (edge = false ∧ ok = (is && decide (0 ≤ want)) ∧ (ok = true → n = want ∧ want ≤ 4611686018427387904)) := by
  obtain ⟨D, T, u⟩ := units
  have key : ∀ s m e M E, vv M E = vv m e → CuIs (.number s m e) n ok → W62 (.number s M E) want is edge → edge = true ∨ (edge = false ∧ ok = (is && decide (0 ≤ want)) ∧ (ok = true → n = want ∧ want ≤ 4611686018427387904)) := by
    intro s m e M E hv h h2
    unfold CuIs at h
    unfold W62 at h2
    simp only at h h2
    rw [hv] at h2
    have hz := vv_eq_zero m e
    have hup := u.pos
    rw [← u.d, ← u.t] at h h2
    rw [u.t] at h h2
    generalize vv m e = v at *
    rcases h2 with ⟨_, h2⟩ | ⟨h3, h4, h5, h6⟩
    · exact .inl h2
    · obtain ⟨h7, h8⟩ := h h3
      refine .inr ⟨h4, ?_, ?_⟩
      · rw [h7, h5, h6]
        by_cases hw : v % D = 0
        · have hm : m = 0 ↔ v / D = 0 := by
            rw [← hz]
            constructor
            · rintro h; rw [h]; simp
            · intro h
              have := Nat.div_add_mod v D
              rw [h, hw] at this
              omega
          simp only [hw, decide_true, Bool.and_true, Bool.true_and, decide_eq_decide]
          generalize v / D = q at hm ⊢
          cases s
          · simp [sv]
          · simp [sv, hm]
        · simp [hw]
      · intro hok
        have h9 := h8 hok
        rw [hok] at h7
        have h10 : s = false ∨ m = 0 := by
          simp at h7; exact h7.1
        have hle : v / D ≤ 4611686018427387904 := Nat.div_le_of_le_mul (by rw [Nat.mul_comm]; exact h3)
        rw [h9, h6]
        rcases h10 with h10 | h10
        · subst h10; simp [sv]; omega
        · rw [hz.2 h10]; simp [sv]
  rcases hd with rfl | ⟨s, m, e, M, E, rfl, rfl, hv⟩ | ⟨s, t, s', t', rfl, rfl⟩ | ⟨s, rfl, rfl⟩
  · cases d with
    | number s m e => exact key s m e m e rfl h h2
    | infinity s => exact .inl h2
    | nan s t => exact .inr ⟨h2.2, by have : ok = false := h; rw [this, h2.1]; rfl, fun hok => by have : ok = false := h; rw [this] at hok; cases hok⟩
  · exact key s m e M E hv h h2
  · exact .inr ⟨h2.2, by have : ok = false := h; rw [this, h2.1]; rfl, fun hok => by have : ok = false := h; rw [this] at hok; cases hok⟩
  · exact .inl h2
end Go.Proofs.YtdncfolehkhjhaaDoor
