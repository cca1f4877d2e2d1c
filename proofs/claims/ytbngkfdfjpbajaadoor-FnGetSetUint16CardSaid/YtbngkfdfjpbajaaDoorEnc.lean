/- What spec.PutPack may write for a value, kids and all. -/
import Derived.Test.YtbngkfdfjpbajaaDoorPutPk2
namespace Go.Proofs.YtbngkfdfjpbajaaDoor
open Go.RowKit
set_option linter.unusedVariables false
set_option linter.unusedSimpArgs false

mutual
def Pk.Enc : Pk → List Int → Prop
  | .mk k num t ext ks => fun l => ((k ≠ 8 ∧ k ≠ 9) ∧ PEnc k num t ext ks.length l) ∨
      (k = 8 ∧ ∃ h r, HeadL ks.length 144 16 formsA h ∧ Pk.EncL ks r ∧ l = h ++ r) ∨ (k = 9 ∧ ∃ h r, HeadL (ks.length / 2) 128 16 formsM h ∧ Pk.EncL ks r ∧ l = h ++ r)
def Pk.EncL : List Pk → List Int → Prop
  | [] => fun l => l = []
  | p :: ps => fun l => ∃ a b, p.Enc a ∧ Pk.EncL ps b ∧ l = a ++ b
end
theorem encL_snoc (ks : List Pk) (j : Nat) (h : j < ks.length) {r x : List Int} (h1 : Pk.EncL (ks.take j) r) (h2 : ks[j].Enc x) : Pk.EncL (ks.take (j + 1)) (r ++ x) := by
  induction ks generalizing j r with
  | nil => simp at h
  | cons k ks ih =>
    cases j with
    | zero =>
      have h1' : r = [] := by simpa [Pk.EncL] using h1
      subst h1'
      simp only [List.take_succ_cons, List.take_zero, Pk.EncL]
      exact ⟨x, [], by simpa using h2, rfl, by simp⟩
    | succ j =>
      simp only [List.take_succ_cons, Pk.EncL] at h1 ⊢
      obtain ⟨a, b, ha, hb, rfl⟩ := h1
      exact ⟨a, b ++ x, ha, ih j (by simpa using h) hb (by simpa using h2), by simp⟩

theorem headL_pos {n : Nat} {fx : Int} {un : Nat} {l : List (Int × Nat)} {x : List Int} (h : HeadL n fx un l x) : 1 ≤ x.length := by
  rcases h with ⟨_, _, rfl⟩ | ⟨f, hf, rfl⟩ <;> simp
theorem negL_len {u : Int} {l : List Int} (h : NegL u l) : 1 ≤ l.length ∧ l.length ≤ 9 := by
  rcases h with ⟨_, rfl⟩ | ⟨i, k, hm, _, rfl⟩
  · simp
  · have : ∀ q ∈ ikL, q.2 ≤ 8 := by simp
    have := this _ hm
    simp [beL_len]; omega
theorem posL_len {u : Int} {l : List Int} (h : PosL u l) : 1 ≤ l.length ∧ l.length ≤ 9 := by
  rcases h with ⟨_, rfl⟩ | ⟨f, hf, rfl⟩ | ⟨i, k, hm, _, rfl⟩
  · simp
  · have : ∀ q ∈ formsI, q.2 ≤ 8 := by simp
    have := this _ (List.mem_filter.1 hf).1
    simp [beL_len]; omega
  · have : ∀ q ∈ ikL, q.2 ≤ 8 := by simp
    have := this _ hm
    simp [beL_len]; omega
theorem extL_pos {n : Nat} {kb : Int} {x : List Int} (h : ExtL n kb x) : 1 ≤ x.length := by
  rcases h with ⟨i, k, _, _, rfl⟩ | ⟨f, hf, rfl⟩ <;> simp
theorem pEnc_len {k num : Int} {t : ByteArray} {ext : Int} {n : Nat} {l : List Int} (ht : t.size ≤ 131072) (hk : k ≠ 8 ∧ k ≠ 9) (h : PEnc k num t ext n l) : 1 ≤ l.length ∧ l.length ≤ 131100 := by
  rcases h with ⟨_, rfl⟩ | ⟨_, rfl⟩ | ⟨_, _, h⟩ | ⟨_, h⟩ | ⟨_, rfl⟩ | ⟨_, rfl⟩ | ⟨_, h, hh, rfl⟩ | ⟨_, h, hh, rfl⟩ | ⟨rfl, _⟩ | ⟨rfl, _⟩ | ⟨_, h, hh, rfl⟩
  · simp
  · simp
  · have := negL_len h; omega
  · have := posL_len h; omega
  · simp [beL_len]
  · simp [beL_len]
  · have h1 := headL_pos hh
    have h2 := headL_le (by simp) hh
    simp [btL_len]; omega
  · have h1 := headL_pos hh
    have h2 := headL_le (by simp) hh
    simp [btL_len]; omega
  · exact absurd rfl hk.1
  · exact absurd rfl hk.2
  · have h1 := extL_pos hh
    have h2 := extL_le hh
    simp [btL_len]; omega

mutual
theorem enc_len : ∀ (p : Pk) (l : List Int), p.fits → p.Enc l → 1 ≤ l.length ∧ l.length ≤ p.nodes * 131100
  | .mk k num t ext ks, l, hf, h => by
    obtain ⟨hf1, hf2⟩ : FitN k num t.size ext ks.length ∧ Pk.fitsL ks := hf
    simp only [Pk.Enc] at h
    simp only [Pk.nodes]
    rcases h with ⟨hk, h⟩ | ⟨_, h, r, hh, hr, rfl⟩ | ⟨_, h, r, hh, hr, rfl⟩
    · have := pEnc_len hf1.2.2.2.2.2.2.2 hk h
      omega
    · have h1 := headL_pos hh
      have h2 := headL_le (by simp) hh
      have h3 := encL_len ks r hf2 hr
      simp only [List.length_append]; omega
    · have h1 := headL_pos hh
      have h2 := headL_le (by simp) hh
      have h3 := encL_len ks r hf2 hr
      simp only [List.length_append]; omega
theorem encL_len : ∀ (ps : List Pk) (l : List Int), Pk.fitsL ps → Pk.EncL ps l → l.length ≤ Pk.nodesL ps * 131100
  | [], l, _, h => by simp only [Pk.EncL] at h; subst h; simp
  | p :: ps, l, hf, h => by
    obtain ⟨hf1, hf2⟩ : p.fits ∧ Pk.fitsL ps := hf
    simp only [Pk.EncL] at h
    obtain ⟨a, b, ha, hb, rfl⟩ := h
    have h1 := enc_len p a hf1 ha
    have h2 := encL_len ps b hf2 hb
    simp only [Pk.nodesL, List.length_append]; omega
end
theorem fitsL_take (ks : List Pk) (j : Nat) (h : Pk.fitsL ks) : Pk.fitsL (ks.take j) := by
  induction ks generalizing j with
  | nil => simp [Pk.fitsL]
  | cons k ks ih =>
    cases j with
    | zero => trivial
    | succ j => exact ⟨h.1, ih j h.2⟩
end Go.Proofs.YtbngkfdfjpbajaaDoor
