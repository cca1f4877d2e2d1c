/- A list's values, each once, by their order: plain law. -/
import Derived.Test.YtokjgloefafdpaaDoorLib
namespace Go.Proofs.YtokjgloefafdpaaDoor
set_option linter.unusedVariables false
set_option linter.unusedSimpArgs false

/-- A value laid into an ascending list, if it is not there. -/
def insS (x : Int) : List Int → List Int
  | [] => [x]
  | y :: r => if y < x then y :: insS x r else if y = x then y :: r else x :: y :: r

/-- The values of a list, each once, by their order. -/
def inS (l : List Int) : List Int := l.foldl (fun out x => insS x out) []

theorem inS_nil : inS [] = [] := rfl
theorem inS_snoc (l : List Int) (x : Int) : inS (l ++ [x]) = insS x (inS l) := by simp [inS]

theorem insS_len (x : Int) : ∀ l : List Int, (insS x l).length ≤ l.length + 1
  | [] => by simp [insS]
  | y :: r => by
    have := insS_len x r
    unfold insS
    split
    · simp; omega
    · split <;> simp

theorem mem_insS (x z : Int) : ∀ l : List Int, z ∈ insS x l ↔ z = x ∨ z ∈ l
  | [] => by simp [insS]
  | y :: r => by
    have ih := mem_insS x z r
    unfold insS
    split
    · simp [ih]; constructor <;> (rintro (h | h | h) <;> simp [h])
    · split
      · rename_i h1 h2
        subst h2
        simp
      · simp

theorem asc_insS (x : Int) : ∀ l : List Int, l.Pairwise (· < ·) → (insS x l).Pairwise (· < ·)
  | [], _ => by simp [insS]
  | y :: r, h => by
    obtain ⟨h1, h2⟩ := List.pairwise_cons.1 h
    unfold insS
    split
    · refine List.pairwise_cons.2 ⟨fun z hz => ?_, asc_insS x r h2⟩
      rcases (mem_insS x z r).1 hz with rfl | hz
      · assumption
      · exact h1 z hz
    · split
      · exact h
      · refine List.pairwise_cons.2 ⟨fun z hz => ?_, h⟩
        rcases List.mem_cons.1 hz with rfl | hz
        · omega
        · have := h1 z hz; omega

theorem inS_le : ∀ l : List Int, (inS l).length ≤ l.length := by
  suffices H : ∀ (l out : List Int), (l.foldl (fun out x => insS x out) out).length ≤ out.length + l.length by
    intro l; have := H l []; simpa [inS] using this
  intro l
  induction l with
  | nil => intro out; simp
  | cons x r ih =>
    intro out
    have h1 := ih (insS x out)
    have h2 := insS_len x out
    simp only [List.foldl_cons, List.length_cons]
    omega

theorem mem_inS (z : Int) : ∀ l : List Int, z ∈ inS l ↔ z ∈ l := by
  suffices H : ∀ (l out : List Int), z ∈ l.foldl (fun out x => insS x out) out ↔ z ∈ out ∨ z ∈ l by
    intro l; have := H l []; simpa [inS] using this
  intro l
  induction l with
  | nil => intro out; simp
  | cons x r ih =>
    intro out
    simp only [List.foldl_cons, ih, mem_insS, List.mem_cons]
    constructor
    · rintro ((h | h) | h) <;> simp [h]
    · rintro (h | h | h) <;> simp [h]

theorem asc_inS (l : List Int) : (inS l).Pairwise (· < ·) := by
  suffices H : ∀ (l out : List Int), out.Pairwise (· < ·) → (l.foldl (fun out x => insS x out) out).Pairwise (· < ·) from H l [] List.Pairwise.nil
  intro l
  induction l with
  | nil => intro out h; exact h
  | cons x r ih => intro out h; exact ih _ (asc_insS x out h)

/-- Two ascending lists of the same values are one. -/
theorem asc_ext : ∀ (a b : List Int), a.Pairwise (· < ·) → b.Pairwise (· < ·) → (∀ z, z ∈ a ↔ z ∈ b) → a = b
  | [], [], _, _, _ => rfl
  | [], y :: r, _, _, h => absurd ((h y).2 (by simp)) (by simp)
  | x :: a, [], _, _, h => absurd ((h x).1 (by simp)) (by simp)
  | x :: a, y :: b, ha, hb, h => by
    obtain ⟨a1, a2⟩ := List.pairwise_cons.1 ha
    obtain ⟨b1, b2⟩ := List.pairwise_cons.1 hb
    have hxy : x = y := by
      rcases List.mem_cons.1 ((h x).1 (by simp)) with e | hx
      · exact e
      · rcases List.mem_cons.1 ((h y).2 (by simp)) with e | hy
        · exact e.symm
        · have := a1 y hy; have := b1 x hx; omega
    subst hxy
    rw [asc_ext a b a2 b2 (fun z => ?_)]
    have hz := h z
    simp only [List.mem_cons] at hz
    constructor
    · intro hm
      rcases hz.1 (.inr hm) with e | r
      · have := a1 z hm; omega
      · exact r
    · intro hm
      rcases hz.2 (.inr hm) with e | r
      · have := b1 z hm; omega
      · exact r

/-- The place of a value in an ascending list, as a loop finds it. -/
theorem insS_at (x : Int) : ∀ (l : List Int) (i : Nat), i ≤ l.length → (∀ j, j < i → l.getD j 0 < x) → (i < l.length → ¬ l.getD i 0 < x) →
    insS x l = if i < l.length ∧ l.getD i 0 = x then l else l.take i ++ x :: l.drop i
  | [], i, hi, _, _ => by
    have : i = 0 := by simpa using hi
    subst this
    simp [insS]
  | y :: r, 0, _, _, h => by
    have hy : ¬ y < x := by simpa using h (by simp)
    unfold insS
    rw [if_neg hy]
    by_cases e : y = x <;> simp [e]
  | y :: r, i + 1, hi, h1, h2 => by
    have hy : y < x := by simpa using h1 0 (by omega)
    have ih := insS_at x r i (by simpa using hi) (fun j hj => by simpa using h1 (j + 1) (by omega)) (fun hj => by simpa using h2 (by simpa using hj))
    unfold insS
    rw [if_pos hy, ih]
    by_cases hc : i < r.length ∧ r.getD i 0 = x
    · rw [if_pos hc, if_pos (by simpa using hc)]
    · rw [if_neg hc, if_neg (by simpa using hc)]
      simp

/-- What a sort of pairwise different values gives. -/
theorem asc_of_sorted {d : List Int} (hn : d.Nodup) (hs : ∀ i j, i < j → j < d.length → ¬ d.getD j 0 < d.getD i 0) : d.Pairwise (· < ·) := by
  rw [List.pairwise_iff_getElem]
  intro i j hi hj hij
  have h1 := hs i j hij hj
  simp only [List.getD_eq_getElem?_getD, List.getElem?_eq_getElem hi, List.getElem?_eq_getElem hj, Option.getD_some] at h1
  have h2 : d[i] ≠ d[j] := by
    rw [List.nodup_iff_pairwise_ne, List.pairwise_iff_getElem] at hn
    exact hn i j hi hj hij
  omega
theorem asc_nodup {l : List Int} (h : l.Pairwise (· < ·)) : l.Nodup := h.imp fun h => by omega

/-- .. is the list's values, each once. -/
theorem inS_of_sorted {l ks d : List Int} (hk : ks.Nodup) (hm : ∀ z, z ∈ ks ↔ z ∈ l) (hp : d.Perm ks) (hs : ∀ i j, i < j → j < d.length → ¬ d.getD j 0 < d.getD i 0) : d = inS l :=
  asc_ext _ _ (asc_of_sorted (hp.nodup_iff.2 hk) hs) (asc_inS l) fun z => by rw [hp.mem_iff, hm, mem_inS]
theorem inS_length {l ks : List Int} (hk : ks.Nodup) (hm : ∀ z, z ∈ ks ↔ z ∈ l) : ks.length = (inS l).length :=
  ((List.perm_ext_iff_of_nodup hk (asc_nodup (asc_inS l))).2 fun z => by rw [hm, mem_inS]).length_eq
end Go.Proofs.YtokjgloefafdpaaDoor
