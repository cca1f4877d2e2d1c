/- A list of numbers as a text, and what the reader finds in it. -/
import Derived.Test.YtokjgloefafdpaaDoorJson5
namespace Go.Proofs.YtokjgloefafdpaaDoor
open Go.RowKit Go.Lib
set_option linter.unusedVariables false
set_option linter.unusedSimpArgs false

/-- Tokens, a comma between each two. -/
def jn : List (List UInt8) → List UInt8
  | [] => []
  | t :: r => t ++ r.flatMap (fun u => 44 :: u)
theorem jn_snoc (ts : List (List UInt8)) (t : List UInt8) : jn (ts ++ [t]) = if ts = [] then t else jn ts ++ 44 :: t := by
  cases ts with
  | nil => simp [jn]
  | cons a r => simp [jn]
theorem jn_cons2 (t u : List UInt8) (r : List (List UInt8)) : jn (t :: u :: r) = t ++ 44 :: jn (u :: r) := by simp [jn]
theorem jn_len (ts : List (List UInt8)) (h : ∀ t ∈ ts, t.length ≤ 21) : (jn ts).length ≤ 22 * ts.length := by
  have H : ∀ r : List (List UInt8), (∀ t ∈ r, t.length ≤ 21) → (r.flatMap (fun u => 44 :: u)).length ≤ 22 * r.length := by
    intro r
    induction r with
    | nil => intro _; simp
    | cons a r ih =>
      intro h
      have h1 := h a (by simp)
      have h2 := ih (fun t ht => h t (by simp [ht]))
      rw [List.flatMap_cons, List.length_append, List.length_cons, List.length_cons]; omega
  cases ts with
  | nil => simp [jn]
  | cons a r =>
    have h1 := h a (by simp)
    have h2 := H r (fun t ht => h t (by simp [ht]))
    unfold jn
    rw [List.length_append, List.length_cons]; omega

theorem Bts.left {s : ByteArray} {i : Nat} {a b : List UInt8} (h : Bts s i (a ++ b)) : Bts s i a := fun k c hc => h k c (by rw [List.getElem?_append_left (List.getElem?_eq_some_iff.1 hc).1]; exact hc)
theorem Bts.right {s : ByteArray} {i : Nat} {a b : List UInt8} (h : Bts s i (a ++ b)) : Bts s (i + a.length) b := fun k c hc => by
  have := h (a.length + k) c (by rw [List.getElem?_append_right (by omega)]; simpa using hc)
  rwa [← Nat.add_assoc] at this
theorem Bts.head {s : ByteArray} {i : Nat} {c : UInt8} {b : List UInt8} (h : Bts s i (c :: b)) : Bt s i c := h 0 c rfl
theorem Bts.tail {s : ByteArray} {i : Nat} {c : UInt8} {b : List UInt8} (h : Bts s i (c :: b)) : Bts s (i + 1) b := Bts.right (a := [c]) h

/-- A token that is read as a value of a kind. -/
def Tok (t : List UInt8) (q : Int × Int) : Prop := ∀ (s : ByteArray) (p : Nat) (c : UInt8), s.size ≤ 1000000 → Bts s p t → Bt s (p + t.length) c → (c = 93 ∨ c = 44) →
  NumAt s p t.length q.1 q.2 ∧ ∃ b, Bt s p b ∧ (b.toNat = 45 ∨ 48 ≤ b.toNat ∧ b.toNat ≤ 57)

theorem elAt_of (s : ByteArray) (hs : s.size ≤ 1000000) : ∀ (ts : List (List UInt8)) (ps : List (Int × Int)) (p : Nat), ts ≠ [] → ts.length = ps.length → (∀ i (h : i < ts.length) (h2 : i < ps.length), Tok ts[i] ps[i]) → Bts s p (jn ts ++ [93]) → ElAt s ps p (p + (jn ts).length + 1)
  | [], _, _, h, _, _, _ => absurd rfl h
  | t :: ts, [], _, _, h, _, _ => absurd h (by simp)
  | [t], [q], p, _, _, hT, hB => by
    have h0 := hT 0 (by simp) (by simp)
    have e : jn [t] = t := by simp [jn]
    rw [e] at hB ⊢
    obtain ⟨hn, b, hb, hbv⟩ := h0 s p 93 hs hB.left hB.right.head (.inl rfl)
    exact ⟨t.length, b, hn, hb, hbv, .inl ⟨rfl, hB.right.head, rfl⟩⟩
  | [t], q :: q2 :: r, _, _, h, _, _ => absurd h (by simp)
  | t :: u :: r, [q], _, _, h, _, _ => absurd h (by simp)
  | t :: u :: r, q :: q2 :: r2, p, _, hl, hT, hB => by
    have h0 := hT 0 (by simp) (by simp)
    rw [jn_cons2, List.append_assoc, List.cons_append] at hB
    obtain ⟨hn, b, hb, hbv⟩ := h0 s p 44 hs hB.left hB.right.head (.inr rfl)
    have ih := elAt_of s hs (u :: r) (q2 :: r2) (p + t.length + 1) (by simp) (by simpa using hl) (fun i h h2 => by
      have := hT (i + 1) (by simp at h ⊢; omega) (by simp at h2 ⊢; omega)
      simpa using this) hB.right.tail
    refine ⟨t.length, b, hn, hb, hbv, .inr ⟨by simp, hB.right.head, ?_⟩⟩
    have e : p + (jn (t :: u :: r)).length + 1 = p + t.length + 1 + (jn (u :: r)).length + 1 := by rw [jn_cons2, List.length_append, List.length_cons]; omega
    rw [e]
    exact ih

theorem tok_dec (u : Nat) (hu : u < 18446744073709551616) : Tok (decDigits u) (3, (u : Int)) := by
  intro s p c hs hd hc hcc
  refine ⟨fun J w hJ => number_pos u hu J s p c w hJ hd hc (by rcases hcc with rfl | rfl <;> decide) hs, ?_⟩
  have h1 := dec_pos u
  refine ⟨(decDigits u)[0], hd 0 _ (by simp), .inr (dec_digit u _ (List.getElem_mem _))⟩

/-- The text of an array of tokens. -/
def jtx (ts : List (List UInt8)) : List UInt8 := 91 :: (jn ts ++ [93])
def strB (l : List UInt8) : ByteArray := ⟨l.toArray⟩
theorem bts_str (l : List UInt8) : Bts (strB l) 0 l := fun k b h => by unfold Bt strB; rw [Nat.zero_add, List.getElem?_toArray]; exact h
theorem strB_size (l : List UInt8) : (strB l).size = l.length := by simp [strB, ByteArray.size]

/-- What ReadJSON makes of it. -/
theorem readJSON_toks (ts : List (List UInt8)) (ps : List (Int × Int)) (h0 : ts ≠ []) (hl : ts.length = ps.length) (hm : ps.length ≤ 1000) (hT : ∀ i (h : i < ts.length) (h2 : i < ps.length), Tok ts[i] ps[i]) (h20 : ∀ t ∈ ts, t.length ≤ 21) (w : World) :
    Calls Tryd.prog 12 #[.string (strB (jtx ts))] w fun e w' => ∃ ka kc, e = .returned (.tuple #[.agg #[.int .i64 8, .int .u64 0, .string ⟨#[]⟩, .int .i64 0, .slice ka ps.length kc], .bool true]) ∧ Rd w' ka (l5s ps) ∧ (∀ x, ka = some x → w.heap.size ≤ x.block) ∧ Below w.heap.size w w' := by
  have hj := jn_len ts h20
  have hsz : (strB (jtx ts)).size = 1 + (jn ts).length + 1 := by rw [strB_size, jtx]; simp; omega
  have hs : (strB (jtx ts)).size ≤ 1000000 := by omega
  have hB := bts_str (jtx ts)
  have hE := elAt_of (strB (jtx ts)) hs ts ps 1 h0 hl hT hB.tail
  rw [← hsz] at hE
  exact readJSON_nums (strB (jtx ts)) ps hB.head hE hs hm w
end Go.Proofs.YtokjgloefafdpaaDoor
