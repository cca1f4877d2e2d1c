/- Rows of bytes of one's own ([][]byte), each of which a law holds. -/
import Derived.Test.YtdncfolehkhjhaaDoorPutHead
import Derived.Test.YtdncfolehkhjhaaDoorGrown
namespace Go.Proofs.YtdncfolehkhjhaaDoor
open Go.RowKit
set_option linter.unusedVariables false
set_option linter.unusedSimpArgs false

def Rows (w : World) (B : Nat) (a : Option Addr) (n c : Nat) (L : List Int → Prop) : Prop :=
  ∃ vs : List Value, w.ownsRow B 35 1 (.slice a n c) n vs ∧ ∀ v ∈ vs, ∃ a' n' c' l, v = .slice a' n' c' ∧ O8 w B a' n' c' l ∧ L l

theorem Rows.nil (w : World) (B : Nat) (L : List Int → Prop) : Rows w B none 0 0 L := ⟨[], World.ownsRow_nil _ _ _ _, by simp⟩
theorem Rows.keep {w w' : World} {B : Nat} {a : Option Addr} {n c : Nat} {L : List Int → Prop} (h : Rows w B a n c L) (hb : Below w.heap.size w w') : Rows w' B a n c L := by
  obtain ⟨vs, ho, hv⟩ := h
  refine ⟨vs, owns_below ho hb, fun v hm => ?_⟩
  obtain ⟨a', n', c', l, rfl, h1, h2⟩ := hv v hm
  exact ⟨_, _, _, _, rfl, h1.below hb (Nat.le_refl _), h2⟩
theorem Rows.set {w : World} {B : Nat} {a : Option Addr} {n c : Nat} {L : List Int → Prop} (h : Rows w B a n c L) {F i : Nat} (hF : F < B) (u : Value) : Rows (w.setCell ⟨F, i, none⟩ u) B a n c L := by
  obtain ⟨vs, ho, hv⟩ := h
  refine ⟨vs, owns_set ho hF u, fun v hm => ?_⟩
  obtain ⟨a', n', c', l, rfl, h1, h2⟩ := hv v hm
  refine ⟨_, _, _, _, rfl, h1.kept fun g cur e hb => hb.other ?_ u, h2⟩
  have := h1.ge _ e
  simp at this ⊢
  omega
theorem Rows.at_ {w : World} {B : Nat} {a : Option Addr} {n c : Nat} {L : List Int → Prop} (h : Rows w B a n c L) (q : Nat) (hq : q < n) :
    ∃ b off a' n' c' l, a = some ⟨b, off, none⟩ ∧ w.cell? ⟨b, off + q, none⟩ = some (.slice a' n' c') ∧ O8 w B a' n' c' l ∧ L l := by
  obtain ⟨vs, ho, hv⟩ := h
  have hl : vs.length = n := by have := ho.1; omega
  obtain ⟨b, off, ha, hx⟩ := (Rd.of_owns ho).at_ (by omega)
  have h1 := hx q (by omega)
  have hm : vs.getD q undef ∈ vs := by rw [List.getD, List.getElem?_eq_getElem (by omega)]; exact List.getElem_mem _
  obtain ⟨a', n', c', l, e, h2, h3⟩ := hv _ hm
  rw [e] at h1
  exact ⟨b, off, a', n', c', l, ha, h1, h2, h3⟩

set_option maxRecDepth 100000 in
theorem rows_app {w : World} {ops : Array Oper} {rest : List Oper} {o : Oper} {act : Act} {Q : Exit → Act → World → Prop} (hgd : o.guard = none) (s x : Operand)
    (ho : o.op = .call { callee := .builtin .append, args := #[s, x], argTypes := #[96, 96] })
    (B : Nat) (a : Option Addr) (n c : Nat) (L : List Int → Prop) (hs : act.eval s = .slice a n c) (hR : Rows w B a n c L)
    (g : Nat) (a' : Option Addr) (n' c' : Nat) (l : List Int) (hx : act.eval x = .slice (some ⟨g, 0, none⟩) 1 1) (hb : Blk w g 35 #[.slice a' n' c']) (ho8 : O8 w B a' n' c' l) (hL : L l) (hsz : n ≤ 1099511627775) (hB : B ≤ w.heap.size)
    (h : ∀ a2 c2 w2, Rows w2 B a2 (n + 1) c2 L → Below B w w2 → (∀ g T cur, T ≠ 35 → Blk w g T cur → Blk w2 g T cur) → (∀ B' E size v n' xs, E ≠ 35 → w.ownsRow B' E size v n' xs → w2.ownsRow B' E size v n' xs) → wpList Tryd.prog ops Q rest (act.put o.dst (.slice a2 (n + 1) c2)) w2) : wpList Tryd.prog ops Q (o :: rest) act w := by
  obtain ⟨vs, hown, hv⟩ := hR
  refine app1 hgd s x 96 35 (.slice none 0 0) 24 ho (by rfl) (by kernel_rfl) (by rfl) (by omega) B a n c vs hs hown g (.slice a' n' c') (by rfl) hx hb hsz hB ?_
  intro a2 c2 w2 hown2 hg
  refine h a2 c2 w2 ⟨vs ++ [.slice a' n' c'], hown2, ?_⟩ (below_of_grown hg hB (ge_of_owns hown)) (fun _ _ _ hT hb => Blk.grown hb hown hT hg) (fun _ _ _ _ _ _ hT ho => owns_grown ho hown hT hg)
  intro v hm
  rw [List.mem_append] at hm
  rcases hm with hm | hm
  · obtain ⟨a3, n3, c3, l3, rfl, h3, h4⟩ := hv v hm
    exact ⟨_, _, _, _, rfl, O8.grown h3 hown (by decide) hg, h4⟩
  · simp only [List.mem_singleton] at hm
    subst hm
    exact ⟨_, _, _, _, rfl, O8.grown ho8 hown (by decide) hg, hL⟩
end Go.Proofs.YtdncfolehkhjhaaDoor
