/- Appends to a row of bytes of one's own; impl.copied. -/
import Derived.Test.YtdncfolehkhjhaaDoorProg
import Derived.Test.YtdncfolehkhjhaaDoorLib
import Derived.Outline
import Derived.RegionTactic
import Derived.Deep.QuietTactic
import Derived.BigQuiet
namespace Go.Proofs.YtdncfolehkhjhaaDoor
open Go.RowKit
set_option linter.unusedVariables false

theorem info8 : ∃ i, Tryd.prog.info? 5 = some i ∧ i.zero = some (.int .u8 0) ∧ i.size = 1 ∧ i.bytes = 1 := by
  have h : (Tryd.prog.info? 5).map (fun i => (i.zero, i.size, i.bytes)) = some (some (.int .u8 0), 1, 1) := by kernel_rfl
  cases hq : Tryd.prog.info? 5 with
  | none => rw [hq] at h; cases h
  | some i => rw [hq] at h; simp at h; exact ⟨i, rfl, h.1, h.2.1, h.2.2⟩

abbrev O8 := Own 5

theorem app8 {w : World} {ops : Array Oper} {rest : List Oper} {o : Oper} {act : Act} {Q : Exit → Act → World → Prop} (hgd : o.guard = none) (s x : Operand)
    (ho : o.op = .call { callee := .builtin .append, args := #[s, x], argTypes := #[35, 35] })
    (B : Nat) (a : Option Addr) (n c : Nat) (l : List Int) (hs : act.eval s = .slice a n c) (hown : O8 w B a n c l)
    (a2 : Option Addr) (m c2 : Nat) (l2 : List Int) (hx : act.eval x = .slice a2 m c2) (hv2 : Vw w a2 m c2 l2) (hsz : n + m ≤ 140737488355328) (hB : B ≤ w.heap.size)
    (h : ∀ a' c' w', O8 w' B a' (n + m) c' (l ++ l2) → w.grownBy w' (Value.ownBlock (.slice a n c)) → wpList Tryd.prog ops Q rest (act.put o.dst (.slice a' (n + m) c')) w') : wpList Tryd.prog ops Q (o :: rest) act w := by
  obtain ⟨i, hi, hz, h1, h2⟩ := info8
  exact wpList_append_Own hgd s x 35 5 ho Tryd.underlying35 i hi hz h1 h2 B a n c l hs hown a2 m c2 l2 hx hv2 hsz hB h

/-- 'append([]byte{}, b...)': a copy. -/
theorem app8_copy {w : World} {ops : Array Oper} {rest : List Oper} {o : Oper} {act : Act} {Q : Exit → Act → World → Prop} (hgd : o.guard = none) (s x : Operand)
    (ho : o.op = .call { callee := .builtin .append, args := #[s, x], argTypes := #[35, 35] })
    (hs : act.eval s = .slice (some ⟨w.heap.size, 0, none⟩) 0 0) (a : Option Addr) (n c : Nat) (l : List Int) (hx : act.eval x = .slice a n c) (hv : Vw w a n c l) (hsz : n ≤ 1099511627776)
    (h : ∀ a' c' w', O8 w' w.heap.size a' n c' l → Below w.heap.size w w' → wpList Tryd.prog ops Q rest (act.put o.dst (.slice a' n c')) w') :
    wpList Tryd.prog ops Q (o :: rest) act (w.alloc (.cells #[] 5)) := by
  refine app8 hgd s x ho w.heap.size _ 0 0 [] hs (Own.empty _ w) a n c l hx (hv.alloc _) (by omega) (by simp) ?_
  intro a' c' w1 ho hg
  simp only [Nat.zero_add, List.nil_append] at *
  exact h a' c' w1 ho (Below.trans (b := w.alloc _) ((Below.refl _ _).alloc (Nat.le_refl _) _) (below_of_grown hg (by simp) (Own.empty 5 w).ge))

set_option maxHeartbeats 400000 in
theorem copied_any (a : Option Addr) (n c : Nat) (l : List Int) (w : World) (hv : Vw w a n c l) (hn : n ≤ 1099511627776) :
    Calls Tryd.prog 27 #[.slice a n c] w fun e w' => ∃ a' c', e = .returned (.slice a' n c') ∧ O8 w' w.heap.size a' n c' l ∧ Below w.heap.size w w' := by
  go_enter Tryd.func27, Tryd.ntmps27
  go_wp2_with (at_builtin; refine app8_copy (by rfl) _ _ (by rfl) (by rfl) a n c l (by rfl) hv hn ?_; intro a' c' w1 ho hb)
  go_wp2_with fail
  go_ret
  exact ⟨a', c', rfl, ho, hb⟩

end Go.Proofs.YtdncfolehkhjhaaDoor
