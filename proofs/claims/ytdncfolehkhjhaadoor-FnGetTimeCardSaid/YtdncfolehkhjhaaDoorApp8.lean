/- app8 in a region that draws its order. -/
import Derived.Test.YtdncfolehkhjhaaDoorRd
import Derived.Test.YtdncfolehkhjhaaDoorApp
namespace Go.Proofs.YtdncfolehkhjhaaDoor
open Go.RowKit
set_option linter.unusedVariables false

set_option maxRecDepth 100000 in
theorem wp_app8 {w : World} {o : Oper} {act : Act} {K : Act → World → Prop} {Q : Exit → Act → World → Prop} (s x : Operand)
    (ho : o.op = .call { callee := .builtin .append, args := #[s, x], argTypes := #[35, 35] })
    (B : Nat) (a : Option Addr) (n c : Nat) (l : List Int) (hs : act.eval s = .slice a n c) (hown : O8 w B a n c l)
    (a2 : Option Addr) (m c2 : Nat) (l2 : List Int) (hx : act.eval x = .slice a2 m c2) (hv2 : Vw w a2 m c2 l2) (hsz : n + m ≤ 140737488355328) (hB : B ≤ w.heap.size)
    (h : ∀ a' c' w', O8 w' B a' (n + m) c' (l ++ l2) → w.grownBy w' (Value.ownBlock (.slice a n c)) → K (act.put o.dst (.slice a' (n + m) c')) w') : o.wp Tryd.prog act w K Q := by
  have hown' := hown.owns
  have hbb : ∀ y ∈ l ++ l2, 0 ≤ y ∧ y ≤ 255 := fun y hy => by
    rcases List.mem_append.1 hy with h1 | h1
    · exact hown.vw.byt y h1
    · exact hv2.byt y h1
  obtain ⟨i, hi, hz, hsi, hby⟩ := info8
  cases a2 with
  | none =>
    have hc2 := hv2.nul rfl
    have hm : m = 0 := by have := hv2.cap; omega
    have hl2 : l2 = [] := List.eq_nil_of_length_eq_zero (by rw [hv2.len, hm])
    subst hm; subst hc2; subst hl2
    have hr2 := run_append_owned_none (P := Tryd.prog) (w := w) B 35 o.type 5 i 1 Tryd.underlying35 hi (.slice a n c) n (bytesV l) hown'
    unfold Oper.wp
    simp [execOp, ho, resolve, invoke, builtin, hs, hx, hr2, Result.andThen]
    exact h a c w (by simpa using hown) ⟨rfl, rfl, rfl, Nat.le_refl _, fun _ _ _ => rfl⟩
  | some ad =>
    refine wp_append_own w s x 35 ho B 5 i (.int .u8 0) 1 1 Tryd.underlying35 hi hz hsi hby rfl (by omega) _ n (bytesV l) hs hown' ad m c2 (bytesV l2) hx (by simp [bytesV, hv2.len]) ?_ ?_ (by simp only [maxLen]; omega) (by omega) hB ?_
    · intro j u hj
      obtain ⟨ad', he, hc⟩ := hv2.src (by
        rcases Nat.eq_zero_or_pos (bytesV l2).length with h0 | h0
        · rw [List.eq_nil_of_length_eq_zero h0] at hj; simp at hj
        · exact h0)
      injection he with he; subst he
      exact hc j u hj
    · intro u hu
      simp only [bytesV, List.mem_map] at hu
      obtain ⟨q, _, rfl⟩ := hu
      rfl
    · intro v' w' ho2 hg2 _
      rw [show bytesV l ++ bytesV l2 = bytesV (l ++ l2) by simp [bytesV]] at ho2
      obtain ⟨a', c', rfl, hO⟩ := Own.of_owns ho2 hbb
      exact h a' c' w' hO hg2

theorem step_app8 {w : World} {ops : Array Oper} {o : Oper} {act : Act} {K : Act → World → Prop} {Q : Exit → Act → World → Prop} {E : Prop} (hgd : o.guard = none) (s x : Operand)
    (ho : o.op = .call { callee := .builtin .append, args := #[s, x], argTypes := #[35, 35] })
    (B : Nat) (a : Option Addr) (n c : Nat) (l : List Int) (hs : act.eval s = .slice a n c) (hown : O8 w B a n c l)
    (a2 : Option Addr) (m c2 : Nat) (l2 : List Int) (hx : act.eval x = .slice a2 m c2) (hv2 : Vw w a2 m c2 l2) (hsz : n + m ≤ 140737488355328) (hB : B ≤ w.heap.size)
    (h : ∀ a' c' w', O8 w' B a' (n + m) c' (l ++ l2) → w.grownBy w' (Value.ownBlock (.slice a n c)) → K (act.put o.dst (.slice a' (n + m) c')) w') :
    if Region.wanted o (yielded ops act.tmps) = true then Oper.wp Tryd.prog o act w K Q else E := by
  have hw : Region.wanted o (yielded ops act.tmps) = true := by simp [Region.wanted, hgd]
  rw [if_pos hw]
  exact wp_app8 s x ho B a n c l hs hown a2 m c2 l2 hx hv2 hsz hB h
end Go.Proofs.YtdncfolehkhjhaaDoor
