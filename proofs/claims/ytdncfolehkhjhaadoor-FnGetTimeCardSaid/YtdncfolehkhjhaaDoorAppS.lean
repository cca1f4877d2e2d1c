/- append of a string to bytes of one's own, in a region that draws its order. -/
import Derived.Test.YtdncfolehkhjhaaDoorApp8
import Derived.Lib.AppendStr
namespace Go.Proofs.YtdncfolehkhjhaaDoor
open Go.RowKit
set_option linter.unusedVariables false

/-- The bytes of a text. -/
def btL (s : ByteArray) : List Int := s.data.toList.map fun b => (b.toNat : Int)
theorem btL_len (s : ByteArray) : (btL s).length = s.size := by simp [btL]
theorem btL_bd (s : ByteArray) : ∀ x ∈ btL s, 0 ≤ x ∧ x ≤ 255 := by
  intro x hx
  simp only [btL, List.mem_map] at hx
  obtain ⟨b, _, rfl⟩ := hx
  have := b.toNat_lt
  omega
theorem strCells_btL (s : ByteArray) : Go.Lib.strCells s = bytesV (btL s) := by
  simp [Go.Lib.strCells, bytesV, btL]

set_option maxRecDepth 100000 in
theorem wp_appS {w : World} {o : Oper} {act : Act} {K : Act → World → Prop} {Q : Exit → Act → World → Prop} (s x : Operand)
    (ho : o.op = .call { callee := .builtin .append, args := #[s, x], argTypes := #[35, 9] })
    (B : Nat) (a : Option Addr) (n c : Nat) (l : List Int) (hs : act.eval s = .slice a n c) (hown : O8 w B a n c l)
    (t : ByteArray) (hx : act.eval x = .string t) (hsz : n + t.size ≤ 140737488355328) (hB : B ≤ w.heap.size)
    (h : ∀ a' c' w', O8 w' B a' (n + t.size) c' (l ++ btL t) → w.grownBy w' (Value.ownBlock (.slice a n c)) → K (act.put o.dst (.slice a' (n + t.size) c')) w') : o.wp Tryd.prog act w K Q := by
  obtain ⟨i, hi, hz, hsi, hby⟩ := info8
  obtain ⟨v', w', hr, h2, h3, h4⟩ := Go.Lib.run_append_own_string (P := Tryd.prog) w B 35 9 o.type 5 i Tryd.underlying35 Tryd.underlying9 hi hz hsi hby (.slice a n c) n (bytesV l) hown.owns t (by simp only [maxLen]; omega) hsz hB
  rw [strCells_btL, show bytesV l ++ bytesV (btL t) = bytesV (l ++ btL t) by simp [bytesV]] at h2
  have hbb : ∀ y ∈ l ++ btL t, 0 ≤ y ∧ y ≤ 255 := fun y hy => by
    rcases List.mem_append.1 hy with h1 | h1
    · exact hown.vw.byt y h1
    · exact btL_bd t y h1
  obtain ⟨a', c', rfl, hO⟩ := Own.of_owns h2 hbb
  unfold Oper.wp
  simp [execOp, ho, resolve, invoke, builtin, hs, hx, hr, Result.andThen]
  exact h a' c' w' hO h3

theorem step_appS {w : World} {ops : Array Oper} {o : Oper} {act : Act} {K : Act → World → Prop} {Q : Exit → Act → World → Prop} {E : Prop} (hgd : o.guard = none) (s x : Operand)
    (ho : o.op = .call { callee := .builtin .append, args := #[s, x], argTypes := #[35, 9] })
    (B : Nat) (a : Option Addr) (n c : Nat) (l : List Int) (hs : act.eval s = .slice a n c) (hown : O8 w B a n c l)
    (t : ByteArray) (hx : act.eval x = .string t) (hsz : n + t.size ≤ 140737488355328) (hB : B ≤ w.heap.size)
    (h : ∀ a' c' w', O8 w' B a' (n + t.size) c' (l ++ btL t) → w.grownBy w' (Value.ownBlock (.slice a n c)) → K (act.put o.dst (.slice a' (n + t.size) c')) w') :
    if Region.wanted o (yielded ops act.tmps) = true then Oper.wp Tryd.prog o act w K Q else E := by
  have hw : Region.wanted o (yielded ops act.tmps) = true := by simp [Region.wanted, hgd]
  rw [if_pos hw]
  exact wp_appS s x ho B a n c l hs hown t hx hsz hB h
end Go.Proofs.YtdncfolehkhjhaaDoor
