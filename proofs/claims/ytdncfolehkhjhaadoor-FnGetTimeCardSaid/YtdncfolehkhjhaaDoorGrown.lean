/- What an append in place leaves alone: blocks of another type. -/
import Derived.Test.YtdncfolehkhjhaaDoorApp8
namespace Go.Proofs.YtdncfolehkhjhaaDoor
open Go.RowKit
set_option linter.unusedVariables false
set_option linter.unusedSimpArgs false

theorem Blk.grown {w w' : World} {B E size T g : Nat} {a : Option Addr} {n c n2 : Nat} {cur : Array Value} {vs : List Value} (hb : Blk w g T cur) (ho : w.ownsRow B E size (.slice a n c) n2 vs) (hT : T ≠ E) (hg : w.grownBy w' (Value.ownBlock (.slice a n c))) : Blk w' g T cur := by
  have hne : Value.ownBlock (.slice a n c) ≠ some g := by
    intro he
    rcases ho.2 with ⟨h1, _⟩ | ⟨g2, cap, cur2, hv, _, hh, _⟩
    · injection h1 with h1; rw [h1] at he; cases he
    · injection hv with h1
      rw [h1] at he
      injection he with he
      simp at he
      subst he
      unfold Blk at hb
      rw [hh] at hb
      injection hb with hb
      injection hb with _ hb
      exact hT hb.symm
  show w'.heap[g]? = _
  rw [hg.block g hb.lt (fun e => hne e.symm)]
  exact hb
theorem O8.grown {w w' : World} {B B' T : Nat} {a a' : Option Addr} {n c n' c' : Nat} {l : List Int} {vs : List Value} (h : O8 w B a' n' c' l) (ho : w.ownsRow B' T 1 (.slice a n c) n vs) (hT : 5 ≠ T) (hg : w.grownBy w' (Value.ownBlock (.slice a n c))) : O8 w' B a' n' c' l :=
  h.kept fun g cur e hb => hb.grown ho hT hg
theorem O8.grownN {w w' : World} {B B' T size : Nat} {a a' : Option Addr} {n c n2 n' c' : Nat} {l : List Int} {vs : List Value} (h : O8 w B a' n' c' l) (ho : w.ownsRow B' T size (.slice a n c) n2 vs) (hT : 5 ≠ T) (hg : w.grownBy w' (Value.ownBlock (.slice a n c))) : O8 w' B a' n' c' l :=
  h.kept fun g cur e hb => hb.grown ho hT hg
theorem O8.setT {w : World} {B T g : Nat} {a : Option Addr} {n c : Nat} {l : List Int} {cur : Array Value} (h : O8 w B a n c l) (hP : Blk w g T cur) (hT : T ≠ 5) (i : Nat) (v : Value) : O8 (w.setCell ⟨g, i, none⟩ v) B a n c l :=
  h.kept fun g2 cur2 _ hb => hb.other (p := ⟨g, i, none⟩) (fun e => by
    have e : g2 = g := e
    subst e
    unfold Blk at hb hP
    rw [hb] at hP
    injection hP with hP
    injection hP with _ hP
    exact hT hP.symm) v
theorem owns_grown {w w' : World} {B B' E E' size size' : Nat} {a : Option Addr} {v : Value} {n c n' : Nat} {xs vs : List Value} (h : w.ownsRow B E size v n' xs) (ho : w.ownsRow B' E' size' (.slice a n c) n vs) (hT : E ≠ E') (hg : w.grownBy w' (Value.ownBlock (.slice a n c))) : w'.ownsRow B E size v n' xs := by
  refine ⟨h.1, ?_⟩
  rcases h.2 with h1 | ⟨g, cap, cur, hv, hge, hh, hr⟩
  · exact .inl h1
  · exact .inr ⟨g, cap, cur, hv, hge, Blk.grown (w := w) hh ho hT hg, hr⟩
end Go.Proofs.YtdncfolehkhjhaaDoor
