/- spec's reader of JSON: blank. -/
import Derived.Test.YtokjgloefafdpaaDoorJsonP
import Derived.Test.YtokjgloefafdpaaDoorRd
import Derived.Maps.Range
namespace Go.Proofs.YtokjgloefafdpaaDoor
open Go.RowKit
set_option linter.unusedVariables false
set_option linter.unusedSimpArgs false

/-- A text under way: the text, the place, no fault so far. -/
def JT (w : World) (J : Nat) (s : ByteArray) (at_ : Nat) : Prop := Blk w J 72 #[.string s, .int .i64 at_, .bool false]
/-- What stands at a place. -/
def Bt (s : ByteArray) (i : Nat) (b : UInt8) : Prop := s.data[i]? = some b
theorem Bt.lt {s : ByteArray} {i : Nat} {b : UInt8} (h : Bt s i b) : i < s.size := (Array.getElem?_eq_some_iff.1 h).1
theorem Bt.index {s : ByteArray} {i : Nat} {b : UInt8} (h : Bt s i b) (w : World) : (Instr.index 9 (.string s) (.int .i64 (i : Int))).run Tryd.prog w = .ok (.int .u8 (b.toNat : Int)) w := by
  have hlt := h.lt
  rw [run_index_string w 9 s .i64 (i : Int) Tryd.underlying9, dif_pos ⟨by omega, by omega⟩]
  have : s[(i : Int).toNat]'(by omega) = b := by
    have h2 := (Array.getElem?_eq_some_iff.1 h).2
    exact h2
  rw [this]

set_option maxRecDepth 100000 in
set_option maxHeartbeats 4000000 in
theorem blank_no (J : Nat) (s : ByteArray) (i : Nat) (b : UInt8) (w : World) (hJ : JT w J s i) (hb : Bt s i b) (hn : b.toNat ≠ 32 ∧ b.toNat ≠ 10 ∧ b.toNat ≠ 13 ∧ b.toNat ≠ 9) (hs : s.size ≤ 1000000) :
    Calls Tryd.prog 29 #[.pointer (some ⟨J, 0, none⟩)] w fun e w' => e = .returned (.tuple #[]) ∧ ∃ q, w' = w.drewN q := by
  have hix := hb.index
  have hlt := hb.lt
  have q0 : w.cell? ⟨J, 0, none⟩ = some (.string s) := hJ.cell rfl
  have q1 : w.cell? ⟨J, 1, none⟩ = some (.int .i64 i) := hJ.cell rfl
  have hli : (i : Int) < s.size := by omega
  obtain ⟨v, hv⟩ : ∃ v : Int, v = (b.toNat : Int) := ⟨_, rfl⟩
  rw [← hv] at hix
  have e1 : (v == 32) = false := by simp; omega
  have e2 : (v == 10) = false := by simp; omega
  have e3 : (v == 13) = false := by simp; omega
  have e4 : (v == 9) = false := by simp; omega
  clear hv hn hb hJ
  go_enter Tryd.func29, Tryd.ntmps29
  go_wp2_with fail
  refine wp_loop_once ?_
  go_wp2_with fail
  go_quiet (fail)
  go_wp2_with fail
  go_end0
  exact ⟨rfl, _, rfl⟩

set_option maxRecDepth 100000 in
set_option maxHeartbeats 4000000 in
theorem blank_end (J : Nat) (s : ByteArray) (w : World) (hJ : JT w J s s.size) (hs : s.size ≤ 1000000) :
    Calls Tryd.prog 29 #[.pointer (some ⟨J, 0, none⟩)] w fun e w' => e = .returned (.tuple #[]) ∧ ∃ q, w' = w.drewN q := by
  have q0 : w.cell? ⟨J, 0, none⟩ = some (.string s) := hJ.cell rfl
  have q1 : w.cell? ⟨J, 1, none⟩ = some (.int .i64 s.size) := hJ.cell rfl
  clear hJ
  go_enter Tryd.func29, Tryd.ntmps29
  go_wp2_with fail
  refine wp_loop_once ?_
  go_wp2_with fail
  go_quiet (fail)
  go_wp2_with fail
  go_end0
  exact ⟨rfl, _, rfl⟩

/-- Nothing that was there is touched but block J. -/
theorem jg_drewN (w : World) (q J : Nat) : w.grownBy (w.drewN q) (some J) := ⟨rfl, rfl, rfl, Nat.le_refl _, fun _ _ _ => rfl⟩
theorem jg_set (w : World) (J o : Nat) (v : Value) : w.grownBy (w.setCell ⟨J, o, none⟩ v) (some J) := ⟨rfl, rfl, rfl, by simp, fun k hk hne => Below.heap_setCell _ _ _ _ (fun e => hne (by rw [e]))⟩
theorem jg_trans {a b c : World} {J : Nat} (h : a.grownBy b (some J)) (k : b.grownBy c (some J)) : a.grownBy c (some J) := h.andThen k (fun j hj => .inr hj)
theorem JT.drewN {w : World} {J : Nat} {s : ByteArray} {i : Nat} (h : JT w J s i) (q : Nat) : JT (w.drewN q) J s i := Blk.drewN h q
theorem JT.adv {w : World} {J : Nat} {s : ByteArray} {i : Nat} (h : JT w J s i) (k : Int) (j : Nat) (hk : k = j) : JT (w.setCell ⟨J, 1, none⟩ (.int .i64 k)) J s j := by
  subst hk; exact Blk.set h 1 _

end Go.Proofs.YtokjgloefafdpaaDoor
