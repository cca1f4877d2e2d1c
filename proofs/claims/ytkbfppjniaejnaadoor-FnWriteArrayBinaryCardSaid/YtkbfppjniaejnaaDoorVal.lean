/- spec.constructor.take: values of AMQP without values in them. -/
import Derived.Test.YtkbfppjniaejnaaDoorKind
namespace Go.Proofs.YtkbfppjniaejnaaDoor
open Go.RowKit
set_option linter.unusedVariables false
set_option linter.unusedSimpArgs false

/-- A value of AMQP, as the model has it; a constructor. -/
def av (k num : Int) (text : ByteArray) (kids : Value) (kof : Int) (desc : Value) : Value := .agg #[.int .i64 k, .int .u64 num, .string text, kids, .int .i64 kof, desc]
def ct (desc : Value) (c : Int) : Value := .agg #[desc, .int .i64 c]
abbrev nilS : Value := .slice none 0 0

theorem Blk.set6 {w : World} {g : Nat} {t : TypeId} {cs : Array Value} (h : Blk w g t cs) (hs : cs.size = 6) (v0 v1 v2 v3 v4 v5 : Value) :
    Blk ((((((w.setCell ⟨g, 0, none⟩ v0).setCell ⟨g, 1, none⟩ v1).setCell ⟨g, 2, none⟩ v2).setCell ⟨g, 3, none⟩ v3).setCell ⟨g, 4, none⟩ v4).setCell ⟨g, 5, none⟩ v5) g t #[v0, v1, v2, v3, v4, v5] := by
  have h5 := (((((h.set 0 v0).set 1 v1).set 2 v2).set 3 v3).set 4 v4).set 5 v5
  rcases cs with ⟨l⟩
  rcases l with _ | ⟨a, _ | ⟨b, _ | ⟨c, _ | ⟨d, _ | ⟨e, _ | ⟨f, _ | ⟨g, l⟩⟩⟩⟩⟩⟩⟩ <;> simp at hs
  simpa using h5

set_option maxRecDepth 100000 in
set_option maxHeartbeats 4000000 in
theorem take_num (c k s : Int) (n' : Nat) (hs : s = n') (hk : Kind c k s) (h2 : 2 ≤ k) (h5 : k ≤ 5 ∨ 10 ≤ k ∧ k ≤ 16) (h8 : s ≤ 8) (h45 : c ≠ 69) (da : Option Addr) (dn dc : Nat) (a : Option Addr) (n cap : Nat) (l : List Int) (lv : Int) (w0 : World) (hv : Vw w0 a n cap l) (hkn : n' ≤ n) :
    ∃ a', Vw w0 a' (n - n') (cap - n') (l.drop n') ∧ ∀ w, Below w0.heap.size w0 w → Calls Tryd.prog 42 #[ct (.slice da dn dc) c, .slice a n cap, .int .i64 lv] w fun e w' => e = .returned (.tuple #[av k (beN (l.take n')) ⟨#[]⟩ nilS 0 (.slice da dn dc), .slice a' (n - n') (cap - n'), .bool true]) ∧ Below w.heap.size w w' := by
  subst hs
  obtain ⟨a', hoff, hv'⟩ := off_of hv (n' : Int) n' rfl hkn
  refine ⟨a', hv', fun w hx => ?_⟩
  have hvw := Vw.below hx (Nat.le_refl _) hv
  have e1 : ((n' : Int) == 16) = false := by simp; omega
  have e2 : (k == 0) = false := by simp; omega
  have e3 : (k == 1) = false := by simp; omega
  have e4 : decide (k ≥ 21) = false := by simp; omega
  have e5 : decide (k ≥ 18) = false := by simp; omega
  have e6 : (c == 69) = false := by simpa using h45
  have HS := Lib.hid hoff
  have HK := Lib.hid hk
  clear hoff hk
  unfold ct
  go_enter Tryd.func42, Tryd.ntmps42
  go_wp2_with (go_at_call 53; refine (kindOf_ok c k n' HK.out _).mono ?_; rintro e w1 ⟨rfl, hb1⟩; have hs1 : w.heap.size + 3 ≤ w1.heap.size := (by have := hb1.size; simp at this; omega); have hB3 : Blk w1 w.heap.size 81 #[.slice da dn dc, .int .i64 c] := Blk.below (((Blk.new _ _ _).alloc _).alloc _) hb1 (by simp; omega); have hB6 : Blk w1 (w.heap.size + 1) 29 #[.int .i64 0, .int .u64 0, .string ⟨#[]⟩, nilS, .int .i64 0, nilS] := Blk.below ((by simpa using Blk.new (w.alloc _) _ _ : Blk ((w.alloc _).alloc _) (w.heap.size + 1) _ _).alloc _) hb1 (by simp); have hc30 := hB3.cell (i := 0) rfl; have hc31 := hB3.cell (i := 1) rfl; have hf6 := fun i => hB6.frozen i; have hc60 := hB6.cell (i := 0) rfl; have hc61 := hB6.cell (i := 1) rfl; have hc62 := hB6.cell (i := 2) rfl; have hc63 := hB6.cell (i := 3) rfl; have hc64 := hB6.cell (i := 4) rfl; have hc65 := hB6.cell (i := 5) rfl)
  have hv1 := Vw.below hb1 (Nat.le_refl _) (((hvw.alloc _).alloc _).alloc _)
  go_wp2_with (go_at_call 54; (refine (takeBig_ok _ _ _ _ n' rfl l _ (hv1.alloc _) _ HS.out hkn (by omega)).mono ?_); rintro e w2 ⟨rfl, nq, rfl⟩; have hd31 := fun o => ((hB3.alloc o).drewN nq).cell (i := 1) rfl; have hg6 := fun o i => ((hB6.alloc o).drewN nq).frozen i; have hd60 := fun o => ((hB6.alloc o).drewN nq).cell (i := 0) rfl; have hd61 := fun o => ((hB6.alloc o).drewN nq).cell (i := 1) rfl; have hd62 := fun o => ((hB6.alloc o).drewN nq).cell (i := 2) rfl; have hd63 := fun o => ((hB6.alloc o).drewN nq).cell (i := 3) rfl; have hd64 := fun o => ((hB6.alloc o).drewN nq).cell (i := 4) rfl; have hd65 := fun o => ((hB6.alloc o).drewN nq).cell (i := 5) rfl)
  all_goals
    have hbw : Below w.heap.size w w1 := Below.trans ((((Below.refl _ _).alloc (Nat.le_refl _) _).alloc (by simp) _).alloc (by simp; omega) _) (hb1.mono (by simp; omega))
    refine bodyPost_ret (results_ctt rfl _ _ (w.heap.size + 1) 29 _ _ rfl (Blk.set6 (((hB6.alloc _).drewN nq).other (by simp; omega) _) rfl _ _ _ _ _ _) Tryd.underlying29 rfl (by kernel_rfl)) rfl ⟨rfl, ?_⟩
    (repeat (first | with_reducible exact Below.refl _ _ | with_reducible assumption | with_reducible refine below_drewN ?_ _ | with_reducible refine Below.drew ?_ | with_reducible refine below_row ?_ (by first | omega | (simp; done) | (simp; omega)) _ | with_reducible refine Below.alloc ?_ (by first | omega | (simp; done) | (simp; omega)) _ | with_reducible refine Below.setCell ?_ (by first | omega | (simp; done) | (simp; omega)) _))
end Go.Proofs.YtkbfppjniaejnaaDoor
