/- msgp's errors: badPrefix returns an error, whatever the byte. -/
import Derived.Test.YtbngkfdfjpbajaaDoorErr
namespace Go.Proofs.YtbngkfdfjpbajaaDoor
open Go.RowKit
set_option linter.unusedVariables false
set_option linter.unusedSimpArgs false

theorem Blk.set4 {w : World} {g : Nat} {t : TypeId} {cs : Array Value} (h : Blk w g t cs) (hs : cs.size = 4) (v0 v1 v2 v3 : Value) :
    Blk ((((w.setCell ⟨g, 0, none⟩ v0).setCell ⟨g, 1, none⟩ v1).setCell ⟨g, 2, none⟩ v2).setCell ⟨g, 3, none⟩ v3) g t #[v0, v1, v2, v3] := by
  have h5 := (((h.set 0 v0).set 1 v1).set 2 v2).set 3 v3
  rcases cs with ⟨l⟩
  rcases l with _ | ⟨a, _ | ⟨b, _ | ⟨c, _ | ⟨d, _ | ⟨e, l⟩⟩⟩⟩⟩ <;> simp at hs
  simpa using h5

set_option maxRecDepth 100000 in
theorem getBytespec_any (z : Int) (hz0 : 0 ≤ z) (hz1 : z < 256) (w : World) : Calls Tryd.prog 68 #[.int .u8 z] w (SpecRes w) := by
  go_enter Tryd.func68, Tryd.ntmps68
  go_wp2_with fail
  refine (calc_any z hz0 hz1 _).mono ?_
  rintro e w1 ⟨s, x, t, rfl, hb⟩
  have hB : Blk w1 w.heap.size 128 #[.int .u8 0, .int .i8 0, .int .u8 0, .int .u8 0] := Blk.below (Blk.new _ _ _) hb (by simp)
  have q0 := hB.cell (i := 0) rfl
  have q1 := hB.cell (i := 1) rfl
  have q2 := hB.cell (i := 2) rfl
  have q3 := hB.cell (i := 3) rfl
  have hf := fun i => hB.frozen i
  go_wp2_with fail
  have hbw : Below w.heap.size w w1 := Below.trans ((Below.refl _ _).alloc (Nat.le_refl _) _) (hb.mono (by simp))
  refine bodyPost_ret (results_c rfl _ _ w.heap.size 128 _ _ rfl (Blk.set4 hB rfl _ _ _ _) Tryd.underlying128 rfl (by kernel_rfl)) rfl ⟨_, _, _, rfl, ?_⟩
  (repeat (first | with_reducible exact Below.refl _ _ | with_reducible assumption | with_reducible refine below_drewN ?_ _ | with_reducible refine Below.drew ?_ | with_reducible refine below_row ?_ (by first | omega | (simp; done) | (simp; omega)) _ | with_reducible refine Below.alloc ?_ (by first | omega | (simp; done) | (simp; omega)) _ | with_reducible refine Below.setCell ?_ (by first | omega | (simp; done) | (simp; omega)) _))

/-- A kind of msgp: some number. -/
def TypeRes (w : World) (e : Ending) (w' : World) : Prop := ∃ t : Int, e = .returned (.int .u8 t) ∧ Below w.heap.size w w'

set_option maxRecDepth 100000 in
theorem getType_any (z : Int) (hz0 : 0 ≤ z) (hz1 : z < 256) (w : World) : Calls Tryd.prog 59 #[.int .u8 z] w (TypeRes w) := by
  go_enter Tryd.func59, Tryd.ntmps59
  go_wp2_with fail
  refine (getBytespec_any z hz0 hz1 _).mono ?_
  rintro e w1 ⟨s, x, t, rfl, hb⟩
  have hfd : ∀ W : World, (Instr.field 128 (.agg #[.int .u8 s, .int .i8 x, .int .u8 t, .int .u8 0]) 2).run Tryd.prog W = .ok (.int .u8 t) W := fun _ => by kernel_rfl
  go_wp2_with fail
  go_ret
  exact ⟨t, rfl, hb⟩

/-- An error, some error. -/
def ErrRes (w : World) (e : Ending) (w' : World) : Prop := ∃ (T : TypeId) (v : Value), e = .returned (.iface T v) ∧ Below w.heap.size w w'

set_option maxRecDepth 100000 in
theorem badPrefix_any (k z : Int) (hz0 : 0 ≤ z) (hz1 : z < 256) (w : World) : Calls Tryd.prog 56 #[.int .u8 k, .int .u8 z] w (ErrRes w) := by
  go_enter Tryd.func56, Tryd.ntmps56
  go_wp2_with fail
  refine (getType_any z hz0 hz1 _).mono ?_
  rintro e w1 ⟨t, rfl, hb⟩
  go_wp2_with fail
  all_goals
    go_ret
    exact ⟨_, _, rfl, hb⟩
end Go.Proofs.YtbngkfdfjpbajaaDoor
