/- msgp's errors: badPrefix returns an error, whatever the byte. -/
import Derived.Test.YtdncfolehkhjhaaDoorRd
namespace Go.Proofs.YtdncfolehkhjhaaDoor
open Go.RowKit
set_option linter.unusedVariables false
set_option linter.unusedSimpArgs false

/-- The end of a function whose one result lies in a variable: a struct. -/
theorem results_c {P : Program} {fn : Func} {p : Tmp} {ty : TypeId} (h : fn.results = #[.cell p ty]) (tmps : Array Value) (w : World) (g : Nat) (t : TypeId) (cs : Array Value) (d : TypeDesc)
    (hp : tmps.getD p undef = .pointer (some ⟨g, 0, none⟩)) (hg : Blk w g t cs)
    (hu : P.underlying ty = some d) (hd : (match d with | .struct _ | .array _ _ => true | _ => false) = true) (hi : (P.info? ty).map (·.size) = some cs.size) :
    (results fn tmps).run P w = .ok (.agg cs) w := by
  have hp' : tmps[p]?.getD undef = .pointer (some ⟨g, 0, none⟩) := by simpa using hp
  simp [results, h, hp', asAddr, run_loadVar_row w g t ty cs (0, 0) d hg hu hd hi]

theorem Blk.set3 {w : World} {g : Nat} {t : TypeId} {cs : Array Value} (h : Blk w g t cs) (hs : cs.size = 3) (v0 v1 v2 : Value) :
    Blk (((w.setCell ⟨g, 0, none⟩ v0).setCell ⟨g, 1, none⟩ v1).setCell ⟨g, 2, none⟩ v2) g t #[v0, v1, v2] := by
  have h5 := ((h.set 0 v0).set 1 v1).set 2 v2
  rcases cs with ⟨l⟩
  rcases l with _ | ⟨a, _ | ⟨b, _ | ⟨c, _ | ⟨d, l⟩⟩⟩⟩ <;> simp at hs
  simpa using h5

/-- A byte's class. -/
def SpecRes (w : World) (e : Ending) (w' : World) : Prop := ∃ s x t : Int, e = .returned (.agg #[.int .u8 s, .int .i8 x, .int .u8 t, .int .u8 0]) ∧ Below w.heap.size w w'

theorem specRes_end (w : World) (s x t : Int) (a : Act) (hp : a.tmps.getD 2 undef = .pointer (some ⟨w.heap.size, 0, none⟩)) (hd : a.defers = []) :
    bodyPost Tryd.prog Tryd.f74 (SpecRes w) Exit.ret a (w.alloc (.cells #[.int .u8 s, .int .i8 x, .int .u8 t, .int .u8 0] 141)) :=
  bodyPost_ret (results_c rfl _ _ w.heap.size 141 _ _ hp (Blk.new _ _ _) Tryd.underlying141 rfl (by kernel_rfl)) hd ⟨_, _, _, rfl, (Below.refl _ _).alloc (Nat.le_refl _) _⟩

def Res_rfixstr (w : World) (e : Ending) (w' : World) : Prop := ∃ n : Int, e = .returned (.int .u8 n) ∧ w = w'
theorem rfixstr_any (z : Int) (w : World) : Calls Tryd.prog 69 #[.int .u8 z] w (Res_rfixstr w) := by
  go_enter Tryd.func69, Tryd.ntmps69
  go_wp2
  go_ret
  exact ⟨_, rfl, rfl⟩
def Res_rfixmap (w : World) (e : Ending) (w' : World) : Prop := ∃ n : Int, e = .returned (.int .u8 n) ∧ w = w'
theorem rfixmap_any (z : Int) (w : World) : Calls Tryd.prog 65 #[.int .u8 z] w (Res_rfixmap w) := by
  go_enter Tryd.func65, Tryd.ntmps65
  go_wp2
  go_ret
  exact ⟨_, rfl, rfl⟩
def Res_rfixarray (w : World) (e : Ending) (w' : World) : Prop := ∃ n : Int, e = .returned (.int .u8 n) ∧ w = w'
theorem rfixarray_any (z : Int) (w : World) : Calls Tryd.prog 75 #[.int .u8 z] w (Res_rfixarray w) := by
  go_enter Tryd.func75, Tryd.ntmps75
  go_wp2
  go_ret
  exact ⟨_, rfl, rfl⟩

set_option maxRecDepth 100000 in
set_option maxHeartbeats 16000000 in
theorem calc_any (z : Int) (hz0 : 0 ≤ z) (hz1 : z < 256) (w : World) : Calls Tryd.prog 74 #[.int .u8 z] w (SpecRes w) := by
  go_enter Tryd.func74, Tryd.ntmps74
  go_wp2_with fail
  all_goals first | exact specRes_end w _ _ _ _ rfl rfl | skip
  · refine (rfixstr_any z _).mono ?_
    rintro e w' ⟨n, rfl, rfl⟩
    go_wp2_with fail
    exact specRes_end w _ _ _ _ rfl rfl
  · refine (rfixmap_any z _).mono ?_
    rintro e w' ⟨n, rfl, rfl⟩
    go_wp2_with fail
    exact specRes_end w _ _ _ _ rfl rfl
  · refine (rfixarray_any z _).mono ?_
    rintro e w' ⟨n, rfl, rfl⟩
    go_wp2_with fail
    exact specRes_end w _ _ _ _ rfl rfl

end Go.Proofs.YtdncfolehkhjhaaDoor
