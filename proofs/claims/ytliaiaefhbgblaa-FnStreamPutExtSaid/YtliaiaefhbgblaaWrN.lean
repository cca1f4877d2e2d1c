/- msgp.NewWriterSize: a Writer that holds nothing yet. -/
import Derived.Test.YtliaiaefhbgblaaWrI
import Derived.Laws.MakeOwn
namespace Go.Proofs.Ytliaiaefhbgblaa
open Go.RowKit
set_option linter.unusedVariables false
set_option linter.unusedSimpArgs false

theorem make8 (n : Nat) (hn : n ≤ 1099511627776) (w : World) : (Instr.makeSlice 23 (.int .i64 (n : Int)) (.int .i64 (n : Int))).run Try.prog w = .ok (.slice (some ⟨w.heap.size, 0, none⟩) n n) (w.alloc (.cells (madeCells #[.int .u8 0] n) 5)) := by
  obtain ⟨i, hi, hz, hs1, hs2⟩ := info8
  have h := run_make (P := Try.prog) w 23 5 i (.int .u8 0) Try.underlying23 hi hz .i64 .i64 (n : Int) (n : Int) (by omega) (Int.le_refl _) (by rw [hs2]; omega) (by omega)
  rw [hs1] at h
  simpa [Value.cells] using h

set_option maxRecDepth 100000 in
set_option maxHeartbeats 1000000 in
theorem newWriter_any (T sz : Nat) (h18 : 18 ≤ sz) (hsz : sz ≤ 65536) (w : World) (hT : Blk w T 66 #[.slice none 0 0]) :
    Calls Try.prog 30 #[.iface 68 (.pointer (some ⟨T, 0, none⟩)), .int .i64 sz] w fun e w' => ∃ W, e = .returned (.pointer (some ⟨W, 0, none⟩)) ∧ Wr w' T (fun b => b < w'.heap.size) W sz 0 [] ∧ Below w.heap.size w w' := by
  have hm := make8 sz (by omega)
  have h1 : decide ((sz : Int) < 18) = false := by simp; omega
  have h2 : ¬ ((sz : Int) < 18) := by omega
  have hTl := hT.lt
  go_enter Try.func30, Try.ntmps30
  go_wp2_with go_in
  go_ret
  refine ⟨w.heap.size + 1, rfl, ⟨w.heap.size, none, 0, 0, [], madeCells #[.int .u8 0] sz, [], ?_, rfl⟩, by (repeat (first | with_reducible exact Below.refl _ _ | with_reducible assumption | with_reducible refine below_drewN ?_ _ | with_reducible refine Below.drew ?_ | with_reducible refine below_row ?_ (by first | omega | (simp; done) | (simp; omega)) _ | with_reducible refine Below.alloc ?_ (by first | omega | (simp; done) | (simp; omega)) _ | with_reducible refine Below.setCell ?_ (by first | omega | (simp; done) | (simp; omega)) _))⟩
  have hb : Blk ((w.alloc (.cells (madeCells #[.int .u8 0] sz) 5)).alloc (.cells #[.iface 68 (.pointer (some ⟨T, 0, none⟩)), .slice (some ⟨w.heap.size, 0, none⟩) sz sz, .int .i64 0] 92)) (w.heap.size + 1) 92 _ := Blk.newAt (by simp) _ _
  exact { hT := (hT.alloc _).alloc _, hO := ⟨Vw.nil _, .inl ⟨rfl, rfl, rfl⟩⟩, hW := hb, hG := (Blk.new w _ _).alloc _, hs := (by simp [madeCells]), hwl := Nat.zero_le _, hp := rfl, hb := (by simp), hc := rfl, s18 := h18, sz0 := (by omega), bT := Nat.le_refl _, bW := (by omega), bG := (by omega), kT := (by simp; omega), kW := (by simp), kG := (by simp; omega), kO := (by intro b hb; cases hb), gO := (by intro hb; cases hb) }
#print axioms newWriter_any
end Go.Proofs.Ytliaiaefhbgblaa
