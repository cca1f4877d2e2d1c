/- msgp.readExt at an extension of the type -1, in whatever form. -/
import Derived.Test.YtdncfolehkhjhaaDoorOff
namespace Go.Proofs.YtdncfolehkhjhaaDoor
open Go.RowKit
set_option linter.unusedVariables false
set_option linter.unusedSimpArgs false

theorem results_tmp4 {fn : Func} {t u v x : Tmp} (h : fn.results = #[.tmp t, .tmp u, .tmp v, .tmp x]) (tmps : Array Value) (P : Program) (w : World) :
    (results fn tmps).run P w = .ok (.tuple #[tmps.getD t undef, tmps.getD u undef, tmps.getD v undef, tmps.getD x undef]) w := by
  simp [results, h]

/-- The bytes from i to j, no more behind them: s[i:j:j]. -/
theorem Vw.mid {w : World} {a : Option Addr} {n c : Nat} {l : List Int} (h : Vw w a n c l) (i j : Nat) (i' j' : Int) (hi : i' = i) (hj' : j' = j) (hij : i < j) (hj : j ≤ n) :
    ∃ a', (∀ w', (Instr.slice 35 (.slice a n c) (some (.int .i64 i')) (some (.int .i64 j')) (some (.int .i64 j'))).run Tryd.prog w' = .ok (.slice a' (j - i) (j - i)) w') ∧ Vw w a' (j - i) (j - i) ((l.drop i).take (j - i)) := by
  subst hi hj'
  have hcn := h.cap
  have hn := h.len
  refine ⟨a.map (·.add i), fun w' => ?_, ?_, Nat.le_refl _, by have := h.big; omega, fun x hx => h.byt x (List.mem_of_mem_drop (List.mem_of_mem_take hx)), fun e => ?_, ?_⟩
  · have h0 := size1 w'
    have h1 := run_sliceBound (P := Tryd.prog) w' .i64 (j : Int) c .slice3Acap (by omega) (by omega)
    have h2 := run_sliceBound (P := Tryd.prog) w' .i64 (j : Int) j .slice3B (by omega) (by omega)
    have h3 := run_sliceBound (P := Tryd.prog) w' .i64 (i : Int) j .slice3C (by omega) (by omega)
    have hne : ¬ (j = i) := by omega
    simp [Instr.slice, Instr.sliceBounds, run_underlying Tryd.underlying35, h0, h1, h2, h3, Sem.run_bind, Result.andThen, hne]
  · rw [List.length_take, List.length_drop]; omega
  · have : a = none := by simpa using e
    have := h.nul this
    omega
  · rcases h.cells with h0 | ⟨b, off, ha, hx⟩
    · omega
    · refine .inr ⟨b, off + i, by rw [ha]; simp [Addr.add], fun q hq => ?_⟩
      have := hx (i + q) (by omega)
      rw [show off + i + q = off + (i + q) by omega, this]
      have hlt : i + q < l.length := by omega
      simp [List.getD, hq]

set_option maxRecDepth 100000 in
set_option maxHeartbeats 4000000 in
theorem rext_f4 (sz : Nat) (hs0 : sz = 4) (data r : List Int) (hdl : data.length = sz) (a : Option Addr) (n c : Nat) (w : World) (hv : Vw w a n c (214 :: 255 :: (data ++ r))) :
    ∃ a1 a2, Vw w a1 (n - (2 + sz)) (c - (2 + sz)) r ∧ Vw w a2 sz sz data ∧ ∀ W, Below w.heap.size w W → Calls Tryd.prog 57 #[.slice a n c] W fun e w' => e = .returned (.tuple #[.int .i8 (-1), .slice a1 (n - (2 + sz)) (c - (2 + sz)), .slice a2 sz sz, .nilIface]) ∧ Below W.heap.size W w' := by
  have hn := hv.len
  simp at hn
  have hcn := hv.cap
  have hcb := hv.big
  subst hs0
  obtain ⟨a1, ho1, hv1⟩ := off_of hv 6 (2 + 4) (by omega) (by omega)
  obtain ⟨a3, ho3, hv3⟩ := off_of hv 2 2 rfl (by omega)
  obtain ⟨a2, ho2, hv2⟩ := hv.mid 2 (2 + 4) 2 6 rfl (by omega) (by omega) (by omega)
  unfold Off at ho1 ho3
  have e1 : (214 :: 255 :: (data ++ r)).drop (2 + 4) = r := by
    have : (214 :: 255 :: (data ++ r)) = [214, 255] ++ (data ++ r) := rfl
    rw [this, ← List.drop_drop]
    simp [List.drop_append, hdl]
  have e2 : ((214 :: 255 :: (data ++ r)).drop 2).take (2 + 4 - 2) = data := by
    have : (214 :: 255 :: (data ++ r)) = [214, 255] ++ (data ++ r) := rfl
    rw [this]
    simp [List.drop_append, hdl]
  rw [e1] at hv1
  rw [e2] at hv2
  simp only [Nat.add_sub_cancel_left] at hv2 ho2
  refine ⟨a1, a2, hv1, hv2, fun W hW => ?_⟩
  have hvW := hv.below hW (Nat.le_refl _)
  have d3 : decide ((n : Int) < 3) = false := by simp; omega
  have d5 : decide (((n - 2 : Nat) : Int) < 4) = false := by simp; omega
  have d5n : ¬ (n - 2 < 4) := by omega
  have d5m : decide (n - 2 < 4) = false := by simp; omega
  rcases hvW.cells with h9 | ⟨b, off, rfl, hc⟩
  · omega
  have q0 : W.cell? ⟨b, off, none⟩ = some (.int .u8 214) := by simpa using hc 0 (by omega)
  have q1 : W.cell? ⟨b, off + 1, none⟩ = some (.int .u8 255) := by simpa using hc 1 (by omega)
  have b0 : (0 : Int) < (n : Int) := by omega
  have b1 : (1 : Int) < (n : Int) := by omega
  have hdl0 := hdl
  clear hc hn hv hvW hW hv1 hv2 hv3 e1 e2 hdl hdl0
  go_enter Tryd.func57, Tryd.ntmps57
  go_wp2_with fail
  go_quiet (fail)
  go_wp2_with fail
  (try simp only [Exit.inBlock, Exit.then]); refine bodyPost_ret (results_tmp4 rfl _ _ _) rfl ?_
  exact ⟨rfl, by (repeat (first | with_reducible exact Below.refl _ _ | with_reducible assumption | with_reducible refine below_drewN ?_ _ | with_reducible refine Below.drew ?_ | with_reducible refine below_row ?_ (by first | omega | (simp; done) | (simp; omega)) _ | with_reducible refine Below.alloc ?_ (by first | omega | (simp; done) | (simp; omega)) _ | with_reducible refine Below.setCell ?_ (by first | omega | (simp; done) | (simp; omega)) _))⟩

set_option maxRecDepth 100000 in
set_option maxHeartbeats 4000000 in
theorem rext_f8 (sz : Nat) (hs0 : sz = 8) (data r : List Int) (hdl : data.length = sz) (a : Option Addr) (n c : Nat) (w : World) (hv : Vw w a n c (215 :: 255 :: (data ++ r))) :
    ∃ a1 a2, Vw w a1 (n - (2 + sz)) (c - (2 + sz)) r ∧ Vw w a2 sz sz data ∧ ∀ W, Below w.heap.size w W → Calls Tryd.prog 57 #[.slice a n c] W fun e w' => e = .returned (.tuple #[.int .i8 (-1), .slice a1 (n - (2 + sz)) (c - (2 + sz)), .slice a2 sz sz, .nilIface]) ∧ Below W.heap.size W w' := by
  have hn := hv.len
  simp at hn
  have hcn := hv.cap
  have hcb := hv.big
  subst hs0
  obtain ⟨a1, ho1, hv1⟩ := off_of hv 10 (2 + 8) (by omega) (by omega)
  obtain ⟨a3, ho3, hv3⟩ := off_of hv 2 2 rfl (by omega)
  obtain ⟨a2, ho2, hv2⟩ := hv.mid 2 (2 + 8) 2 10 rfl (by omega) (by omega) (by omega)
  unfold Off at ho1 ho3
  have e1 : (215 :: 255 :: (data ++ r)).drop (2 + 8) = r := by
    have : (215 :: 255 :: (data ++ r)) = [215, 255] ++ (data ++ r) := rfl
    rw [this, ← List.drop_drop]
    simp [List.drop_append, hdl]
  have e2 : ((215 :: 255 :: (data ++ r)).drop 2).take (2 + 8 - 2) = data := by
    have : (215 :: 255 :: (data ++ r)) = [215, 255] ++ (data ++ r) := rfl
    rw [this]
    simp [List.drop_append, hdl]
  rw [e1] at hv1
  rw [e2] at hv2
  simp only [Nat.add_sub_cancel_left] at hv2 ho2
  refine ⟨a1, a2, hv1, hv2, fun W hW => ?_⟩
  have hvW := hv.below hW (Nat.le_refl _)
  have d3 : decide ((n : Int) < 3) = false := by simp; omega
  have d5 : decide (((n - 2 : Nat) : Int) < 8) = false := by simp; omega
  have d5n : ¬ (n - 2 < 8) := by omega
  have d5m : decide (n - 2 < 8) = false := by simp; omega
  rcases hvW.cells with h9 | ⟨b, off, rfl, hc⟩
  · omega
  have q0 : W.cell? ⟨b, off, none⟩ = some (.int .u8 215) := by simpa using hc 0 (by omega)
  have q1 : W.cell? ⟨b, off + 1, none⟩ = some (.int .u8 255) := by simpa using hc 1 (by omega)
  have b0 : (0 : Int) < (n : Int) := by omega
  have b1 : (1 : Int) < (n : Int) := by omega
  have hdl0 := hdl
  clear hc hn hv hvW hW hv1 hv2 hv3 e1 e2 hdl hdl0
  go_enter Tryd.func57, Tryd.ntmps57
  go_wp2_with fail
  go_quiet (fail)
  go_wp2_with fail
  (try simp only [Exit.inBlock, Exit.then]); refine bodyPost_ret (results_tmp4 rfl _ _ _) rfl ?_
  exact ⟨rfl, by (repeat (first | with_reducible exact Below.refl _ _ | with_reducible assumption | with_reducible refine below_drewN ?_ _ | with_reducible refine Below.drew ?_ | with_reducible refine below_row ?_ (by first | omega | (simp; done) | (simp; omega)) _ | with_reducible refine Below.alloc ?_ (by first | omega | (simp; done) | (simp; omega)) _ | with_reducible refine Below.setCell ?_ (by first | omega | (simp; done) | (simp; omega)) _))⟩

set_option maxRecDepth 100000 in
set_option maxHeartbeats 4000000 in
theorem rext_e8 (sz : Nat) (hs0 : 0 < sz ∧ sz < 256) (data r : List Int) (hdl : data.length = sz) (a : Option Addr) (n c : Nat) (w : World) (hv : Vw w a n c (199 :: (sz : Int) :: 255 :: (data ++ r))) :
    ∃ a1 a2, Vw w a1 (n - (3 + sz)) (c - (3 + sz)) r ∧ Vw w a2 sz sz data ∧ ∀ W, Below w.heap.size w W → Calls Tryd.prog 57 #[.slice a n c] W fun e w' => e = .returned (.tuple #[.int .i8 (-1), .slice a1 (n - (3 + sz)) (c - (3 + sz)), .slice a2 sz sz, .nilIface]) ∧ Below W.heap.size W w' := by
  have hn := hv.len
  simp at hn
  have hcn := hv.cap
  have hcb := hv.big
  obtain ⟨hs0, hs1⟩ := hs0
  obtain ⟨a1, ho1, hv1⟩ := off_of hv (3 + (sz : Int)) (3 + sz) (by omega) (by omega)
  obtain ⟨a3, ho3, hv3⟩ := off_of hv 3 3 rfl (by omega)
  obtain ⟨a2, ho2, hv2⟩ := hv.mid 3 (3 + sz) 3 (3 + (sz : Int)) rfl (by omega) (by omega) (by omega)
  unfold Off at ho1 ho3
  have e1 : (199 :: (sz : Int) :: 255 :: (data ++ r)).drop (3 + sz) = r := by
    have : (199 :: (sz : Int) :: 255 :: (data ++ r)) = [199, (sz : Int), 255] ++ (data ++ r) := rfl
    rw [this, ← List.drop_drop]
    simp [List.drop_append, hdl]
  have e2 : ((199 :: (sz : Int) :: 255 :: (data ++ r)).drop 3).take (3 + sz - 3) = data := by
    have : (199 :: (sz : Int) :: 255 :: (data ++ r)) = [199, (sz : Int), 255] ++ (data ++ r) := rfl
    rw [this]
    simp [List.drop_append, hdl]
  rw [e1] at hv1
  rw [e2] at hv2
  simp only [Nat.add_sub_cancel_left] at hv2 ho2
  refine ⟨a1, a2, hv1, hv2, fun W hW => ?_⟩
  have hvW := hv.below hW (Nat.le_refl _)
  have d3 : decide ((n : Int) < 3) = false := by simp; omega
  have d5 : decide (((n - 3 : Nat) : Int) < sz) = false := by simp; omega
  have d5n : ¬ (n - 3 < sz) := by omega
  have d5m : decide (n - 3 < sz) = false := by simp; omega
  rcases hvW.cells with h9 | ⟨b, off, rfl, hc⟩
  · omega
  have q0 : W.cell? ⟨b, off, none⟩ = some (.int .u8 199) := by simpa using hc 0 (by omega)
  have q1 : W.cell? ⟨b, off + 1, none⟩ = some (.int .u8 (sz : Int)) := by simpa using hc 1 (by omega)
  have q2 : W.cell? ⟨b, off + 2, none⟩ = some (.int .u8 255) := by simpa using hc 2 (by omega)
  have b0 : (0 : Int) < (n : Int) := by omega
  have b1 : (1 : Int) < (n : Int) := by omega
  have b2 : (2 : Int) < (n : Int) := by omega
  have z0 : ((sz : Int) == 0) = false := by simp; omega
  have hdl0 := hdl
  clear hc hn hv hvW hW hv1 hv2 hv3 e1 e2 hdl hdl0
  go_enter Tryd.func57, Tryd.ntmps57
  go_wp2_with fail
  go_quiet (fail)
  go_wp2_with fail
  (try simp only [Exit.inBlock, Exit.then]); refine bodyPost_ret (results_tmp4 rfl _ _ _) rfl ?_
  exact ⟨rfl, by (repeat (first | with_reducible exact Below.refl _ _ | with_reducible assumption | with_reducible refine below_drewN ?_ _ | with_reducible refine Below.drew ?_ | with_reducible refine below_row ?_ (by first | omega | (simp; done) | (simp; omega)) _ | with_reducible refine Below.alloc ?_ (by first | omega | (simp; done) | (simp; omega)) _ | with_reducible refine Below.setCell ?_ (by first | omega | (simp; done) | (simp; omega)) _))⟩

set_option maxRecDepth 100000 in
set_option maxHeartbeats 4000000 in
theorem rext_e16 (sz : Nat) (hs0 : 0 < sz ∧ sz < 256) (data r : List Int) (hdl : data.length = sz) (a : Option Addr) (n c : Nat) (w : World) (hv : Vw w a n c (200 :: 0 :: (sz : Int) :: 255 :: (data ++ r))) :
    ∃ a1 a2, Vw w a1 (n - (4 + sz)) (c - (4 + sz)) r ∧ Vw w a2 sz sz data ∧ ∀ W, Below w.heap.size w W → Calls Tryd.prog 57 #[.slice a n c] W fun e w' => e = .returned (.tuple #[.int .i8 (-1), .slice a1 (n - (4 + sz)) (c - (4 + sz)), .slice a2 sz sz, .nilIface]) ∧ Below W.heap.size W w' := by
  have hn := hv.len
  simp at hn
  have hcn := hv.cap
  have hcb := hv.big
  obtain ⟨hs0, hs1⟩ := hs0
  obtain ⟨a1, ho1, hv1⟩ := off_of hv (4 + (sz : Int)) (4 + sz) (by omega) (by omega)
  obtain ⟨a3, ho3, hv3⟩ := off_of hv 4 4 rfl (by omega)
  obtain ⟨a2, ho2, hv2⟩ := hv.mid 4 (4 + sz) 4 (4 + (sz : Int)) rfl (by omega) (by omega) (by omega)
  unfold Off at ho1 ho3
  have e1 : (200 :: 0 :: (sz : Int) :: 255 :: (data ++ r)).drop (4 + sz) = r := by
    have : (200 :: 0 :: (sz : Int) :: 255 :: (data ++ r)) = [200, 0, (sz : Int), 255] ++ (data ++ r) := rfl
    rw [this, ← List.drop_drop]
    simp [List.drop_append, hdl]
  have e2 : ((200 :: 0 :: (sz : Int) :: 255 :: (data ++ r)).drop 4).take (4 + sz - 4) = data := by
    have : (200 :: 0 :: (sz : Int) :: 255 :: (data ++ r)) = [200, 0, (sz : Int), 255] ++ (data ++ r) := rfl
    rw [this]
    simp [List.drop_append, hdl]
  rw [e1] at hv1
  rw [e2] at hv2
  simp only [Nat.add_sub_cancel_left] at hv2 ho2
  refine ⟨a1, a2, hv1, hv2, fun W hW => ?_⟩
  have hvW := hv.below hW (Nat.le_refl _)
  have d3 : decide ((n : Int) < 3) = false := by simp; omega
  have d5 : decide (((n - 4 : Nat) : Int) < sz) = false := by simp; omega
  have d5n : ¬ (n - 4 < sz) := by omega
  have d5m : decide (n - 4 < sz) = false := by simp; omega
  rcases hvW.cells with h9 | ⟨b, off, rfl, hc⟩
  · omega
  have q0 : W.cell? ⟨b, off, none⟩ = some (.int .u8 200) := by simpa using hc 0 (by omega)
  have q1 : W.cell? ⟨b, off + 1, none⟩ = some (.int .u8 0) := by simpa using hc 1 (by omega)
  have q2 : W.cell? ⟨b, off + 2, none⟩ = some (.int .u8 (sz : Int)) := by simpa using hc 2 (by omega)
  have q3 : W.cell? ⟨b, off + 3, none⟩ = some (.int .u8 255) := by simpa using hc 3 (by omega)
  have b0 : (0 : Int) < (n : Int) := by omega
  have b1 : (1 : Int) < (n : Int) := by omega
  have b2 : (2 : Int) < (n : Int) := by omega
  have b3 : (3 : Int) < (n : Int) := by omega
  have d6 : decide ((n : Int) < 4) = false := by simp; omega
  obtain ⟨a4, ho4, hv4⟩ := off_of hvW 1 1 rfl (by omega)
  unfold Off at ho4
  have hbe := fun U (h : Vw U a4 (n - 1) (c - 1) (0 :: (sz : Int) :: 255 :: (data ++ r))) => be16_any a4 (n - 1) (c - 1) 0 (sz : Int) (255 :: (data ++ r)) U h
  have hbn : beN [0, (sz : Int)] = (sz : Int) := by simp [beN]
  rw [hbn] at hbe
  have HB := Lib.hid hbe
  simp only [List.drop_succ_cons, List.drop_zero] at hv4
  have HV := Lib.hid hv4
  have hbl : b < W.heap.size := World.block_lt_of_cell? W _ q0
  clear hbe hbn hv4
  have hdl0 := hdl
  clear hc hn hv hvW hW hv1 hv2 hv3 e1 e2 hdl hdl0
  go_enter Tryd.func57, Tryd.ntmps57
  go_wp2_with fail
  go_region_held3 (fun U => Below W.heap.size W U) (first | exact Below.refl _ _ | exact (Below.refl _ _).drew | exact hb4 | assumption) (first | (go_at_call 66; refine (HB.out _ (HV.out.drew)).mono ?_; rintro e w3 ⟨rfl, hb3⟩; have hb4 : Below W.heap.size W w3 := Below.trans (b := W.drew) (Below.refl _ _).drew hb3))
  have hqc : ∀ i, w3.cell? ⟨b, off + i, none⟩ = W.cell? ⟨b, off + i, none⟩ := fun i => hb4.cell (p := ⟨b, off + i, none⟩) hbl
  have qq := hqc 3
  rw [q3] at qq
  clear hqc
  go_wp2_with fail
  go_quiet (fail)
  go_wp2_with fail
  (try simp only [Exit.inBlock, Exit.then]); refine bodyPost_ret (results_tmp4 rfl _ _ _) rfl ?_
  exact ⟨rfl, by (repeat (first | with_reducible exact Below.refl _ _ | with_reducible assumption | with_reducible refine below_drewN ?_ _ | with_reducible refine Below.drew ?_ | with_reducible refine below_row ?_ (by first | omega | (simp; done) | (simp; omega)) _ | with_reducible refine Below.alloc ?_ (by first | omega | (simp; done) | (simp; omega)) _ | with_reducible refine Below.setCell ?_ (by first | omega | (simp; done) | (simp; omega)) _))⟩

set_option maxRecDepth 100000 in
set_option maxHeartbeats 4000000 in
theorem rext_e32 (sz : Nat) (hs0 : 0 < sz ∧ sz < 256) (data r : List Int) (hdl : data.length = sz) (a : Option Addr) (n c : Nat) (w : World) (hv : Vw w a n c (201 :: 0 :: 0 :: 0 :: (sz : Int) :: 255 :: (data ++ r))) :
    ∃ a1 a2, Vw w a1 (n - (6 + sz)) (c - (6 + sz)) r ∧ Vw w a2 sz sz data ∧ ∀ W, Below w.heap.size w W → Calls Tryd.prog 57 #[.slice a n c] W fun e w' => e = .returned (.tuple #[.int .i8 (-1), .slice a1 (n - (6 + sz)) (c - (6 + sz)), .slice a2 sz sz, .nilIface]) ∧ Below W.heap.size W w' := by
  have hn := hv.len
  simp at hn
  have hcn := hv.cap
  have hcb := hv.big
  obtain ⟨hs0, hs1⟩ := hs0
  obtain ⟨a1, ho1, hv1⟩ := off_of hv (6 + (sz : Int)) (6 + sz) (by omega) (by omega)
  obtain ⟨a3, ho3, hv3⟩ := off_of hv 6 6 rfl (by omega)
  obtain ⟨a2, ho2, hv2⟩ := hv.mid 6 (6 + sz) 6 (6 + (sz : Int)) rfl (by omega) (by omega) (by omega)
  unfold Off at ho1 ho3
  have e1 : (201 :: 0 :: 0 :: 0 :: (sz : Int) :: 255 :: (data ++ r)).drop (6 + sz) = r := by
    have : (201 :: 0 :: 0 :: 0 :: (sz : Int) :: 255 :: (data ++ r)) = [201, 0, 0, 0, (sz : Int), 255] ++ (data ++ r) := rfl
    rw [this, ← List.drop_drop]
    simp [List.drop_append, hdl]
  have e2 : ((201 :: 0 :: 0 :: 0 :: (sz : Int) :: 255 :: (data ++ r)).drop 6).take (6 + sz - 6) = data := by
    have : (201 :: 0 :: 0 :: 0 :: (sz : Int) :: 255 :: (data ++ r)) = [201, 0, 0, 0, (sz : Int), 255] ++ (data ++ r) := rfl
    rw [this]
    simp [List.drop_append, hdl]
  rw [e1] at hv1
  rw [e2] at hv2
  simp only [Nat.add_sub_cancel_left] at hv2 ho2
  refine ⟨a1, a2, hv1, hv2, fun W hW => ?_⟩
  have hvW := hv.below hW (Nat.le_refl _)
  have d3 : decide ((n : Int) < 3) = false := by simp; omega
  have d5 : decide (((n - 6 : Nat) : Int) < sz) = false := by simp; omega
  have d5n : ¬ (n - 6 < sz) := by omega
  have d5m : decide (n - 6 < sz) = false := by simp; omega
  rcases hvW.cells with h9 | ⟨b, off, rfl, hc⟩
  · omega
  have q0 : W.cell? ⟨b, off, none⟩ = some (.int .u8 201) := by simpa using hc 0 (by omega)
  have q1 : W.cell? ⟨b, off + 1, none⟩ = some (.int .u8 0) := by simpa using hc 1 (by omega)
  have q2 : W.cell? ⟨b, off + 2, none⟩ = some (.int .u8 0) := by simpa using hc 2 (by omega)
  have q3 : W.cell? ⟨b, off + 3, none⟩ = some (.int .u8 0) := by simpa using hc 3 (by omega)
  have q4 : W.cell? ⟨b, off + 4, none⟩ = some (.int .u8 (sz : Int)) := by simpa using hc 4 (by omega)
  have q5 : W.cell? ⟨b, off + 5, none⟩ = some (.int .u8 255) := by simpa using hc 5 (by omega)
  have b0 : (0 : Int) < (n : Int) := by omega
  have b1 : (1 : Int) < (n : Int) := by omega
  have b2 : (2 : Int) < (n : Int) := by omega
  have b3 : (3 : Int) < (n : Int) := by omega
  have b4 : (4 : Int) < (n : Int) := by omega
  have b5 : (5 : Int) < (n : Int) := by omega
  have d6 : decide ((n : Int) < 6) = false := by simp; omega
  obtain ⟨a4, ho4, hv4⟩ := off_of hvW 1 1 rfl (by omega)
  unfold Off at ho4
  have hbe := fun U (h : Vw U a4 (n - 1) (c - 1) (0 :: 0 :: 0 :: (sz : Int) :: 255 :: (data ++ r))) => be32_any a4 (n - 1) (c - 1) 0 0 0 (sz : Int) (255 :: (data ++ r)) U h
  have hbn : beN [0, 0, 0, (sz : Int)] = (sz : Int) := by simp [beN]
  rw [hbn] at hbe
  have HB := Lib.hid hbe
  simp only [List.drop_succ_cons, List.drop_zero] at hv4
  have HV := Lib.hid hv4
  have hbl : b < W.heap.size := World.block_lt_of_cell? W _ q0
  clear hbe hbn hv4
  have hdl0 := hdl
  clear hc hn hv hvW hW hv1 hv2 hv3 e1 e2 hdl hdl0
  go_enter Tryd.func57, Tryd.ntmps57
  go_wp2_with fail
  go_region_held3 (fun U => Below W.heap.size W U) (first | exact Below.refl _ _ | exact (Below.refl _ _).drew | exact hb4 | assumption) (first | (go_at_call 61; refine (HB.out _ (HV.out.drew)).mono ?_; rintro e w3 ⟨rfl, hb3⟩; have hb4 : Below W.heap.size W w3 := Below.trans (b := W.drew) (Below.refl _ _).drew hb3))
  have hqc : ∀ i, w3.cell? ⟨b, off + i, none⟩ = W.cell? ⟨b, off + i, none⟩ := fun i => hb4.cell (p := ⟨b, off + i, none⟩) hbl
  have qq := hqc 5
  rw [q5] at qq
  clear hqc
  go_wp2_with fail
  go_quiet (fail)
  go_wp2_with fail
  (try simp only [Exit.inBlock, Exit.then]); refine bodyPost_ret (results_tmp4 rfl _ _ _) rfl ?_
  exact ⟨rfl, by (repeat (first | with_reducible exact Below.refl _ _ | with_reducible assumption | with_reducible refine below_drewN ?_ _ | with_reducible refine Below.drew ?_ | with_reducible refine below_row ?_ (by first | omega | (simp; done) | (simp; omega)) _ | with_reducible refine Below.alloc ?_ (by first | omega | (simp; done) | (simp; omega)) _ | with_reducible refine Below.setCell ?_ (by first | omega | (simp; done) | (simp; omega)) _))⟩
end Go.Proofs.YtdncfolehkhjhaaDoor
