/- (*msgp.Writer).push, prefix8, prefix16, prefix32, prefix64: bytes behind what a Writer holds. -/
import Derived.Test.YtliaiaefhbgblaaWr
import Derived.Test.YtliaiaefhbgblaaPuts
namespace Go.Proofs.Ytliaiaefhbgblaa
open Go.RowKit
set_option linter.unusedVariables false
set_option linter.unusedSimpArgs false

theorem run_from {T E : TypeId} (hT : Try.prog.underlying T = some (.slice E)) (hE : ∀ w : World, (sizeOf E).run Try.prog w = .ok 1 w) (G sz wl : Nat) (hlt : wl < sz) (hb : sz ≤ 1099511627776) (w' : World) :
    (Instr.slice T (.slice (some ⟨G, 0, none⟩) sz sz) (some (.int .i64 (wl : Int))) none none).run Try.prog w' = .ok (.slice (some ⟨G, wl, none⟩) (sz - wl) (sz - wl)) w' := by
  have h0 := hE w'
  have hk : sz ≠ wl := by omega
  have h1 := run_sliceBound (P := Try.prog) w' .i64 (wl : Int) sz .sliceB (by omega) (by omega)
  simp [Instr.slice, Instr.sliceBounds, run_underlying hT, h1, h0, Sem.run_bind, Result.andThen, hk, Addr.add]
  omega
theorem size8 (w : World) : (sizeOf 5).run Try.prog w = .ok 1 w := by kernel_rfl

theorem puts_frm (g : Nat) : ∀ (l : List Int) (w : World) (off : Nat), Frm w (puts w g off l) (fun b => b = g)
  | [], w, _ => Frm.refl _ _
  | x :: r, w, off => by
    have h := puts_frm g r (w.setCell ⟨g, off, none⟩ (.int .u8 x)) (off + 1)
    exact Frm.trans (Frm.set (p := fun b => b = g) (Frm.refl w _) (x := ⟨g, off, none⟩) rfl _) h
theorem take_set {cs : Array Value} {wl : Nat} {v : Value} {pre : List Value} (h : cs.toList.take wl = pre) (hl : wl < cs.size) : (cs.setIfInBounds wl v).toList.take (wl + 1) = pre ++ [v] := by
  subst h
  apply List.ext_getElem?
  intro i
  simp only [Array.toList_setIfInBounds, List.getElem?_append, List.length_take, Array.length_toList, List.getElem?_take, List.getElem?_set]
  rw [Nat.min_eq_left (by omega)]
  by_cases h4 : i < wl
  · simp [h4, show i < wl + 1 by omega, show wl ≠ i by omega]
  · by_cases h5 : i = wl
    · subst h5; simp; omega
    · simp [h4, show ¬ i < wl + 1 by omega, show i - wl ≠ 0 by omega]

set_option maxRecDepth 100000 in
set_option maxHeartbeats 2000000 in
theorem push_any (B : Nat) (K : Nat → Prop) (W sz wl : Nat) (tot : List Int) (b : Int) (hb : 0 ≤ b ∧ b ≤ 255) (w : World) (h : Wr w B K W sz wl tot) (hn : tot.length ≤ 1099511627776) :
    Calls Try.prog 32 #[.pointer (some ⟨W, 0, none⟩), .int .u8 b] w (WrRes B K W sz (tot ++ [b]) w) := by
  obtain ⟨G0, ta0, tn0, tc0, out0, cs0, pre0, hw, ht⟩ := h
  obtain ⟨q0, q1, q2, qf, qz⟩ := hw.cells
  have s18 := hw.s18
  have sz0 := hw.sz0
  have hwl := hw.hwl
  have hBW := hw.bW
  have hKW := hw.kW
  have hBG := hw.bG
  have hKG := hw.kG
  have hBw : B ≤ w.heap.size := by omega
  have HF := Lib.hid (flush_any B K W B G0 ta0 tn0 tc0 out0 cs0 sz wl pre0)
  rw [ht] at hn
  have HT := Lib.hid ht
  clear ht
  have HN := Lib.hid hn
  clear hn
  by_cases hfull : wl = sz

  · have hd : ((wl : Int) == (sz : Int)) = true := by simp; omega
    go_enter Try.func32, Try.ntmps32
    go_wp2_with fail
    go_quiet (fail)
    go_wp2_with fail
    refine (HF.out _ (hw.below (below_drewN (Below.refl _ _) _)) HN.out).mono ?_
    rintro e w1 ⟨rfl, ⟨ta, tn, tc, hw1⟩, hf1, hb1⟩
    clear q0 q1 q2 qf qz
    obtain ⟨q0, q1, q2, qf, qz⟩ := hw1.cells
    have hs0 : (0 : Int) < (sz : Int) := by omega
    obtain ⟨v0, hv0⟩ : ∃ v, w1.cell? ⟨G0, 0, none⟩ = some v := ⟨_, hw1.hG.cell (Array.getElem?_eq_getElem (by have := hw1.hs; omega))⟩
    have hf0 := hw1.hG.frozen 0
    have hGl := hw1.hG.lt
    have hWG := hw1.wG
    have hGW := Ne.symm hw1.wG
    go_wp2_with fail
    go_still_tail 9, (by kernel_rfl)
    change wpList _ _ _ _ _ w1.drew
    go_wp2_with fail
    go_ret
    have hq := hw1.laid (w' := w1.setCell ⟨G0, 0, none⟩ (.int .u8 b)) [b] (by simpa using hb) (by simp; omega) (hw1.hG.set 0 (.int .u8 b)) (by simp; exact hw1.hs) (by simpa [bytesV] using take_set (v := .int .u8 b) hw1.hc (by rw [hw1.hs]; omega)) (Frm.set (p := fun x => x = G0) (Frm.refl _ _) (x := ⟨G0, 0, none⟩) rfl _) 1 (by simp)
    refine wrRes_fin hq (by rw [HT.out]; simp) (fun _ h => h) (Frm.set (p := K) (Frm.set (p := K) hf1 (x := ⟨G0, 0, none⟩) hKG _) (x := ⟨W, 2, none⟩) hKW _) (Below.setCell (Below.setCell (Below.trans (b := w.drewN nq) (below_drewN (Below.refl _ _) _) hb1) (p := ⟨G0, 0, none⟩) hBG _) (p := ⟨W, 2, none⟩) hBW _) (by simp; omega) (by (repeat (first | with_reducible exact Below.refl _ _ | with_reducible assumption | with_reducible refine below_drewN ?_ _ | with_reducible refine Below.drew ?_ | with_reducible refine below_row ?_ (by first | omega | (simp; done) | (simp; omega)) _ | with_reducible refine Below.alloc ?_ (by first | omega | (simp; done) | (simp; omega)) _ | with_reducible refine Below.setCell ?_ (by first | omega | (simp; done) | (simp; omega)) _)))
  · have hd : ((wl : Int) == (sz : Int)) = false := by simp; omega
    have hlt : (wl : Int) < (sz : Int) := by omega
    have hlt2 : wl < sz := by omega
    obtain ⟨v0, hv0⟩ : ∃ v, w.cell? ⟨G0, wl, none⟩ = some v := ⟨_, hw.hG.cell (Array.getElem?_eq_getElem (by have := hw.hs; omega))⟩
    go_enter Try.func32, Try.ntmps32
    go_wp2_with fail
    go_quiet (fail)
    go_wp2_with fail
    have hbV : Below w.heap.size w (w.drewN nq) := below_drewN (Below.refl _ _) _
    generalize w.drewN nq = V at hbV ⊢
    have hwV := hw.below hbV
    clear hv0 q0 q1 q2 qf qz
    obtain ⟨q0, q1, q2, qf, qz⟩ := hwV.cells
    obtain ⟨v0, hv0⟩ : ∃ v, V.cell? ⟨G0, wl, none⟩ = some v := ⟨_, hwV.hG.cell (Array.getElem?_eq_getElem (by have := hwV.hs; omega))⟩
    have hf0 := hwV.hG.frozen wl
    have hGl := hwV.hG.lt
    have hWG := hwV.wG
    have hGW := Ne.symm hwV.wG
    go_still_tail 9, (by kernel_rfl)
    change wpList _ _ _ _ _ V.drew
    go_wp2_with fail
    go_ret
    have hq := hwV.laid (w' := V.setCell ⟨G0, wl, none⟩ (.int .u8 b)) [b] (by simpa using hb) (by simp; omega) (hwV.hG.set wl (.int .u8 b)) (by simp; exact hwV.hs) (by simpa [bytesV] using take_set (v := .int .u8 b) hwV.hc (by rw [hwV.hs]; omega)) (Frm.set (p := fun x => x = G0) (Frm.refl _ _) (x := ⟨G0, wl, none⟩) rfl _) (wl + 1) (by simp)
    refine wrRes_fin hq (by rw [HT.out]; simp) (fun _ h => .inl h) (Frm.set (p := K) (Frm.set (p := K) (Frm.below hbV _) (x := ⟨G0, wl, none⟩) hKG _) (x := ⟨W, 2, none⟩) hKW _) (Below.setCell (Below.setCell (hbV.mono (by omega)) (p := ⟨G0, wl, none⟩) hBG _) (p := ⟨W, 2, none⟩) hBW _) (by simp; omega) (by (repeat (first | with_reducible exact Below.refl _ _ | with_reducible assumption | with_reducible refine below_drewN ?_ _ | with_reducible refine Below.drew ?_ | with_reducible refine below_row ?_ (by first | omega | (simp; done) | (simp; omega)) _ | with_reducible refine Below.alloc ?_ (by first | omega | (simp; done) | (simp; omega)) _ | with_reducible refine Below.setCell ?_ (by first | omega | (simp; done) | (simp; omega)) _)))

theorem prefixu8_f (B g off n c : Nat) (b u : Int) (w : World) (hu0 : 0 ≤ u) (hu1 : u < 256) (cs : Array Value) (hB : Blk w g 5 cs) (hn : 2 ≤ n) (hfit : off + n ≤ cs.size) (hBg : B ≤ g) :
    Calls Try.prog 48 #[.slice (some ⟨g, off, none⟩) n c, .int .u8 b, .int .u8 u] w fun e w' => e = .returned (.tuple #[]) ∧ (∃ cs', Blk w' g 5 cs' ∧ cs'.size = cs.size ∧ cs'.toList.take (off + 2) = cs.toList.take off ++ bytesV [b, u]) ∧ Frm w w' (fun x => x = g) ∧ Below B w w' := by
  refine (prefixu8_t g off n c b u w hu0 hu1 cs hB hn hfit).mono ?_
  rintro e w' ⟨rfl, rfl⟩
  obtain ⟨cs', h1, h2, h3⟩ := puts_blk (E := 5) [b, u] w off cs hB (by simp; omega)
  exact ⟨rfl, ⟨cs', h1, h2, by simpa using h3⟩, puts_frm g _ w off, puts_below hBg _ w off⟩

set_option maxRecDepth 100000 in
set_option maxHeartbeats 2000000 in
theorem prefix8_any (B : Nat) (K : Nat → Prop) (W sz wl : Nat) (tot : List Int) (b u : Int) (hb : 0 ≤ b ∧ b ≤ 255) (hu0 : 0 ≤ u) (hu1 : u < 256) (w : World) (h : Wr w B K W sz wl tot) (hn : tot.length ≤ 1099511627776) :
    Calls Try.prog 34 #[.pointer (some ⟨W, 0, none⟩), .int .u8 b, .int .u8 u] w (WrRes B K W sz (tot ++ [b, u]) w) := by
  obtain ⟨G0, ta0, tn0, tc0, out0, cs0, pre0, hw, ht⟩ := h
  obtain ⟨q0, q1, q2, qf, qz⟩ := hw.cells
  have s18 := hw.s18
  have sz0 := hw.sz0
  have hwl := hw.hwl
  have hBW := hw.bW
  have hKW := hw.kW
  have hBG := hw.bG
  have hKG := hw.kG
  have hBw : B ≤ w.heap.size := by omega
  have HF := Lib.hid (flush_any B K W B G0 ta0 tn0 tc0 out0 cs0 sz wl pre0)
  rw [ht] at hn
  have HT := Lib.hid ht
  clear ht
  have HN := Lib.hid hn
  clear hn
  by_cases hfull : sz - wl < 2

  · have hd : decide ((sz : Int) - (wl : Int) < 2) = true := by simp; omega
    have hd2 : (sz : Int) - (wl : Int) < 2 := by omega
    go_enter Try.func34, Try.ntmps34
    go_wp2_with fail
    go_quiet (fail)
    go_wp2_with fail
    refine (HF.out _ (hw.below (below_drewN (Below.refl _ _) _)) HN.out).mono ?_
    rintro e w1 ⟨rfl, ⟨ta, tn, tc, hw1⟩, hf1, hb1⟩
    clear q0 q1 q2 qf qz
    obtain ⟨q0, q1, q2, qf, qz⟩ := hw1.cells
    have hs0 : (0 : Int) < (sz : Int) := by omega
    go_wp2_with fail
    have hsl := run_from (T := 23) (E := 5) Try.underlying23 size8 G0 sz 0 (by omega) sz0
    have hWG := hw1.wG
    have hGs := hw1.hs
    have hw2 := hw1.below (Below.refl _ _).drew
    have HP := Lib.hid (prefixu8_f B G0 0 (sz - 0) (sz - 0) b u w1.drew hu0 hu1 cs0 hw2.hG (by omega) (by omega) hBG)
    have HW2 := Lib.hid hw2
    clear hw2
    go_region_held3 (fun V => V.cell? ⟨W, 0, none⟩ = some (.iface 68 (.pointer (some ⟨B, 0, none⟩))) ∧ V.cell? ⟨W, 1, none⟩ = some (.slice (some ⟨G0, 0, none⟩) sz sz) ∧ V.cell? ⟨W, 2, none⟩ = some (.int .i64 0)) (first | exact ⟨q0, q1, q2⟩ | exact ⟨hW1.cell rfl, hW1.cell rfl, hW1.cell rfl⟩) (first | (go_at_call 48; refine (HP.out).mono ?_; rintro e w2 ⟨rfl, ⟨cs1, hc1, hc2, hc3⟩, hfr, hbl⟩; have hW1 := hfr.blk HW2.out.hW hWG))
    have hq := HW2.out.laid (w' := w2) [b, u] (by intro x hx; simp at hx; omega) (by simp; omega) hc1 (by rw [hc2]; exact hGs) (by rw [show [b, u].length = 2 from rfl, hc3, HW2.out.hc]) hfr 2 (by simp)
    have HQ := Lib.hid hq
    have HC := Lib.hid (And.intro hc1 (And.intro hc2 hc3))
    clear hq hc1 hc2 hc3
    have p2 := hW1.cell (i := 2) rfl
    have hqf := hW1.frozen 2
    have hql := hW1.lt
    go_wp2_with fail
    go_ret
    refine wrRes_fin HQ.out (by rw [HT.out]; simp) (fun _ h => h) (Frm.set (p := K) (hf1.trans (hfr.imp (by rintro x _ rfl; exact hKG))) (x := ⟨W, 2, none⟩) hKW _) (Below.setCell (Below.trans (b := w1.drew) (Below.drew (Below.trans (b := w.drewN nq) (below_drewN (Below.refl _ _) _) hb1)) hbl) (p := ⟨W, 2, none⟩) hBW _) (by have := hbl.size; have := hb1.size; simp at *; omega) (by (repeat (first | with_reducible exact Below.refl _ _ | with_reducible assumption | with_reducible refine below_drewN ?_ _ | with_reducible refine Below.drew ?_ | with_reducible refine below_row ?_ (by first | omega | (simp; done) | (simp; omega)) _ | with_reducible refine Below.alloc ?_ (by first | omega | (simp; done) | (simp; omega)) _ | with_reducible refine Below.setCell ?_ (by first | omega | (simp; done) | (simp; omega)) _)))
  · have hd : decide ((sz : Int) - (wl : Int) < 2) = false := by simp; omega
    have hd2 : ¬ (sz : Int) - (wl : Int) < 2 := by omega
    go_enter Try.func34, Try.ntmps34
    go_wp2_with fail
    go_quiet (fail)
    go_wp2_with fail
    have hbV : Below w.heap.size w (w.drewN nq) := below_drewN (Below.refl _ _) _
    generalize w.drewN nq = V at hbV ⊢
    have hwV := hw.below hbV
    clear q0 q1 q2 qf qz
    obtain ⟨q0, q1, q2, qf, qz⟩ := hwV.cells
    have hsl := run_from (T := 23) (E := 5) Try.underlying23 size8 G0 sz wl (by omega) sz0
    have hWG := hwV.wG
    have hGs := hwV.hs
    have hw2 := hwV.below (Below.refl _ _).drew
    have HP := Lib.hid (prefixu8_f B G0 wl (sz - wl) (sz - wl) b u V.drew hu0 hu1 cs0 hw2.hG (by omega) (by omega) hBG)
    have HW2 := Lib.hid hw2
    clear hw2
    go_region_held3 (fun V => V.cell? ⟨W, 0, none⟩ = some (.iface 68 (.pointer (some ⟨B, 0, none⟩))) ∧ V.cell? ⟨W, 1, none⟩ = some (.slice (some ⟨G0, 0, none⟩) sz sz) ∧ V.cell? ⟨W, 2, none⟩ = some (.int .i64 wl)) (first | exact ⟨q0, q1, q2⟩ | exact ⟨hW1.cell rfl, hW1.cell rfl, hW1.cell rfl⟩) (first | (go_at_call 48; refine (HP.out).mono ?_; rintro e w2 ⟨rfl, ⟨cs1, hc1, hc2, hc3⟩, hfr, hbl⟩; have hW1 := hfr.blk HW2.out.hW hWG))
    have hq := HW2.out.laid (w' := w2) [b, u] (by intro x hx; simp at hx; omega) (by simp; omega) hc1 (by rw [hc2]; exact hGs) (by rw [show [b, u].length = 2 from rfl, hc3, HW2.out.hc]) hfr (wl + 2) (by simp)
    have HQ := Lib.hid hq
    have HC := Lib.hid (And.intro hc1 (And.intro hc2 hc3))
    clear hq hc1 hc2 hc3
    have p2 := hW1.cell (i := 2) rfl
    have hqf := hW1.frozen 2
    have hql := hW1.lt
    go_wp2_with fail
    go_ret
    refine wrRes_fin HQ.out (by rw [HT.out]; simp) (fun _ h => .inl h) (Frm.set (p := K) ((Frm.below hbV _).trans (hfr.imp (by rintro x _ rfl; exact hKG))) (x := ⟨W, 2, none⟩) hKW _) (Below.setCell (Below.trans (b := V.drew) (Below.drew (hbV.mono hBw)) hbl) (p := ⟨W, 2, none⟩) hBW _) (by have := hbl.size; have := hbV.size; simp at *; omega) (by (repeat (first | with_reducible exact Below.refl _ _ | with_reducible assumption | with_reducible refine below_drewN ?_ _ | with_reducible refine Below.drew ?_ | with_reducible refine below_row ?_ (by first | omega | (simp; done) | (simp; omega)) _ | with_reducible refine Below.alloc ?_ (by first | omega | (simp; done) | (simp; omega)) _ | with_reducible refine Below.setCell ?_ (by first | omega | (simp; done) | (simp; omega)) _)))

theorem prefixu16_f (B g off n c : Nat) (b u : Int) (w : World) (hu0 : 0 ≤ u) (hu1 : u < 65536) (cs : Array Value) (hB : Blk w g 5 cs) (hn : 3 ≤ n) (hfit : off + n ≤ cs.size) (hBg : B ≤ g) :
    Calls Try.prog 49 #[.slice (some ⟨g, off, none⟩) n c, .int .u8 b, .int .u16 u] w fun e w' => e = .returned (.tuple #[]) ∧ (∃ cs', Blk w' g 5 cs' ∧ cs'.size = cs.size ∧ cs'.toList.take (off + 3) = cs.toList.take off ++ bytesV [b, u / 256, u % 256]) ∧ Frm w w' (fun x => x = g) ∧ Below B w w' := by
  refine (prefixu16_t g off n c b u w hu0 hu1 cs hB hn hfit).mono ?_
  rintro e w' ⟨rfl, rfl⟩
  obtain ⟨cs', h1, h2, h3⟩ := puts_blk (E := 5) [b, u / 256, u % 256] w off cs hB (by simp; omega)
  exact ⟨rfl, ⟨cs', h1, h2, by simpa using h3⟩, puts_frm g _ w off, puts_below hBg _ w off⟩

set_option maxRecDepth 100000 in
set_option maxHeartbeats 2000000 in
theorem prefix16_any (B : Nat) (K : Nat → Prop) (W sz wl : Nat) (tot : List Int) (b u : Int) (hb : 0 ≤ b ∧ b ≤ 255) (hu0 : 0 ≤ u) (hu1 : u < 65536) (w : World) (h : Wr w B K W sz wl tot) (hn : tot.length ≤ 1099511627776) :
    Calls Try.prog 35 #[.pointer (some ⟨W, 0, none⟩), .int .u8 b, .int .u16 u] w (WrRes B K W sz (tot ++ [b, u / 256, u % 256]) w) := by
  obtain ⟨G0, ta0, tn0, tc0, out0, cs0, pre0, hw, ht⟩ := h
  obtain ⟨q0, q1, q2, qf, qz⟩ := hw.cells
  have s18 := hw.s18
  have sz0 := hw.sz0
  have hwl := hw.hwl
  have hBW := hw.bW
  have hKW := hw.kW
  have hBG := hw.bG
  have hKG := hw.kG
  have hBw : B ≤ w.heap.size := by omega
  have HF := Lib.hid (flush_any B K W B G0 ta0 tn0 tc0 out0 cs0 sz wl pre0)
  rw [ht] at hn
  have HT := Lib.hid ht
  clear ht
  have HN := Lib.hid hn
  clear hn
  by_cases hfull : sz - wl < 3

  · have hd : decide ((sz : Int) - (wl : Int) < 3) = true := by simp; omega
    have hd2 : (sz : Int) - (wl : Int) < 3 := by omega
    go_enter Try.func35, Try.ntmps35
    go_wp2_with fail
    go_quiet (fail)
    go_wp2_with fail
    refine (HF.out _ (hw.below (below_drewN (Below.refl _ _) _)) HN.out).mono ?_
    rintro e w1 ⟨rfl, ⟨ta, tn, tc, hw1⟩, hf1, hb1⟩
    clear q0 q1 q2 qf qz
    obtain ⟨q0, q1, q2, qf, qz⟩ := hw1.cells
    have hs0 : (0 : Int) < (sz : Int) := by omega
    go_wp2_with fail
    have hsl := run_from (T := 23) (E := 5) Try.underlying23 size8 G0 sz 0 (by omega) sz0
    have hWG := hw1.wG
    have hGs := hw1.hs
    have hw2 := hw1.below (Below.refl _ _).drew
    have HP := Lib.hid (prefixu16_f B G0 0 (sz - 0) (sz - 0) b u w1.drew hu0 hu1 cs0 hw2.hG (by omega) (by omega) hBG)
    have HW2 := Lib.hid hw2
    clear hw2
    go_region_held3 (fun V => V.cell? ⟨W, 0, none⟩ = some (.iface 68 (.pointer (some ⟨B, 0, none⟩))) ∧ V.cell? ⟨W, 1, none⟩ = some (.slice (some ⟨G0, 0, none⟩) sz sz) ∧ V.cell? ⟨W, 2, none⟩ = some (.int .i64 0)) (first | exact ⟨q0, q1, q2⟩ | exact ⟨hW1.cell rfl, hW1.cell rfl, hW1.cell rfl⟩) (first | (go_at_call 49; refine (HP.out).mono ?_; rintro e w2 ⟨rfl, ⟨cs1, hc1, hc2, hc3⟩, hfr, hbl⟩; have hW1 := hfr.blk HW2.out.hW hWG))
    have hq := HW2.out.laid (w' := w2) [b, u / 256, u % 256] (by intro x hx; simp at hx; omega) (by simp; omega) hc1 (by rw [hc2]; exact hGs) (by rw [show [b, u / 256, u % 256].length = 3 from rfl, hc3, HW2.out.hc]) hfr 3 (by simp)
    have HQ := Lib.hid hq
    have HC := Lib.hid (And.intro hc1 (And.intro hc2 hc3))
    clear hq hc1 hc2 hc3
    have p2 := hW1.cell (i := 2) rfl
    have hqf := hW1.frozen 2
    have hql := hW1.lt
    go_wp2_with fail
    go_ret
    refine wrRes_fin HQ.out (by rw [HT.out]; simp) (fun _ h => h) (Frm.set (p := K) (hf1.trans (hfr.imp (by rintro x _ rfl; exact hKG))) (x := ⟨W, 2, none⟩) hKW _) (Below.setCell (Below.trans (b := w1.drew) (Below.drew (Below.trans (b := w.drewN nq) (below_drewN (Below.refl _ _) _) hb1)) hbl) (p := ⟨W, 2, none⟩) hBW _) (by have := hbl.size; have := hb1.size; simp at *; omega) (by (repeat (first | with_reducible exact Below.refl _ _ | with_reducible assumption | with_reducible refine below_drewN ?_ _ | with_reducible refine Below.drew ?_ | with_reducible refine below_row ?_ (by first | omega | (simp; done) | (simp; omega)) _ | with_reducible refine Below.alloc ?_ (by first | omega | (simp; done) | (simp; omega)) _ | with_reducible refine Below.setCell ?_ (by first | omega | (simp; done) | (simp; omega)) _)))
  · have hd : decide ((sz : Int) - (wl : Int) < 3) = false := by simp; omega
    have hd2 : ¬ (sz : Int) - (wl : Int) < 3 := by omega
    go_enter Try.func35, Try.ntmps35
    go_wp2_with fail
    go_quiet (fail)
    go_wp2_with fail
    have hbV : Below w.heap.size w (w.drewN nq) := below_drewN (Below.refl _ _) _
    generalize w.drewN nq = V at hbV ⊢
    have hwV := hw.below hbV
    clear q0 q1 q2 qf qz
    obtain ⟨q0, q1, q2, qf, qz⟩ := hwV.cells
    have hsl := run_from (T := 23) (E := 5) Try.underlying23 size8 G0 sz wl (by omega) sz0
    have hWG := hwV.wG
    have hGs := hwV.hs
    have hw2 := hwV.below (Below.refl _ _).drew
    have HP := Lib.hid (prefixu16_f B G0 wl (sz - wl) (sz - wl) b u V.drew hu0 hu1 cs0 hw2.hG (by omega) (by omega) hBG)
    have HW2 := Lib.hid hw2
    clear hw2
    go_region_held3 (fun V => V.cell? ⟨W, 0, none⟩ = some (.iface 68 (.pointer (some ⟨B, 0, none⟩))) ∧ V.cell? ⟨W, 1, none⟩ = some (.slice (some ⟨G0, 0, none⟩) sz sz) ∧ V.cell? ⟨W, 2, none⟩ = some (.int .i64 wl)) (first | exact ⟨q0, q1, q2⟩ | exact ⟨hW1.cell rfl, hW1.cell rfl, hW1.cell rfl⟩) (first | (go_at_call 49; refine (HP.out).mono ?_; rintro e w2 ⟨rfl, ⟨cs1, hc1, hc2, hc3⟩, hfr, hbl⟩; have hW1 := hfr.blk HW2.out.hW hWG))
    have hq := HW2.out.laid (w' := w2) [b, u / 256, u % 256] (by intro x hx; simp at hx; omega) (by simp; omega) hc1 (by rw [hc2]; exact hGs) (by rw [show [b, u / 256, u % 256].length = 3 from rfl, hc3, HW2.out.hc]) hfr (wl + 3) (by simp)
    have HQ := Lib.hid hq
    have HC := Lib.hid (And.intro hc1 (And.intro hc2 hc3))
    clear hq hc1 hc2 hc3
    have p2 := hW1.cell (i := 2) rfl
    have hqf := hW1.frozen 2
    have hql := hW1.lt
    go_wp2_with fail
    go_ret
    refine wrRes_fin HQ.out (by rw [HT.out]; simp) (fun _ h => .inl h) (Frm.set (p := K) ((Frm.below hbV _).trans (hfr.imp (by rintro x _ rfl; exact hKG))) (x := ⟨W, 2, none⟩) hKW _) (Below.setCell (Below.trans (b := V.drew) (Below.drew (hbV.mono hBw)) hbl) (p := ⟨W, 2, none⟩) hBW _) (by have := hbl.size; have := hbV.size; simp at *; omega) (by (repeat (first | with_reducible exact Below.refl _ _ | with_reducible assumption | with_reducible refine below_drewN ?_ _ | with_reducible refine Below.drew ?_ | with_reducible refine below_row ?_ (by first | omega | (simp; done) | (simp; omega)) _ | with_reducible refine Below.alloc ?_ (by first | omega | (simp; done) | (simp; omega)) _ | with_reducible refine Below.setCell ?_ (by first | omega | (simp; done) | (simp; omega)) _)))

theorem prefixu32_f (B g off n c : Nat) (b u : Int) (w : World) (hu0 : 0 ≤ u) (hu1 : u < 4294967296) (cs : Array Value) (hB : Blk w g 5 cs) (hn : 5 ≤ n) (hfit : off + n ≤ cs.size) (hBg : B ≤ g) :
    Calls Try.prog 50 #[.slice (some ⟨g, off, none⟩) n c, .int .u8 b, .int .u32 u] w fun e w' => e = .returned (.tuple #[]) ∧ (∃ cs', Blk w' g 5 cs' ∧ cs'.size = cs.size ∧ cs'.toList.take (off + 5) = cs.toList.take off ++ bytesV [b, u / 16777216, u / 65536 % 256, u / 256 % 256, u % 256]) ∧ Frm w w' (fun x => x = g) ∧ Below B w w' := by
  refine (prefixu32_t g off n c b u w hu0 hu1 cs hB hn hfit).mono ?_
  rintro e w' ⟨rfl, rfl⟩
  obtain ⟨cs', h1, h2, h3⟩ := puts_blk (E := 5) [b, u / 16777216, u / 65536 % 256, u / 256 % 256, u % 256] w off cs hB (by simp; omega)
  exact ⟨rfl, ⟨cs', h1, h2, by simpa using h3⟩, puts_frm g _ w off, puts_below hBg _ w off⟩

set_option maxRecDepth 100000 in
set_option maxHeartbeats 2000000 in
theorem prefix32_any (B : Nat) (K : Nat → Prop) (W sz wl : Nat) (tot : List Int) (b u : Int) (hb : 0 ≤ b ∧ b ≤ 255) (hu0 : 0 ≤ u) (hu1 : u < 4294967296) (w : World) (h : Wr w B K W sz wl tot) (hn : tot.length ≤ 1099511627776) :
    Calls Try.prog 36 #[.pointer (some ⟨W, 0, none⟩), .int .u8 b, .int .u32 u] w (WrRes B K W sz (tot ++ [b, u / 16777216, u / 65536 % 256, u / 256 % 256, u % 256]) w) := by
  obtain ⟨G0, ta0, tn0, tc0, out0, cs0, pre0, hw, ht⟩ := h
  obtain ⟨q0, q1, q2, qf, qz⟩ := hw.cells
  have s18 := hw.s18
  have sz0 := hw.sz0
  have hwl := hw.hwl
  have hBW := hw.bW
  have hKW := hw.kW
  have hBG := hw.bG
  have hKG := hw.kG
  have hBw : B ≤ w.heap.size := by omega
  have HF := Lib.hid (flush_any B K W B G0 ta0 tn0 tc0 out0 cs0 sz wl pre0)
  rw [ht] at hn
  have HT := Lib.hid ht
  clear ht
  have HN := Lib.hid hn
  clear hn
  by_cases hfull : sz - wl < 5

  · have hd : decide ((sz : Int) - (wl : Int) < 5) = true := by simp; omega
    have hd2 : (sz : Int) - (wl : Int) < 5 := by omega
    go_enter Try.func36, Try.ntmps36
    go_wp2_with fail
    go_quiet (fail)
    go_wp2_with fail
    refine (HF.out _ (hw.below (below_drewN (Below.refl _ _) _)) HN.out).mono ?_
    rintro e w1 ⟨rfl, ⟨ta, tn, tc, hw1⟩, hf1, hb1⟩
    clear q0 q1 q2 qf qz
    obtain ⟨q0, q1, q2, qf, qz⟩ := hw1.cells
    have hs0 : (0 : Int) < (sz : Int) := by omega
    go_wp2_with fail
    have hsl := run_from (T := 23) (E := 5) Try.underlying23 size8 G0 sz 0 (by omega) sz0
    have hWG := hw1.wG
    have hGs := hw1.hs
    have hw2 := hw1.below (Below.refl _ _).drew
    have HP := Lib.hid (prefixu32_f B G0 0 (sz - 0) (sz - 0) b u w1.drew hu0 hu1 cs0 hw2.hG (by omega) (by omega) hBG)
    have HW2 := Lib.hid hw2
    clear hw2
    go_region_held3 (fun V => V.cell? ⟨W, 0, none⟩ = some (.iface 68 (.pointer (some ⟨B, 0, none⟩))) ∧ V.cell? ⟨W, 1, none⟩ = some (.slice (some ⟨G0, 0, none⟩) sz sz) ∧ V.cell? ⟨W, 2, none⟩ = some (.int .i64 0)) (first | exact ⟨q0, q1, q2⟩ | exact ⟨hW1.cell rfl, hW1.cell rfl, hW1.cell rfl⟩) (first | (go_at_call 50; refine (HP.out).mono ?_; rintro e w2 ⟨rfl, ⟨cs1, hc1, hc2, hc3⟩, hfr, hbl⟩; have hW1 := hfr.blk HW2.out.hW hWG))
    have hq := HW2.out.laid (w' := w2) [b, u / 16777216, u / 65536 % 256, u / 256 % 256, u % 256] (by intro x hx; simp at hx; omega) (by simp; omega) hc1 (by rw [hc2]; exact hGs) (by rw [show [b, u / 16777216, u / 65536 % 256, u / 256 % 256, u % 256].length = 5 from rfl, hc3, HW2.out.hc]) hfr 5 (by simp)
    have HQ := Lib.hid hq
    have HC := Lib.hid (And.intro hc1 (And.intro hc2 hc3))
    clear hq hc1 hc2 hc3
    have p2 := hW1.cell (i := 2) rfl
    have hqf := hW1.frozen 2
    have hql := hW1.lt
    go_wp2_with fail
    go_ret
    refine wrRes_fin HQ.out (by rw [HT.out]; simp) (fun _ h => h) (Frm.set (p := K) (hf1.trans (hfr.imp (by rintro x _ rfl; exact hKG))) (x := ⟨W, 2, none⟩) hKW _) (Below.setCell (Below.trans (b := w1.drew) (Below.drew (Below.trans (b := w.drewN nq) (below_drewN (Below.refl _ _) _) hb1)) hbl) (p := ⟨W, 2, none⟩) hBW _) (by have := hbl.size; have := hb1.size; simp at *; omega) (by (repeat (first | with_reducible exact Below.refl _ _ | with_reducible assumption | with_reducible refine below_drewN ?_ _ | with_reducible refine Below.drew ?_ | with_reducible refine below_row ?_ (by first | omega | (simp; done) | (simp; omega)) _ | with_reducible refine Below.alloc ?_ (by first | omega | (simp; done) | (simp; omega)) _ | with_reducible refine Below.setCell ?_ (by first | omega | (simp; done) | (simp; omega)) _)))
  · have hd : decide ((sz : Int) - (wl : Int) < 5) = false := by simp; omega
    have hd2 : ¬ (sz : Int) - (wl : Int) < 5 := by omega
    go_enter Try.func36, Try.ntmps36
    go_wp2_with fail
    go_quiet (fail)
    go_wp2_with fail
    have hbV : Below w.heap.size w (w.drewN nq) := below_drewN (Below.refl _ _) _
    generalize w.drewN nq = V at hbV ⊢
    have hwV := hw.below hbV
    clear q0 q1 q2 qf qz
    obtain ⟨q0, q1, q2, qf, qz⟩ := hwV.cells
    have hsl := run_from (T := 23) (E := 5) Try.underlying23 size8 G0 sz wl (by omega) sz0
    have hWG := hwV.wG
    have hGs := hwV.hs
    have hw2 := hwV.below (Below.refl _ _).drew
    have HP := Lib.hid (prefixu32_f B G0 wl (sz - wl) (sz - wl) b u V.drew hu0 hu1 cs0 hw2.hG (by omega) (by omega) hBG)
    have HW2 := Lib.hid hw2
    clear hw2
    go_region_held3 (fun V => V.cell? ⟨W, 0, none⟩ = some (.iface 68 (.pointer (some ⟨B, 0, none⟩))) ∧ V.cell? ⟨W, 1, none⟩ = some (.slice (some ⟨G0, 0, none⟩) sz sz) ∧ V.cell? ⟨W, 2, none⟩ = some (.int .i64 wl)) (first | exact ⟨q0, q1, q2⟩ | exact ⟨hW1.cell rfl, hW1.cell rfl, hW1.cell rfl⟩) (first | (go_at_call 50; refine (HP.out).mono ?_; rintro e w2 ⟨rfl, ⟨cs1, hc1, hc2, hc3⟩, hfr, hbl⟩; have hW1 := hfr.blk HW2.out.hW hWG))
    have hq := HW2.out.laid (w' := w2) [b, u / 16777216, u / 65536 % 256, u / 256 % 256, u % 256] (by intro x hx; simp at hx; omega) (by simp; omega) hc1 (by rw [hc2]; exact hGs) (by rw [show [b, u / 16777216, u / 65536 % 256, u / 256 % 256, u % 256].length = 5 from rfl, hc3, HW2.out.hc]) hfr (wl + 5) (by simp)
    have HQ := Lib.hid hq
    have HC := Lib.hid (And.intro hc1 (And.intro hc2 hc3))
    clear hq hc1 hc2 hc3
    have p2 := hW1.cell (i := 2) rfl
    have hqf := hW1.frozen 2
    have hql := hW1.lt
    go_wp2_with fail
    go_ret
    refine wrRes_fin HQ.out (by rw [HT.out]; simp) (fun _ h => .inl h) (Frm.set (p := K) ((Frm.below hbV _).trans (hfr.imp (by rintro x _ rfl; exact hKG))) (x := ⟨W, 2, none⟩) hKW _) (Below.setCell (Below.trans (b := V.drew) (Below.drew (hbV.mono hBw)) hbl) (p := ⟨W, 2, none⟩) hBW _) (by have := hbl.size; have := hbV.size; simp at *; omega) (by (repeat (first | with_reducible exact Below.refl _ _ | with_reducible assumption | with_reducible refine below_drewN ?_ _ | with_reducible refine Below.drew ?_ | with_reducible refine below_row ?_ (by first | omega | (simp; done) | (simp; omega)) _ | with_reducible refine Below.alloc ?_ (by first | omega | (simp; done) | (simp; omega)) _ | with_reducible refine Below.setCell ?_ (by first | omega | (simp; done) | (simp; omega)) _)))

theorem prefixu64_f (B g off n c : Nat) (b u : Int) (w : World) (hu0 : 0 ≤ u) (hu1 : u < 18446744073709551616) (cs : Array Value) (hB : Blk w g 5 cs) (hn : 9 ≤ n) (hfit : off + n ≤ cs.size) (hBg : B ≤ g) :
    Calls Try.prog 51 #[.slice (some ⟨g, off, none⟩) n c, .int .u8 b, .int .u64 u] w fun e w' => e = .returned (.tuple #[]) ∧ (∃ cs', Blk w' g 5 cs' ∧ cs'.size = cs.size ∧ cs'.toList.take (off + 9) = cs.toList.take off ++ bytesV [b, u / 72057594037927936, u / 281474976710656 % 256, u / 1099511627776 % 256, u / 4294967296 % 256, u / 16777216 % 256, u / 65536 % 256, u / 256 % 256, u % 256]) ∧ Frm w w' (fun x => x = g) ∧ Below B w w' := by
  refine (prefixu64_t g off n c b u w hu0 hu1 cs hB hn hfit).mono ?_
  rintro e w' ⟨rfl, rfl⟩
  obtain ⟨cs', h1, h2, h3⟩ := puts_blk (E := 5) [b, u / 72057594037927936, u / 281474976710656 % 256, u / 1099511627776 % 256, u / 4294967296 % 256, u / 16777216 % 256, u / 65536 % 256, u / 256 % 256, u % 256] w off cs hB (by simp; omega)
  exact ⟨rfl, ⟨cs', h1, h2, by simpa using h3⟩, puts_frm g _ w off, puts_below hBg _ w off⟩

set_option maxRecDepth 100000 in
set_option maxHeartbeats 2000000 in
theorem prefix64_any (B : Nat) (K : Nat → Prop) (W sz wl : Nat) (tot : List Int) (b u : Int) (hb : 0 ≤ b ∧ b ≤ 255) (hu0 : 0 ≤ u) (hu1 : u < 18446744073709551616) (w : World) (h : Wr w B K W sz wl tot) (hn : tot.length ≤ 1099511627776) :
    Calls Try.prog 37 #[.pointer (some ⟨W, 0, none⟩), .int .u8 b, .int .u64 u] w (WrRes B K W sz (tot ++ [b, u / 72057594037927936, u / 281474976710656 % 256, u / 1099511627776 % 256, u / 4294967296 % 256, u / 16777216 % 256, u / 65536 % 256, u / 256 % 256, u % 256]) w) := by
  obtain ⟨G0, ta0, tn0, tc0, out0, cs0, pre0, hw, ht⟩ := h
  obtain ⟨q0, q1, q2, qf, qz⟩ := hw.cells
  have s18 := hw.s18
  have sz0 := hw.sz0
  have hwl := hw.hwl
  have hBW := hw.bW
  have hKW := hw.kW
  have hBG := hw.bG
  have hKG := hw.kG
  have hBw : B ≤ w.heap.size := by omega
  have HF := Lib.hid (flush_any B K W B G0 ta0 tn0 tc0 out0 cs0 sz wl pre0)
  rw [ht] at hn
  have HT := Lib.hid ht
  clear ht
  have HN := Lib.hid hn
  clear hn
  by_cases hfull : sz - wl < 9

  · have hd : decide ((sz : Int) - (wl : Int) < 9) = true := by simp; omega
    have hd2 : (sz : Int) - (wl : Int) < 9 := by omega
    go_enter Try.func37, Try.ntmps37
    go_wp2_with fail
    go_quiet (fail)
    go_wp2_with fail
    refine (HF.out _ (hw.below (below_drewN (Below.refl _ _) _)) HN.out).mono ?_
    rintro e w1 ⟨rfl, ⟨ta, tn, tc, hw1⟩, hf1, hb1⟩
    clear q0 q1 q2 qf qz
    obtain ⟨q0, q1, q2, qf, qz⟩ := hw1.cells
    have hs0 : (0 : Int) < (sz : Int) := by omega
    go_wp2_with fail
    have hsl := run_from (T := 23) (E := 5) Try.underlying23 size8 G0 sz 0 (by omega) sz0
    have hWG := hw1.wG
    have hGs := hw1.hs
    have hw2 := hw1.below (Below.refl _ _).drew
    have HP := Lib.hid (prefixu64_f B G0 0 (sz - 0) (sz - 0) b u w1.drew hu0 hu1 cs0 hw2.hG (by omega) (by omega) hBG)
    have HW2 := Lib.hid hw2
    clear hw2
    go_region_held3 (fun V => V.cell? ⟨W, 0, none⟩ = some (.iface 68 (.pointer (some ⟨B, 0, none⟩))) ∧ V.cell? ⟨W, 1, none⟩ = some (.slice (some ⟨G0, 0, none⟩) sz sz) ∧ V.cell? ⟨W, 2, none⟩ = some (.int .i64 0)) (first | exact ⟨q0, q1, q2⟩ | exact ⟨hW1.cell rfl, hW1.cell rfl, hW1.cell rfl⟩) (first | (go_at_call 51; refine (HP.out).mono ?_; rintro e w2 ⟨rfl, ⟨cs1, hc1, hc2, hc3⟩, hfr, hbl⟩; have hW1 := hfr.blk HW2.out.hW hWG))
    have hq := HW2.out.laid (w' := w2) [b, u / 72057594037927936, u / 281474976710656 % 256, u / 1099511627776 % 256, u / 4294967296 % 256, u / 16777216 % 256, u / 65536 % 256, u / 256 % 256, u % 256] (by intro x hx; simp at hx; omega) (by simp; omega) hc1 (by rw [hc2]; exact hGs) (by rw [show [b, u / 72057594037927936, u / 281474976710656 % 256, u / 1099511627776 % 256, u / 4294967296 % 256, u / 16777216 % 256, u / 65536 % 256, u / 256 % 256, u % 256].length = 9 from rfl, hc3, HW2.out.hc]) hfr 9 (by simp)
    have HQ := Lib.hid hq
    have HC := Lib.hid (And.intro hc1 (And.intro hc2 hc3))
    clear hq hc1 hc2 hc3
    have p2 := hW1.cell (i := 2) rfl
    have hqf := hW1.frozen 2
    have hql := hW1.lt
    go_wp2_with fail
    go_ret
    refine wrRes_fin HQ.out (by rw [HT.out]; simp) (fun _ h => h) (Frm.set (p := K) (hf1.trans (hfr.imp (by rintro x _ rfl; exact hKG))) (x := ⟨W, 2, none⟩) hKW _) (Below.setCell (Below.trans (b := w1.drew) (Below.drew (Below.trans (b := w.drewN nq) (below_drewN (Below.refl _ _) _) hb1)) hbl) (p := ⟨W, 2, none⟩) hBW _) (by have := hbl.size; have := hb1.size; simp at *; omega) (by (repeat (first | with_reducible exact Below.refl _ _ | with_reducible assumption | with_reducible refine below_drewN ?_ _ | with_reducible refine Below.drew ?_ | with_reducible refine below_row ?_ (by first | omega | (simp; done) | (simp; omega)) _ | with_reducible refine Below.alloc ?_ (by first | omega | (simp; done) | (simp; omega)) _ | with_reducible refine Below.setCell ?_ (by first | omega | (simp; done) | (simp; omega)) _)))
  · have hd : decide ((sz : Int) - (wl : Int) < 9) = false := by simp; omega
    have hd2 : ¬ (sz : Int) - (wl : Int) < 9 := by omega
    go_enter Try.func37, Try.ntmps37
    go_wp2_with fail
    go_quiet (fail)
    go_wp2_with fail
    have hbV : Below w.heap.size w (w.drewN nq) := below_drewN (Below.refl _ _) _
    generalize w.drewN nq = V at hbV ⊢
    have hwV := hw.below hbV
    clear q0 q1 q2 qf qz
    obtain ⟨q0, q1, q2, qf, qz⟩ := hwV.cells
    have hsl := run_from (T := 23) (E := 5) Try.underlying23 size8 G0 sz wl (by omega) sz0
    have hWG := hwV.wG
    have hGs := hwV.hs
    have hw2 := hwV.below (Below.refl _ _).drew
    have HP := Lib.hid (prefixu64_f B G0 wl (sz - wl) (sz - wl) b u V.drew hu0 hu1 cs0 hw2.hG (by omega) (by omega) hBG)
    have HW2 := Lib.hid hw2
    clear hw2
    go_region_held3 (fun V => V.cell? ⟨W, 0, none⟩ = some (.iface 68 (.pointer (some ⟨B, 0, none⟩))) ∧ V.cell? ⟨W, 1, none⟩ = some (.slice (some ⟨G0, 0, none⟩) sz sz) ∧ V.cell? ⟨W, 2, none⟩ = some (.int .i64 wl)) (first | exact ⟨q0, q1, q2⟩ | exact ⟨hW1.cell rfl, hW1.cell rfl, hW1.cell rfl⟩) (first | (go_at_call 51; refine (HP.out).mono ?_; rintro e w2 ⟨rfl, ⟨cs1, hc1, hc2, hc3⟩, hfr, hbl⟩; have hW1 := hfr.blk HW2.out.hW hWG))
    have hq := HW2.out.laid (w' := w2) [b, u / 72057594037927936, u / 281474976710656 % 256, u / 1099511627776 % 256, u / 4294967296 % 256, u / 16777216 % 256, u / 65536 % 256, u / 256 % 256, u % 256] (by intro x hx; simp at hx; omega) (by simp; omega) hc1 (by rw [hc2]; exact hGs) (by rw [show [b, u / 72057594037927936, u / 281474976710656 % 256, u / 1099511627776 % 256, u / 4294967296 % 256, u / 16777216 % 256, u / 65536 % 256, u / 256 % 256, u % 256].length = 9 from rfl, hc3, HW2.out.hc]) hfr (wl + 9) (by simp)
    have HQ := Lib.hid hq
    have HC := Lib.hid (And.intro hc1 (And.intro hc2 hc3))
    clear hq hc1 hc2 hc3
    have p2 := hW1.cell (i := 2) rfl
    have hqf := hW1.frozen 2
    have hql := hW1.lt
    go_wp2_with fail
    go_ret
    refine wrRes_fin HQ.out (by rw [HT.out]; simp) (fun _ h => .inl h) (Frm.set (p := K) ((Frm.below hbV _).trans (hfr.imp (by rintro x _ rfl; exact hKG))) (x := ⟨W, 2, none⟩) hKW _) (Below.setCell (Below.trans (b := V.drew) (Below.drew (hbV.mono hBw)) hbl) (p := ⟨W, 2, none⟩) hBW _) (by have := hbl.size; have := hbV.size; simp at *; omega) (by (repeat (first | with_reducible exact Below.refl _ _ | with_reducible assumption | with_reducible refine below_drewN ?_ _ | with_reducible refine Below.drew ?_ | with_reducible refine below_row ?_ (by first | omega | (simp; done) | (simp; omega)) _ | with_reducible refine Below.alloc ?_ (by first | omega | (simp; done) | (simp; omega)) _ | with_reducible refine Below.setCell ?_ (by first | omega | (simp; done) | (simp; omega)) _)))
#print axioms prefix16_any
end Go.Proofs.Ytliaiaefhbgblaa
