/- (*msgp.Writer).writeExtensionHeader: the head of an extension behind what a Writer holds. -/
import Derived.Test.YtliaiaefhbgblaaWrQ
import Derived.Deep.DeepCutAuto
namespace Go.Proofs.Ytliaiaefhbgblaa
open Go.RowKit
set_option linter.unusedVariables false
set_option linter.unusedSimpArgs false

theorem req_fin {w w1 w2 : World} {B : Nat} {K : Nat → Prop} {W G : Nat} {ta : Option Addr} {tn tc : Nat} {out : List Int} {cs cs' : Array Value} {sz wl : Nat} {pre tot : List Int} (h : Wrs w1 B (fun b => K b ∨ w.heap.size ≤ b) W B G ta tn tc out cs sz wl pre) (ht : tot = out ++ pre)
    (l : List Int) (hl : ∀ x ∈ l, 0 ≤ x ∧ x ≤ 255) (n : Nat) (hn : l.length = n) (hfit : wl + n ≤ sz) (hf : Frm w w1 K) (hb : Below B w w1) (hBl : B ≤ w1.heap.size)
    (hG : Blk w2 G 5 cs') (hs : cs'.size = cs.size) (hc : cs'.toList.take (wl + n) = cs.toList.take wl ++ bytesV l)
    (hF : Frm (w1.setCell ⟨W, 2, none⟩ (.int .i64 ((wl + n : Nat) : Int))) w2 (fun b => b = G)) (hB : Below B (w1.setCell ⟨W, 2, none⟩ (.int .i64 ((wl + n : Nat) : Int))) w2) :
    WrRes B K W sz (tot ++ l) w (.returned Value.nilIface) w2 := by
  subst hn
  have hq := h.laid2 l hl hfit hG (by rw [hs, h.hs]) (by rw [hc, h.hc]) _ rfl hF
  have hset : Below B w1 (w1.setCell ⟨W, 2, none⟩ (.int .i64 ((wl + l.length : Nat) : Int))) := (Below.refl _ _).setCell (p := ⟨W, 2, none⟩) h.bW _
  have hsz1 : w1.heap.size ≤ w2.heap.size := Nat.le_trans (by simp) hB.size
  refine wrRes_fin hq (by rw [ht]; simp) (fun _ h => h) ⟨Nat.le_trans hf.1 hsz1, fun b hb1 hnb => ?_⟩ (hb.trans (hset.trans hB)) (by omega) (Below.refl _ _)
  have g1 : b ≠ G := by rintro rfl; rcases h.kG with e | e; exact hnb e; omega
  have g2 : b ≠ W := by rintro rfl; rcases h.kW with e | e; exact hnb e; omega
  rw [hF.2 b (by simp; have := hf.1; omega) g1, Below.heap_setCell _ _ _ _ (by simpa using g2)]
  exact hf.2 b hb1 hnb

theorem req_puts {w w1 : World} {B : Nat} {K : Nat → Prop} {W G : Nat} {ta : Option Addr} {tn tc : Nat} {out : List Int} {cs : Array Value} {sz wl : Nat} {pre tot : List Int} (h : Wrs w1 B (fun b => K b ∨ w.heap.size ≤ b) W B G ta tn tc out cs sz wl pre) (ht : tot = out ++ pre)
    (l : List Int) (hl : ∀ x ∈ l, 0 ≤ x ∧ x ≤ 255) (n : Nat) (hn : l.length = n) (hfit : wl + n ≤ sz) (hf : Frm w w1 K) (hb : Below B w w1) (hBl : B ≤ w1.heap.size) :
    WrRes B K W sz (tot ++ l) w (.returned Value.nilIface) (puts (w1.setCell ⟨W, 2, none⟩ (.int .i64 ((wl + n : Nat) : Int))) G wl l) := by
  have hG := h.hG.other (Ne.symm h.wG) (p := ⟨W, 2, none⟩) (.int .i64 ((wl + n : Nat) : Int))
  obtain ⟨cs', h1, h2, h3⟩ := puts_blk (E := 5) l _ wl cs hG (by rw [h.hs, hn]; exact hfit)
  exact req_fin h ht l hl n hn hfit hf hb hBl h1 h2 (by rw [← hn]; exact h3) (puts_frm G l _ wl) (puts_below h.bG l _ wl)

/-- What a walk reads behind 'require'. -/
theorem req_cells {w1 : World} {B : Nat} {K : Nat → Prop} {W G : Nat} {ta : Option Addr} {tn tc : Nat} {out : List Int} {cs : Array Value} {sz wl : Nat} {pre : List Int} (h : Wrs w1 B K W B G ta tn tc out cs sz wl pre) (v : Value) :
    (w1.setCell ⟨W, 2, none⟩ v).cell? ⟨W, 1, none⟩ = some (.slice (some ⟨G, 0, none⟩) sz sz) ∧ Blk (w1.setCell ⟨W, 2, none⟩ v) G 5 cs ∧ W ≠ G ∧ G ≠ W ∧ G < (w1.setCell ⟨W, 2, none⟩ v).heap.size ∧ W < (w1.setCell ⟨W, 2, none⟩ v).heap.size :=
  ⟨(h.hW.set 2 v).cell rfl, h.hG.other (Ne.symm h.wG) _, h.wG, Ne.symm h.wG, by simp; exact h.hG.lt, by simp; exact h.hW.lt⟩

set_option maxHeartbeats 1000000 in
theorem putUint16_f (B g off n c : Nat) (u : Int) (w : World) (hu0 : 0 ≤ u) (hu1 : u < 65536) (cs : Array Value) (hB : Blk w g 5 cs) (hn : 2 ≤ n) (hfit : off + n ≤ cs.size) (hBg : B ≤ g) :
    Calls Try.prog 54 #[.agg #[], .slice (some ⟨g, off, none⟩) n c, .int .u16 u] w fun e w' => e = .returned (.tuple #[]) ∧ (∃ cs', Blk w' g 5 cs' ∧ cs'.size = cs.size ∧ cs'.toList.take (off + 2) = cs.toList.take off ++ bytesV [u / 256, u % 256]) ∧ Frm w w' (fun x => x = g) ∧ Below B w w' := by

  have hn0 : (0 : Int) < n := by omega
  have hn1 : (1 : Int) < n := by omega
  go_enter Try.func54, Try.ntmps54
  go_upto_region 1 with (fail)
  have hBa := fun o => hB.alloc o
  have hbl := fun o => (Below.refl w.heap.size w).alloc (Nat.le_refl _) o
  generalize hX : w.alloc _ = X
  have hBX : Blk X g 5 cs := by rw [← hX]; exact hB.alloc _
  have hbX : Below w.heap.size w X := by rw [← hX]; exact (Below.refl _ _).alloc (Nat.le_refl _) _
  clear hX hBa hbl
  obtain ⟨v0, h0⟩ : ∃ v, X.cell? ⟨g, off + 0, none⟩ = some v := ⟨_, hBX.cell (Array.getElem?_eq_getElem (by omega))⟩
  obtain ⟨v1, h1⟩ : ∃ v, X.cell? ⟨g, off + 1, none⟩ = some v := ⟨_, hBX.cell (Array.getElem?_eq_getElem (by omega))⟩
  have hf := fun i => hBX.frozen i
  simp only [Nat.add_zero] at h0
  have HBX := Lib.hid hBX
  have HbX := Lib.hid hbX
  have hBw : B ≤ w.heap.size := by have := hB.lt; omega
  clear hBX hbX
  go_wp2_with fail
  go_end0
  obtain ⟨cs', h1, h2, h3⟩ := puts_blk (E := 5) [u / 256, u % 256] X off cs HBX.out (by simp; omega)
  exact ⟨rfl, ⟨cs', h1, h2, by simpa using h3⟩, Frm.trans (Frm.below HbX.out _) (puts_frm g [u / 256, u % 256] X off), Below.trans (HbX.out.mono hBw) (puts_below hBg [u / 256, u % 256] X off)⟩

set_option maxHeartbeats 1000000 in
theorem putUint32_f (B g off n c : Nat) (u : Int) (w : World) (hu0 : 0 ≤ u) (hu1 : u < 4294967296) (cs : Array Value) (hB : Blk w g 5 cs) (hn : 4 ≤ n) (hfit : off + n ≤ cs.size) (hBg : B ≤ g) :
    Calls Try.prog 55 #[.agg #[], .slice (some ⟨g, off, none⟩) n c, .int .u32 u] w fun e w' => e = .returned (.tuple #[]) ∧ (∃ cs', Blk w' g 5 cs' ∧ cs'.size = cs.size ∧ cs'.toList.take (off + 4) = cs.toList.take off ++ bytesV [u / 16777216, u / 65536 % 256, u / 256 % 256, u % 256]) ∧ Frm w w' (fun x => x = g) ∧ Below B w w' := by

  have hn0 : (0 : Int) < n := by omega
  have hn1 : (1 : Int) < n := by omega
  have hn2 : (2 : Int) < n := by omega
  have hn3 : (3 : Int) < n := by omega
  go_enter Try.func55, Try.ntmps55
  go_upto_region 1 with (fail)
  have hBa := fun o => hB.alloc o
  have hbl := fun o => (Below.refl w.heap.size w).alloc (Nat.le_refl _) o
  generalize hX : w.alloc _ = X
  have hBX : Blk X g 5 cs := by rw [← hX]; exact hB.alloc _
  have hbX : Below w.heap.size w X := by rw [← hX]; exact (Below.refl _ _).alloc (Nat.le_refl _) _
  clear hX hBa hbl
  obtain ⟨v0, h0⟩ : ∃ v, X.cell? ⟨g, off + 0, none⟩ = some v := ⟨_, hBX.cell (Array.getElem?_eq_getElem (by omega))⟩
  obtain ⟨v1, h1⟩ : ∃ v, X.cell? ⟨g, off + 1, none⟩ = some v := ⟨_, hBX.cell (Array.getElem?_eq_getElem (by omega))⟩
  obtain ⟨v2, h2⟩ : ∃ v, X.cell? ⟨g, off + 2, none⟩ = some v := ⟨_, hBX.cell (Array.getElem?_eq_getElem (by omega))⟩
  obtain ⟨v3, h3⟩ : ∃ v, X.cell? ⟨g, off + 3, none⟩ = some v := ⟨_, hBX.cell (Array.getElem?_eq_getElem (by omega))⟩
  have hf := fun i => hBX.frozen i
  simp only [Nat.add_zero] at h0
  have HBX := Lib.hid hBX
  have HbX := Lib.hid hbX
  have hBw : B ≤ w.heap.size := by have := hB.lt; omega
  clear hBX hbX
  go_wp2_with fail
  go_end0
  obtain ⟨cs', h1, h2, h3⟩ := puts_blk (E := 5) [u / 16777216, u / 65536 % 256, u / 256 % 256, u % 256] X off cs HBX.out (by simp; omega)
  exact ⟨rfl, ⟨cs', h1, h2, by simpa using h3⟩, Frm.trans (Frm.below HbX.out _) (puts_frm g [u / 16777216, u / 65536 % 256, u / 256 % 256, u % 256] X off), Below.trans (HbX.out.mono hBw) (puts_below hBg [u / 16777216, u / 65536 % 256, u / 256 % 256, u % 256] X off)⟩

set_option maxRecDepth 100000 in
set_option maxHeartbeats 2000000 in
theorem hdr_0 (B : Nat) (K : Nat → Prop) (W sz wl : Nat) (tot : List Int)  (t : Int) (ht0 : -128 ≤ t) (ht1 : t ≤ 127) (w : World) (h : Wr w B K W sz wl tot) (hn : tot.length ≤ 1099511627776) :
    Calls Try.prog 43 #[.pointer (some ⟨W, 0, none⟩), .int .i64 0, .int .i8 t] w (WrRes B K W sz (tot ++ [199, 0, t % 256]) w) := by
  have hs18 : 18 ≤ sz := by obtain ⟨_, _, _, _, _, _, _, hw, _⟩ := h; exact hw.s18
  have hz0 : sz ≤ 1099511627776 := by obtain ⟨_, _, _, _, _, _, _, hw, _⟩ := h; exact hw.sz0
  have HR := Lib.hid (require_any B K W sz wl tot 3 (by omega) w h hn)
  clear h hn
  go_enter Try.func43, Try.ntmps43
  go_wp2_with fail
  refine HR.out.mono ?_
  rintro e V ⟨w1, G, ta, tn, tc, out, cs, wl2, pre, rfl, hw1, ht, hfit, hV, hf, hb, hBl⟩
  have HW1 := Lib.hid hw1
  have HT := Lib.hid ht
  have HX := Lib.hid (And.intro hf (And.intro hb hBl))
  obtain ⟨q1, hG, hWG, hGW, hGl, hWl⟩ := req_cells hw1 (.int .i64 ((wl2 + 3 : Nat) : Int))
  rw [← hV] at q1 hG hGl hWl
  have HV := Lib.hid hV
  have hcs := hw1.hs
  clear hw1 ht hf hb hBl hV
  obtain ⟨v0, h0⟩ : ∃ v, V.cell? ⟨G, wl2 + 0, none⟩ = some v := ⟨_, hG.cell (Array.getElem?_eq_getElem (by omega))⟩
  have b0 : (wl2 : Int) + 0 < sz := by omega
  obtain ⟨v1, h1⟩ : ∃ v, V.cell? ⟨G, wl2 + 1, none⟩ = some v := ⟨_, hG.cell (Array.getElem?_eq_getElem (by omega))⟩
  have b1 : (wl2 : Int) + 1 < sz := by omega
  obtain ⟨v2, h2⟩ : ∃ v, V.cell? ⟨G, wl2 + 2, none⟩ = some v := ⟨_, hG.cell (Array.getElem?_eq_getElem (by omega))⟩
  have b2 : (wl2 : Int) + 2 < sz := by omega
  simp only [Nat.add_zero] at h0
  have b00 : (wl2 : Int) < sz := by omega
  have b01 : wl2 < sz := by omega
  have hfz := fun i => hG.frozen i
  have HC := Lib.hid hcs
  clear hcs hG
  go_wp2_with fail
  go_ret
  have hp := req_puts HW1.out HT.out [199, 0, t % 256] (by intro x hx; simp at hx; omega) 3 rfl hfit HX.out.1 HX.out.2.1 HX.out.2.2
  rw [← HV.out] at hp
  exact hp

set_option maxRecDepth 100000 in
set_option maxHeartbeats 2000000 in
theorem hdr_f1 (B : Nat) (K : Nat → Prop) (W sz wl : Nat) (tot : List Int)  (t : Int) (ht0 : -128 ≤ t) (ht1 : t ≤ 127) (w : World) (h : Wr w B K W sz wl tot) (hn : tot.length ≤ 1099511627776) :
    Calls Try.prog 43 #[.pointer (some ⟨W, 0, none⟩), .int .i64 1, .int .i8 t] w (WrRes B K W sz (tot ++ [212, t % 256]) w) := by
  have hs18 : 18 ≤ sz := by obtain ⟨_, _, _, _, _, _, _, hw, _⟩ := h; exact hw.s18
  have hz0 : sz ≤ 1099511627776 := by obtain ⟨_, _, _, _, _, _, _, hw, _⟩ := h; exact hw.sz0
  have HR := Lib.hid (require_any B K W sz wl tot 2 (by omega) w h hn)
  clear h hn
  go_enter Try.func43, Try.ntmps43
  go_wp2_with fail
  refine HR.out.mono ?_
  rintro e V ⟨w1, G, ta, tn, tc, out, cs, wl2, pre, rfl, hw1, ht, hfit, hV, hf, hb, hBl⟩
  have HW1 := Lib.hid hw1
  have HT := Lib.hid ht
  have HX := Lib.hid (And.intro hf (And.intro hb hBl))
  obtain ⟨q1, hG, hWG, hGW, hGl, hWl⟩ := req_cells hw1 (.int .i64 ((wl2 + 2 : Nat) : Int))
  rw [← hV] at q1 hG hGl hWl
  have HV := Lib.hid hV
  have hcs := hw1.hs
  clear hw1 ht hf hb hBl hV
  obtain ⟨v0, h0⟩ : ∃ v, V.cell? ⟨G, wl2 + 0, none⟩ = some v := ⟨_, hG.cell (Array.getElem?_eq_getElem (by omega))⟩
  have b0 : (wl2 : Int) + 0 < sz := by omega
  obtain ⟨v1, h1⟩ : ∃ v, V.cell? ⟨G, wl2 + 1, none⟩ = some v := ⟨_, hG.cell (Array.getElem?_eq_getElem (by omega))⟩
  have b1 : (wl2 : Int) + 1 < sz := by omega
  simp only [Nat.add_zero] at h0
  have b00 : (wl2 : Int) < sz := by omega
  have b01 : wl2 < sz := by omega
  have hfz := fun i => hG.frozen i
  have HC := Lib.hid hcs
  clear hcs hG
  go_wp2_with fail
  go_ret
  have hp := req_puts HW1.out HT.out [212, t % 256] (by intro x hx; simp at hx; omega) 2 rfl hfit HX.out.1 HX.out.2.1 HX.out.2.2
  rw [← HV.out] at hp
  exact hp

set_option maxRecDepth 100000 in
set_option maxHeartbeats 2000000 in
theorem hdr_f2 (B : Nat) (K : Nat → Prop) (W sz wl : Nat) (tot : List Int)  (t : Int) (ht0 : -128 ≤ t) (ht1 : t ≤ 127) (w : World) (h : Wr w B K W sz wl tot) (hn : tot.length ≤ 1099511627776) :
    Calls Try.prog 43 #[.pointer (some ⟨W, 0, none⟩), .int .i64 2, .int .i8 t] w (WrRes B K W sz (tot ++ [213, t % 256]) w) := by
  have hs18 : 18 ≤ sz := by obtain ⟨_, _, _, _, _, _, _, hw, _⟩ := h; exact hw.s18
  have hz0 : sz ≤ 1099511627776 := by obtain ⟨_, _, _, _, _, _, _, hw, _⟩ := h; exact hw.sz0
  have HR := Lib.hid (require_any B K W sz wl tot 2 (by omega) w h hn)
  clear h hn
  go_enter Try.func43, Try.ntmps43
  go_wp2_with fail
  refine HR.out.mono ?_
  rintro e V ⟨w1, G, ta, tn, tc, out, cs, wl2, pre, rfl, hw1, ht, hfit, hV, hf, hb, hBl⟩
  have HW1 := Lib.hid hw1
  have HT := Lib.hid ht
  have HX := Lib.hid (And.intro hf (And.intro hb hBl))
  obtain ⟨q1, hG, hWG, hGW, hGl, hWl⟩ := req_cells hw1 (.int .i64 ((wl2 + 2 : Nat) : Int))
  rw [← hV] at q1 hG hGl hWl
  have HV := Lib.hid hV
  have hcs := hw1.hs
  clear hw1 ht hf hb hBl hV
  obtain ⟨v0, h0⟩ : ∃ v, V.cell? ⟨G, wl2 + 0, none⟩ = some v := ⟨_, hG.cell (Array.getElem?_eq_getElem (by omega))⟩
  have b0 : (wl2 : Int) + 0 < sz := by omega
  obtain ⟨v1, h1⟩ : ∃ v, V.cell? ⟨G, wl2 + 1, none⟩ = some v := ⟨_, hG.cell (Array.getElem?_eq_getElem (by omega))⟩
  have b1 : (wl2 : Int) + 1 < sz := by omega
  simp only [Nat.add_zero] at h0
  have b00 : (wl2 : Int) < sz := by omega
  have b01 : wl2 < sz := by omega
  have hfz := fun i => hG.frozen i
  have HC := Lib.hid hcs
  clear hcs hG
  go_wp2_with fail
  go_ret
  have hp := req_puts HW1.out HT.out [213, t % 256] (by intro x hx; simp at hx; omega) 2 rfl hfit HX.out.1 HX.out.2.1 HX.out.2.2
  rw [← HV.out] at hp
  exact hp

set_option maxRecDepth 100000 in
set_option maxHeartbeats 2000000 in
theorem hdr_f4 (B : Nat) (K : Nat → Prop) (W sz wl : Nat) (tot : List Int)  (t : Int) (ht0 : -128 ≤ t) (ht1 : t ≤ 127) (w : World) (h : Wr w B K W sz wl tot) (hn : tot.length ≤ 1099511627776) :
    Calls Try.prog 43 #[.pointer (some ⟨W, 0, none⟩), .int .i64 4, .int .i8 t] w (WrRes B K W sz (tot ++ [214, t % 256]) w) := by
  have hs18 : 18 ≤ sz := by obtain ⟨_, _, _, _, _, _, _, hw, _⟩ := h; exact hw.s18
  have hz0 : sz ≤ 1099511627776 := by obtain ⟨_, _, _, _, _, _, _, hw, _⟩ := h; exact hw.sz0
  have HR := Lib.hid (require_any B K W sz wl tot 2 (by omega) w h hn)
  clear h hn
  go_enter Try.func43, Try.ntmps43
  go_wp2_with fail
  refine HR.out.mono ?_
  rintro e V ⟨w1, G, ta, tn, tc, out, cs, wl2, pre, rfl, hw1, ht, hfit, hV, hf, hb, hBl⟩
  have HW1 := Lib.hid hw1
  have HT := Lib.hid ht
  have HX := Lib.hid (And.intro hf (And.intro hb hBl))
  obtain ⟨q1, hG, hWG, hGW, hGl, hWl⟩ := req_cells hw1 (.int .i64 ((wl2 + 2 : Nat) : Int))
  rw [← hV] at q1 hG hGl hWl
  have HV := Lib.hid hV
  have hcs := hw1.hs
  clear hw1 ht hf hb hBl hV
  obtain ⟨v0, h0⟩ : ∃ v, V.cell? ⟨G, wl2 + 0, none⟩ = some v := ⟨_, hG.cell (Array.getElem?_eq_getElem (by omega))⟩
  have b0 : (wl2 : Int) + 0 < sz := by omega
  obtain ⟨v1, h1⟩ : ∃ v, V.cell? ⟨G, wl2 + 1, none⟩ = some v := ⟨_, hG.cell (Array.getElem?_eq_getElem (by omega))⟩
  have b1 : (wl2 : Int) + 1 < sz := by omega
  simp only [Nat.add_zero] at h0
  have b00 : (wl2 : Int) < sz := by omega
  have b01 : wl2 < sz := by omega
  have hfz := fun i => hG.frozen i
  have HC := Lib.hid hcs
  clear hcs hG
  go_wp2_with fail
  go_ret
  have hp := req_puts HW1.out HT.out [214, t % 256] (by intro x hx; simp at hx; omega) 2 rfl hfit HX.out.1 HX.out.2.1 HX.out.2.2
  rw [← HV.out] at hp
  exact hp

set_option maxRecDepth 100000 in
set_option maxHeartbeats 2000000 in
theorem hdr_f8 (B : Nat) (K : Nat → Prop) (W sz wl : Nat) (tot : List Int)  (t : Int) (ht0 : -128 ≤ t) (ht1 : t ≤ 127) (w : World) (h : Wr w B K W sz wl tot) (hn : tot.length ≤ 1099511627776) :
    Calls Try.prog 43 #[.pointer (some ⟨W, 0, none⟩), .int .i64 8, .int .i8 t] w (WrRes B K W sz (tot ++ [215, t % 256]) w) := by
  have hs18 : 18 ≤ sz := by obtain ⟨_, _, _, _, _, _, _, hw, _⟩ := h; exact hw.s18
  have hz0 : sz ≤ 1099511627776 := by obtain ⟨_, _, _, _, _, _, _, hw, _⟩ := h; exact hw.sz0
  have HR := Lib.hid (require_any B K W sz wl tot 2 (by omega) w h hn)
  clear h hn
  go_enter Try.func43, Try.ntmps43
  go_wp2_with fail
  refine HR.out.mono ?_
  rintro e V ⟨w1, G, ta, tn, tc, out, cs, wl2, pre, rfl, hw1, ht, hfit, hV, hf, hb, hBl⟩
  have HW1 := Lib.hid hw1
  have HT := Lib.hid ht
  have HX := Lib.hid (And.intro hf (And.intro hb hBl))
  obtain ⟨q1, hG, hWG, hGW, hGl, hWl⟩ := req_cells hw1 (.int .i64 ((wl2 + 2 : Nat) : Int))
  rw [← hV] at q1 hG hGl hWl
  have HV := Lib.hid hV
  have hcs := hw1.hs
  clear hw1 ht hf hb hBl hV
  obtain ⟨v0, h0⟩ : ∃ v, V.cell? ⟨G, wl2 + 0, none⟩ = some v := ⟨_, hG.cell (Array.getElem?_eq_getElem (by omega))⟩
  have b0 : (wl2 : Int) + 0 < sz := by omega
  obtain ⟨v1, h1⟩ : ∃ v, V.cell? ⟨G, wl2 + 1, none⟩ = some v := ⟨_, hG.cell (Array.getElem?_eq_getElem (by omega))⟩
  have b1 : (wl2 : Int) + 1 < sz := by omega
  simp only [Nat.add_zero] at h0
  have b00 : (wl2 : Int) < sz := by omega
  have b01 : wl2 < sz := by omega
  have hfz := fun i => hG.frozen i
  have HC := Lib.hid hcs
  clear hcs hG
  go_wp2_with fail
  go_ret
  have hp := req_puts HW1.out HT.out [215, t % 256] (by intro x hx; simp at hx; omega) 2 rfl hfit HX.out.1 HX.out.2.1 HX.out.2.2
  rw [← HV.out] at hp
  exact hp

set_option maxRecDepth 100000 in
set_option maxHeartbeats 2000000 in
theorem hdr_f16 (B : Nat) (K : Nat → Prop) (W sz wl : Nat) (tot : List Int)  (t : Int) (ht0 : -128 ≤ t) (ht1 : t ≤ 127) (w : World) (h : Wr w B K W sz wl tot) (hn : tot.length ≤ 1099511627776) :
    Calls Try.prog 43 #[.pointer (some ⟨W, 0, none⟩), .int .i64 16, .int .i8 t] w (WrRes B K W sz (tot ++ [216, t % 256]) w) := by
  have hs18 : 18 ≤ sz := by obtain ⟨_, _, _, _, _, _, _, hw, _⟩ := h; exact hw.s18
  have hz0 : sz ≤ 1099511627776 := by obtain ⟨_, _, _, _, _, _, _, hw, _⟩ := h; exact hw.sz0
  have HR := Lib.hid (require_any B K W sz wl tot 2 (by omega) w h hn)
  clear h hn
  go_enter Try.func43, Try.ntmps43
  go_wp2_with fail
  refine HR.out.mono ?_
  rintro e V ⟨w1, G, ta, tn, tc, out, cs, wl2, pre, rfl, hw1, ht, hfit, hV, hf, hb, hBl⟩
  have HW1 := Lib.hid hw1
  have HT := Lib.hid ht
  have HX := Lib.hid (And.intro hf (And.intro hb hBl))
  obtain ⟨q1, hG, hWG, hGW, hGl, hWl⟩ := req_cells hw1 (.int .i64 ((wl2 + 2 : Nat) : Int))
  rw [← hV] at q1 hG hGl hWl
  have HV := Lib.hid hV
  have hcs := hw1.hs
  clear hw1 ht hf hb hBl hV
  obtain ⟨v0, h0⟩ : ∃ v, V.cell? ⟨G, wl2 + 0, none⟩ = some v := ⟨_, hG.cell (Array.getElem?_eq_getElem (by omega))⟩
  have b0 : (wl2 : Int) + 0 < sz := by omega
  obtain ⟨v1, h1⟩ : ∃ v, V.cell? ⟨G, wl2 + 1, none⟩ = some v := ⟨_, hG.cell (Array.getElem?_eq_getElem (by omega))⟩
  have b1 : (wl2 : Int) + 1 < sz := by omega
  simp only [Nat.add_zero] at h0
  have b00 : (wl2 : Int) < sz := by omega
  have b01 : wl2 < sz := by omega
  have hfz := fun i => hG.frozen i
  have HC := Lib.hid hcs
  clear hcs hG
  go_wp2_with fail
  go_ret
  have hp := req_puts HW1.out HT.out [216, t % 256] (by intro x hx; simp at hx; omega) 2 rfl hfit HX.out.1 HX.out.2.1 HX.out.2.2
  rw [← HV.out] at hp
  exact hp

set_option maxRecDepth 100000 in
set_option maxHeartbeats 2000000 in
theorem hdr_8 (B : Nat) (K : Nat → Prop) (W sz wl : Nat) (tot : List Int) (len : Nat) (hnf : len ≠ 0 ∧ len ≠ 1 ∧ len ≠ 2 ∧ len ≠ 4 ∧ len ≠ 8 ∧ len ≠ 16) (hlo : len < 255) (t : Int) (ht0 : -128 ≤ t) (ht1 : t ≤ 127) (w : World) (h : Wr w B K W sz wl tot) (hn : tot.length ≤ 1099511627776) :
    Calls Try.prog 43 #[.pointer (some ⟨W, 0, none⟩), .int .i64 (len : Int), .int .i8 t] w (WrRes B K W sz (tot ++ [199, (len : Int), t % 256]) w) := by
  have hs18 : 18 ≤ sz := by obtain ⟨_, _, _, _, _, _, _, hw, _⟩ := h; exact hw.s18
  have hz0 : sz ≤ 1099511627776 := by obtain ⟨_, _, _, _, _, _, _, hw, _⟩ := h; exact hw.sz0
  have HR := Lib.hid (require_any B K W sz wl tot 3 (by omega) w h hn)
  clear h hn
  have e0 : ((len : Int) == 0) = false := by simp; omega
  have e1 : ((len : Int) == 1) = false := by simp; omega
  have e2 : ((len : Int) == 2) = false := by simp; omega
  have e4 : ((len : Int) == 4) = false := by simp; omega
  have e8 : ((len : Int) == 8) = false := by simp; omega
  have e16 : ((len : Int) == 16) = false := by simp; omega
  have l8 : (len : Int) < 255 := by omega
  go_enter Try.func43, Try.ntmps43
  go_wp2_with fail
  refine HR.out.mono ?_
  rintro e V ⟨w1, G, ta, tn, tc, out, cs, wl2, pre, rfl, hw1, ht, hfit, hV, hf, hb, hBl⟩
  have HW1 := Lib.hid hw1
  have HT := Lib.hid ht
  have HX := Lib.hid (And.intro hf (And.intro hb hBl))
  obtain ⟨q1, hG, hWG, hGW, hGl, hWl⟩ := req_cells hw1 (.int .i64 ((wl2 + 3 : Nat) : Int))
  rw [← hV] at q1 hG hGl hWl
  have HV := Lib.hid hV
  have hcs := hw1.hs
  clear hw1 ht hf hb hBl hV
  obtain ⟨v0, h0⟩ : ∃ v, V.cell? ⟨G, wl2 + 0, none⟩ = some v := ⟨_, hG.cell (Array.getElem?_eq_getElem (by omega))⟩
  have b0 : (wl2 : Int) + 0 < sz := by omega
  obtain ⟨v1, h1⟩ : ∃ v, V.cell? ⟨G, wl2 + 1, none⟩ = some v := ⟨_, hG.cell (Array.getElem?_eq_getElem (by omega))⟩
  have b1 : (wl2 : Int) + 1 < sz := by omega
  obtain ⟨v2, h2⟩ : ∃ v, V.cell? ⟨G, wl2 + 2, none⟩ = some v := ⟨_, hG.cell (Array.getElem?_eq_getElem (by omega))⟩
  have b2 : (wl2 : Int) + 2 < sz := by omega
  simp only [Nat.add_zero] at h0
  have b00 : (wl2 : Int) < sz := by omega
  have b01 : wl2 < sz := by omega
  have hfz := fun i => hG.frozen i
  have HC := Lib.hid hcs
  clear hcs hG
  go_wp2_with fail
  go_ret
  have hp := req_puts HW1.out HT.out [199, (len : Int), t % 256] (by intro x hx; simp at hx; omega) 3 rfl hfit HX.out.1 HX.out.2.1 HX.out.2.2
  rw [← HV.out] at hp
  exact hp

set_option maxRecDepth 100000 in
set_option maxHeartbeats 2000000 in
theorem hdr_16 (B : Nat) (K : Nat → Prop) (W sz wl : Nat) (tot : List Int) (len : Nat) (hnf : len ≠ 0 ∧ len ≠ 1 ∧ len ≠ 2 ∧ len ≠ 4 ∧ len ≠ 8 ∧ len ≠ 16) (hlo : 255 ≤ len) (hhi : len < 65535) (t : Int) (ht0 : -128 ≤ t) (ht1 : t ≤ 127) (w : World) (h : Wr w B K W sz wl tot) (hn : tot.length ≤ 1099511627776) :
    Calls Try.prog 43 #[.pointer (some ⟨W, 0, none⟩), .int .i64 (len : Int), .int .i8 t] w (WrRes B K W sz (tot ++ [200, (len : Int) / 256, (len : Int) % 256, t % 256]) w) := by
  have hs18 : 18 ≤ sz := by obtain ⟨_, _, _, _, _, _, _, hw, _⟩ := h; exact hw.s18
  have hz0 : sz ≤ 1099511627776 := by obtain ⟨_, _, _, _, _, _, _, hw, _⟩ := h; exact hw.sz0
  have hBm : ∃ m, m = B := ⟨_, rfl⟩
  have HR := Lib.hid (require_any B K W sz wl tot 4 (by omega) w h hn)
  clear h hn
  have e0 : ((len : Int) == 0) = false := by simp; omega
  have e1 : ((len : Int) == 1) = false := by simp; omega
  have e2 : ((len : Int) == 2) = false := by simp; omega
  have e4 : ((len : Int) == 4) = false := by simp; omega
  have e8 : ((len : Int) == 8) = false := by simp; omega
  have e16 : ((len : Int) == 16) = false := by simp; omega
  have l8 : ¬ (len : Int) < 255 := by omega
  have l16 : (len : Int) < 65535 := by omega
  go_enter Try.func43, Try.ntmps43
  go_wp2_with fail
  refine HR.out.mono ?_
  rintro e V ⟨w1, G, ta, tn, tc, out, cs, wl2, pre, rfl, hw1, ht, hfit, hV, hf, hb, hBl⟩
  have HW1 := Lib.hid hw1
  have HT := Lib.hid ht
  have HX := Lib.hid (And.intro hf (And.intro hb hBl))
  obtain ⟨q1, hG, hWG, hGW, hGl, hWl⟩ := req_cells hw1 (.int .i64 ((wl2 + 4 : Nat) : Int))
  rw [← hV] at q1 hG hGl hWl
  have HV := Lib.hid hV
  have hcs := hw1.hs
  clear hw1 ht hf hb hBl hV
  obtain ⟨v0, h0⟩ : ∃ v, V.cell? ⟨G, wl2, none⟩ = some v := ⟨_, hG.cell (Array.getElem?_eq_getElem (by omega))⟩
  have b00 : (wl2 : Int) < sz := by omega
  have b01 : wl2 < sz := by omega
  have bk : (wl2 : Int) + 3 < sz := by omega
  have bk2 : wl2 + 3 < sz := by omega
  have hfz := fun i => hG.frozen i
  have hG1 : Blk (V.setCell ⟨G, wl2, none⟩ (.int .u8 200)) G 5 (cs.setIfInBounds wl2 (.int .u8 200)) := hG.set wl2 _
  have hsl := run_from (T := 23) (E := 5) Try.underlying23 size8 G sz (wl2 + 1) (by omega) hz0
  have hsl2 : ∀ w', (Instr.slice 23 (.slice (some ⟨G, 0, none⟩) sz sz) (some (.int .i64 ((wl2 : Int) + 1))) none none).run Try.prog w' = .ok (.slice (some ⟨G, wl2 + 1, none⟩) (sz - (wl2 + 1)) (sz - (wl2 + 1))) w' := hsl
  have q1s : (V.setCell ⟨G, wl2, none⟩ (.int .u8 200)).cell? ⟨W, 1, none⟩ = some (.slice (some ⟨G, 0, none⟩) sz sz) := by rw [World.cell?_setCell_other _ _ _ _ (by intro e; injection e with e; exact hGW e)]; exact q1
  have HG1 := Lib.hid hG1
  have HC := Lib.hid hcs
  have HG := Lib.hid hG
  clear hcs hG hG1
  have hbG := HW1.out.bG
  have HP := fun (w2 : World) (h2 : Blk w2 G 5 (cs.setIfInBounds wl2 (.int .u8 200))) => Lib.hid (putUint16_f B G (wl2 + 1) (sz - (wl2 + 1)) (sz - (wl2 + 1)) len w2 (by omega) (by omega) _ h2 (by omega) (by simp; have := HC.out; omega) hbG)
  go_wp2_with fail
  generalize hV1 : V.setCell ⟨G, wl2, none⟩ (.int .u8 200) = V1 at *
  have HWV : Hid (W < V1.heap.size) := Lib.hid (by rw [← hV1]; simpa using hWl)
  have HV1 := Lib.hid hV1
  clear hV1
  have q1d : V1.drew.cell? ⟨W, 1, none⟩ = some (.slice (some ⟨G, 0, none⟩) sz sz) := q1s
  have hsum : IntKind.i64.wrap ((wl2 : Int) + 1) = (wl2 : Int) + 1 := by rw [IntKind.wrap_i64]; omega
  have hwu : IntKind.u16.wrap (len : Int) = (len : Int) := by rw [IntKind.wrap_u16]; omega
  go_region_held3 (fun U => U.cell? ⟨W, 1, none⟩ = some (.slice (some ⟨G, 0, none⟩) sz sz)) (first | exact q1d | exact hW2) (first | (go_at_call 54; refine ((HP _ (HG1.out.drew)).out).mono ?_; rintro e w2 ⟨rfl, ⟨cs1, hc1, hc2, hc3⟩, hfr, hbl⟩; have hW2 : w2.cell? ⟨W, 1, none⟩ = some (.slice (some ⟨G, 0, none⟩) sz sz) := by rw [World.cell?_of_block (w := V1.drew) (hfr.2 W (by have := HWV.out; simpa using this) hWG)]; exact q1d))
  obtain ⟨v9, h9⟩ : ∃ v, w2.cell? ⟨G, wl2 + 3, none⟩ = some v := ⟨_, hc1.cell (Array.getElem?_eq_getElem (by have := HC.out; simp at hc2; omega))⟩
  have hfz2 := fun i => hc1.frozen i
  have hGl2 := hc1.lt
  have HC1 := Lib.hid (And.intro hc1 (And.intro hc2 hc3))
  have HFR := Lib.hid (And.intro hfr hbl)
  clear hc1 hc2 hc3 hfr hbl hGl hWl q1 q1s q1d h0 hfz hsl hsl2
  go_wp2_with fail
  go_ret
  obtain ⟨hc1, hc2, hc3⟩ := HC1.out
  have hcs := HC.out
  have hF1 : Frm V V1 (fun b => b = G) := by rw [← HV1.out]; exact Frm.set (p := fun b => b = G) (Frm.refl _ _) (x := ⟨G, wl2, none⟩) rfl _
  have hB1 : Below B V V1 := by rw [← HV1.out]; exact (Below.refl _ _).setCell (p := ⟨G, wl2, none⟩) hbG _
  have hFb : Frm V (w2.setCell ⟨G, wl2 + 3, none⟩ (.int .u8 (t % 256))) (fun b => b = G) := Frm.set (p := fun b => b = G) (hF1.trans (Frm.trans (Frm.refl V1 _) HFR.out.1)) (x := ⟨G, wl2 + 3, none⟩) rfl _
  have hBb : Below B V (w2.setCell ⟨G, wl2 + 3, none⟩ (.int .u8 (t % 256))) := (hB1.trans (Below.trans (b := V1.drew) (Below.refl B V1).drew HFR.out.2)).setCell (p := ⟨G, wl2 + 3, none⟩) hbG _
  rw [HV.out] at hFb hBb
  refine req_fin HW1.out HT.out [200, (len : Int) / 256, (len : Int) % 256, t % 256] (by intro x hx; simp at hx; omega) 4 rfl hfit HX.out.1 HX.out.2.1 HX.out.2.2 (hc1.set (wl2 + 3) _) (by simp at hc2 ⊢; omega) ?_ hFb hBb
  have h1 := take_set (v := .int .u8 200) (pre := cs.toList.take wl2) rfl (by omega)
  rw [h1] at hc3
  have h2 := take_set (v := .int .u8 (t % 256)) hc3 (by simp at hc2; omega)
  have e1 : wl2 + 1 + 2 = wl2 + 3 := by omega
  rw [e1] at h2
  rw [show wl2 + 4 = wl2 + 3 + 1 by omega, h2]
  simp [bytesV]

set_option maxRecDepth 100000 in
set_option maxHeartbeats 2000000 in
theorem hdr_32 (B : Nat) (K : Nat → Prop) (W sz wl : Nat) (tot : List Int) (len : Nat) (hnf : len ≠ 0 ∧ len ≠ 1 ∧ len ≠ 2 ∧ len ≠ 4 ∧ len ≠ 8 ∧ len ≠ 16) (hlo : 65535 ≤ len) (hhi : len < 1000000) (t : Int) (ht0 : -128 ≤ t) (ht1 : t ≤ 127) (w : World) (h : Wr w B K W sz wl tot) (hn : tot.length ≤ 1099511627776) :
    Calls Try.prog 43 #[.pointer (some ⟨W, 0, none⟩), .int .i64 (len : Int), .int .i8 t] w (WrRes B K W sz (tot ++ [201, (len : Int) / 16777216, (len : Int) / 65536 % 256, (len : Int) / 256 % 256, (len : Int) % 256, t % 256]) w) := by
  have hs18 : 18 ≤ sz := by obtain ⟨_, _, _, _, _, _, _, hw, _⟩ := h; exact hw.s18
  have hz0 : sz ≤ 1099511627776 := by obtain ⟨_, _, _, _, _, _, _, hw, _⟩ := h; exact hw.sz0
  have hBm : ∃ m, m = B := ⟨_, rfl⟩
  have HR := Lib.hid (require_any B K W sz wl tot 6 (by omega) w h hn)
  clear h hn
  have e0 : ((len : Int) == 0) = false := by simp; omega
  have e1 : ((len : Int) == 1) = false := by simp; omega
  have e2 : ((len : Int) == 2) = false := by simp; omega
  have e4 : ((len : Int) == 4) = false := by simp; omega
  have e8 : ((len : Int) == 8) = false := by simp; omega
  have e16 : ((len : Int) == 16) = false := by simp; omega
  have l8 : ¬ (len : Int) < 255 := by omega
  have l16 : ¬ (len : Int) < 65535 := by omega
  go_enter Try.func43, Try.ntmps43
  go_wp2_with fail
  refine HR.out.mono ?_
  rintro e V ⟨w1, G, ta, tn, tc, out, cs, wl2, pre, rfl, hw1, ht, hfit, hV, hf, hb, hBl⟩
  have HW1 := Lib.hid hw1
  have HT := Lib.hid ht
  have HX := Lib.hid (And.intro hf (And.intro hb hBl))
  obtain ⟨q1, hG, hWG, hGW, hGl, hWl⟩ := req_cells hw1 (.int .i64 ((wl2 + 6 : Nat) : Int))
  rw [← hV] at q1 hG hGl hWl
  have HV := Lib.hid hV
  have hcs := hw1.hs
  clear hw1 ht hf hb hBl hV
  obtain ⟨v0, h0⟩ : ∃ v, V.cell? ⟨G, wl2, none⟩ = some v := ⟨_, hG.cell (Array.getElem?_eq_getElem (by omega))⟩
  have b00 : (wl2 : Int) < sz := by omega
  have b01 : wl2 < sz := by omega
  have bk : (wl2 : Int) + 5 < sz := by omega
  have bk2 : wl2 + 5 < sz := by omega
  have hfz := fun i => hG.frozen i
  have hG1 : Blk (V.setCell ⟨G, wl2, none⟩ (.int .u8 201)) G 5 (cs.setIfInBounds wl2 (.int .u8 201)) := hG.set wl2 _
  have hsl := run_from (T := 23) (E := 5) Try.underlying23 size8 G sz (wl2 + 1) (by omega) hz0
  have hsl2 : ∀ w', (Instr.slice 23 (.slice (some ⟨G, 0, none⟩) sz sz) (some (.int .i64 ((wl2 : Int) + 1))) none none).run Try.prog w' = .ok (.slice (some ⟨G, wl2 + 1, none⟩) (sz - (wl2 + 1)) (sz - (wl2 + 1))) w' := hsl
  have q1s : (V.setCell ⟨G, wl2, none⟩ (.int .u8 201)).cell? ⟨W, 1, none⟩ = some (.slice (some ⟨G, 0, none⟩) sz sz) := by rw [World.cell?_setCell_other _ _ _ _ (by intro e; injection e with e; exact hGW e)]; exact q1
  have HG1 := Lib.hid hG1
  have HC := Lib.hid hcs
  have HG := Lib.hid hG
  clear hcs hG hG1
  have hbG := HW1.out.bG
  have HP := fun (w2 : World) (h2 : Blk w2 G 5 (cs.setIfInBounds wl2 (.int .u8 201))) => Lib.hid (putUint32_f B G (wl2 + 1) (sz - (wl2 + 1)) (sz - (wl2 + 1)) len w2 (by omega) (by omega) _ h2 (by omega) (by simp; have := HC.out; omega) hbG)
  go_wp2_with fail
  generalize hV1 : V.setCell ⟨G, wl2, none⟩ (.int .u8 201) = V1 at *
  have HWV : Hid (W < V1.heap.size) := Lib.hid (by rw [← hV1]; simpa using hWl)
  have HV1 := Lib.hid hV1
  clear hV1
  have q1d : V1.drew.cell? ⟨W, 1, none⟩ = some (.slice (some ⟨G, 0, none⟩) sz sz) := q1s
  have hsum : IntKind.i64.wrap ((wl2 : Int) + 1) = (wl2 : Int) + 1 := by rw [IntKind.wrap_i64]; omega
  have hwu : IntKind.u32.wrap (len : Int) = (len : Int) := by rw [IntKind.wrap_u32]; omega
  go_region_held3 (fun U => U.cell? ⟨W, 1, none⟩ = some (.slice (some ⟨G, 0, none⟩) sz sz)) (first | exact q1d | exact hW2) (first | (go_at_call 55; refine ((HP _ (HG1.out.drew)).out).mono ?_; rintro e w2 ⟨rfl, ⟨cs1, hc1, hc2, hc3⟩, hfr, hbl⟩; have hW2 : w2.cell? ⟨W, 1, none⟩ = some (.slice (some ⟨G, 0, none⟩) sz sz) := by rw [World.cell?_of_block (w := V1.drew) (hfr.2 W (by have := HWV.out; simpa using this) hWG)]; exact q1d))
  obtain ⟨v9, h9⟩ : ∃ v, w2.cell? ⟨G, wl2 + 5, none⟩ = some v := ⟨_, hc1.cell (Array.getElem?_eq_getElem (by have := HC.out; simp at hc2; omega))⟩
  have hfz2 := fun i => hc1.frozen i
  have hGl2 := hc1.lt
  have HC1 := Lib.hid (And.intro hc1 (And.intro hc2 hc3))
  have HFR := Lib.hid (And.intro hfr hbl)
  clear hc1 hc2 hc3 hfr hbl hGl hWl q1 q1s q1d h0 hfz hsl hsl2
  go_wp2_with fail
  go_ret
  obtain ⟨hc1, hc2, hc3⟩ := HC1.out
  have hcs := HC.out
  have hF1 : Frm V V1 (fun b => b = G) := by rw [← HV1.out]; exact Frm.set (p := fun b => b = G) (Frm.refl _ _) (x := ⟨G, wl2, none⟩) rfl _
  have hB1 : Below B V V1 := by rw [← HV1.out]; exact (Below.refl _ _).setCell (p := ⟨G, wl2, none⟩) hbG _
  have hFb : Frm V (w2.setCell ⟨G, wl2 + 5, none⟩ (.int .u8 (t % 256))) (fun b => b = G) := Frm.set (p := fun b => b = G) (hF1.trans (Frm.trans (Frm.refl V1 _) HFR.out.1)) (x := ⟨G, wl2 + 5, none⟩) rfl _
  have hBb : Below B V (w2.setCell ⟨G, wl2 + 5, none⟩ (.int .u8 (t % 256))) := (hB1.trans (Below.trans (b := V1.drew) (Below.refl B V1).drew HFR.out.2)).setCell (p := ⟨G, wl2 + 5, none⟩) hbG _
  rw [HV.out] at hFb hBb
  refine req_fin HW1.out HT.out [201, (len : Int) / 16777216, (len : Int) / 65536 % 256, (len : Int) / 256 % 256, (len : Int) % 256, t % 256] (by intro x hx; simp at hx; omega) 6 rfl hfit HX.out.1 HX.out.2.1 HX.out.2.2 (hc1.set (wl2 + 5) _) (by simp at hc2 ⊢; omega) ?_ hFb hBb
  have h1 := take_set (v := .int .u8 201) (pre := cs.toList.take wl2) rfl (by omega)
  rw [h1] at hc3
  have h2 := take_set (v := .int .u8 (t % 256)) hc3 (by simp at hc2; omega)
  have e1 : wl2 + 1 + 4 = wl2 + 5 := by omega
  rw [e1] at h2
  rw [show wl2 + 6 = wl2 + 5 + 1 by omega, h2]
  simp [bytesV]
end Go.Proofs.Ytliaiaefhbgblaa
