/- (*msgp.Writer).require: room in a Writer's buffer; what is laid there afterwards. -/
import Derived.Test.YtliaiaefhbgblaaWrP
namespace Go.Proofs.Ytliaiaefhbgblaa
open Go.RowKit
set_option linter.unusedVariables false
set_option linter.unusedSimpArgs false

/-- Bytes laid behind those in the buffer, the count raised ahead. -/
theorem Wrs.laid2 {w : World} {B : Nat} {K : Nat → Prop} {W T G : Nat} {ta : Option Addr} {tn tc : Nat} {out : List Int} {cs : Array Value} {sz wl : Nat} {pre : List Int} {w' : World} (h : Wrs w B K W T G ta tn tc out cs sz wl pre) (l : List Int) (hl : ∀ x ∈ l, 0 ≤ x ∧ x ≤ 255) (hfit : wl + l.length ≤ sz) {cs' : Array Value} (hG : Blk w' G 5 cs') (hs : cs'.size = sz)
    (hc : cs'.toList.take (wl + l.length) = bytesV pre ++ bytesV l) (n : Int) (hn : n = ((wl + l.length : Nat) : Int)) (hf : Frm (w.setCell ⟨W, 2, none⟩ (.int .i64 n)) w' (fun b => b = G)) :
    Wrs w' B K W T G ta tn tc out cs' sz (wl + l.length) (pre ++ l) := by
  subst hn
  have hT := hf.blk (h.hT.other h.tW _) h.tG
  have hW := hf.blk (h.hW.set 2 (.int .i64 ((wl + l.length : Nat) : Int))) h.wG
  have hO1 : O8 (w.setCell ⟨W, 2, none⟩ (.int .i64 ((wl + l.length : Nat) : Int))) B ta tn tc out := h.hO.setLt (fun x hx e => by
    simp at e
    exact h.hO.neT h.hW (by decide) (by rw [hx]; simp [blkOf, e])) _
  have hO : O8 w' B ta tn tc out := hO1.kept fun g cur ha hB => hf.blk hB (fun e => h.gO (by rw [ha, e]; rfl))
  refine { hT := hT, hO := hO, hW := hW, hG := hG, hs := hs, hwl := hfit, hp := (by rw [List.length_append, h.hp]), hb := ?_, hc := (by rw [hc]; simp [bytesV]), s18 := h.s18, sz0 := h.sz0, bT := h.bT, bW := h.bW, bG := h.bG, kT := h.kT, kW := h.kW, kG := h.kG, kO := h.kO, gO := h.gO }
  intro x hx
  rcases List.mem_append.1 hx with h1 | h1
  · exact h.hb x h1
  · exact hl x h1

/-- Room for n bytes behind those in the buffer. -/
def ReqRes (B : Nat) (K : Nat → Prop) (W sz : Nat) (tot : List Int) (n : Nat) (w : World) (e : Ending) (w' : World) : Prop :=
  ∃ (w1 : World) (G : Nat) (ta : Option Addr) (tn tc : Nat) (out : List Int) (cs : Array Value) (wl : Nat) (pre : List Int), e = .returned (.tuple #[.int .i64 wl, Value.nilIface]) ∧ Wrs w1 B (fun b => K b ∨ w.heap.size ≤ b) W B G ta tn tc out cs sz wl pre ∧ tot = out ++ pre ∧ wl + n ≤ sz ∧
    w' = w1.setCell ⟨W, 2, none⟩ (.int .i64 ((wl + n : Nat) : Int)) ∧ Frm w w1 K ∧ Below B w w1 ∧ B ≤ w1.heap.size

set_option maxRecDepth 100000 in
set_option maxHeartbeats 2000000 in
theorem require_any (B : Nat) (K : Nat → Prop) (W sz wl : Nat) (tot : List Int) (n : Nat) (hns : n ≤ sz) (w : World) (h : Wr w B K W sz wl tot) (hn : tot.length ≤ 1099511627776) :
    Calls Try.prog 45 #[.pointer (some ⟨W, 0, none⟩), .int .i64 (n : Int)] w (ReqRes B K W sz tot n w) := by
  obtain ⟨G0, ta0, tn0, tc0, out0, cs0, pre0, hw, ht⟩ := h
  obtain ⟨q0, q1, q2, qf, qz⟩ := hw.cells
  have s18 := hw.s18
  have sz0 := hw.sz0
  have hwl := hw.hwl
  have hBW := hw.bW
  have hBw : B ≤ w.heap.size := by omega
  have HF := Lib.hid (flush_any B K W B G0 ta0 tn0 tc0 out0 cs0 sz wl pre0 w hw (by rw [← ht]; exact hn))
  have HT := Lib.hid ht
  clear ht hn
  by_cases hfull : sz - wl < n
  · have hd2 : (sz : Int) - (wl : Int) < n := by omega
    go_enter Try.func45, Try.ntmps45
    go_wp2_with fail
    refine HF.out.mono ?_
    rintro e w1 ⟨rfl, ⟨ta, tn, tc, hw1⟩, hf1, hb1⟩
    clear q0 q1 q2 qf qz
    obtain ⟨q0, q1, q2, qf, qz⟩ := hw1.cells
    go_wp2_with fail
    go_ret2
    exact ⟨w1, G0, ta, tn, tc, out0 ++ pre0, cs0, 0, [], rfl, hw1, by rw [HT.out]; simp, by omega, by simp, hf1, hb1, by omega⟩
  · have hd2 : ¬ (sz : Int) - (wl : Int) < n := by omega
    go_enter Try.func45, Try.ntmps45
    go_wp2_with fail
    go_ret2
    exact ⟨w, G0, ta0, tn0, tc0, out0, cs0, wl, pre0, rfl, hw.mono (fun b => .inl), HT.out, by omega, by simp, Frm.refl _ _, Below.refl _ _, hBw⟩
end Go.Proofs.Ytliaiaefhbgblaa
