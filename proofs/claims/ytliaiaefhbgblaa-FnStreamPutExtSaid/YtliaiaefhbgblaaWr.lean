/- A Writer of MessagePack over a text, as it lies in memory: flush, push, prefix8 to prefix64. -/
import Derived.Test.YtliaiaefhbgblaaWr0
namespace Go.Proofs.Ytliaiaefhbgblaa
open Go.RowKit
set_option linter.unusedVariables false
set_option linter.unusedSimpArgs false

/-- A Writer at block W over a text at block T, its buffer (sz bytes) at block G, wl bytes in it; all of it from block B on, at blocks of K. -/
structure Wrs (w : World) (B : Nat) (K : Nat → Prop) (W T G : Nat) (ta : Option Addr) (tn tc : Nat) (out : List Int) (cs : Array Value) (sz wl : Nat) (pre : List Int) : Prop where
  hT : Blk w T 66 #[.slice ta tn tc]
  hO : O8 w B ta tn tc out
  hW : Blk w W 92 #[.iface 68 (.pointer (some ⟨T, 0, none⟩)), .slice (some ⟨G, 0, none⟩) sz sz, .int .i64 wl]
  hG : Blk w G 5 cs
  hs : cs.size = sz
  hwl : wl ≤ sz
  hp : pre.length = wl
  hb : ∀ x ∈ pre, 0 ≤ x ∧ x ≤ 255
  hc : cs.toList.take wl = bytesV pre
  s18 : 18 ≤ sz
  sz0 : sz ≤ 1099511627776
  bT : B ≤ T
  bW : B ≤ W
  bG : B ≤ G
  kT : K T
  kW : K W
  kG : K G
  kO : ∀ b, blkOf ta = some b → K b
  gO : blkOf ta ≠ some G

def Wr (w : World) (B : Nat) (K : Nat → Prop) (W : Nat) (sz wl : Nat) (tot : List Int) : Prop :=
  ∃ G ta tn tc out cs pre, Wrs w B K W B G ta tn tc out cs sz wl pre ∧ tot = out ++ pre

theorem Own.lt8 {w : World} {B : Nat} {a : Option Addr} {n c : Nat} {l : List Int} (h : O8 w B a n c l) : ∀ b, blkOf a = some b → b < w.heap.size := by
  intro b hb
  rcases h.row with ⟨h1, _⟩ | ⟨g, cur, h1, hg2, hB, _⟩
  · rw [h1] at hb; cases hb
  · rw [h1] at hb; simp [blkOf] at hb; subst hb; exact hB.lt
theorem Own.neT {w : World} {B T t : Nat} {cs : Array Value} {a : Option Addr} {n c : Nat} {l : List Int} (h : O8 w B a n c l) (hT : Blk w T t cs) (ht : t ≠ 5) : blkOf a ≠ some T := by
  intro hb
  rcases h.row with ⟨h1, _⟩ | ⟨g, cur, h1, hg2, hB, _⟩
  · rw [h1] at hb; cases hb
  · rw [h1] at hb; simp [blkOf] at hb; subst hb
    unfold Blk at hT hB; rw [hT] at hB; injection hB with hB; injection hB with _ hB
    exact ht hB
theorem Blk.ne {w : World} {T G t u : Nat} {cs ds : Array Value} (h : Blk w T t cs) (k : Blk w G u ds) (ht : t ≠ u) : T ≠ G := by
  intro e; subst e
  unfold Blk at h k; rw [h] at k; injection k with k; injection k with _ k; exact ht k

section
variable {w : World} {B : Nat} {K : Nat → Prop} {W T G : Nat} {ta : Option Addr} {tn tc : Nat} {out : List Int} {cs : Array Value} {sz wl : Nat} {pre : List Int}
theorem Wrs.top (h : Wrs w B K W T G ta tn tc out cs sz wl pre) : Wrs w B (fun b => b < w.heap.size) W T G ta tn tc out cs sz wl pre :=
  { h with kT := h.hT.lt, kW := h.hW.lt, kG := h.hG.lt, kO := h.hO.lt8 }
theorem Wrs.mono {K' : Nat → Prop} (h : Wrs w B K W T G ta tn tc out cs sz wl pre) (hk : ∀ b, K b → K' b) : Wrs w B K' W T G ta tn tc out cs sz wl pre :=
  { h with kT := hk _ h.kT, kW := hk _ h.kW, kG := hk _ h.kG, kO := fun b hb => hk _ (h.kO b hb) }
theorem Wrs.below {w' : World} (h : Wrs w B K W T G ta tn tc out cs sz wl pre) (hb : Below w.heap.size w w') : Wrs w' B K W T G ta tn tc out cs sz wl pre :=
  { h with hT := h.hT.below hb h.hT.lt, hO := Own.below hb (Nat.le_refl _) h.hO, hW := h.hW.below hb h.hW.lt, hG := h.hG.below hb h.hG.lt }
theorem Wrs.tW (h : Wrs w B K W T G ta tn tc out cs sz wl pre) : T ≠ W := h.hT.ne h.hW (by decide)
theorem Wrs.tG (h : Wrs w B K W T G ta tn tc out cs sz wl pre) : T ≠ G := h.hT.ne h.hG (by decide)
theorem Wrs.wG (h : Wrs w B K W T G ta tn tc out cs sz wl pre) : W ≠ G := h.hW.ne h.hG (by decide)
theorem Wrs.nb (h : Wrs w B K W T G ta tn tc out cs sz wl pre) : ¬ (W = T ∨ blkOf ta = some W) := by
  rintro (e | e)
  · exact h.tW e.symm
  · exact h.hO.neT h.hW (by decide) e
theorem Wrs.vw (h : Wrs w B K W T G ta tn tc out cs sz wl pre) : Vw w (some ⟨G, 0, none⟩) wl sz pre := by
  refine ⟨h.hp, h.hwl, by have := h.sz0; omega, h.hb, fun e => (by cases e), .inr ⟨G, 0, rfl, fun i hi => ?_⟩⟩
  rw [Nat.zero_add]
  refine h.hG.cell ?_
  have := congrArg (fun l => l[i]?) h.hc
  simp only [List.getElem?_take, hi, ↓reduceIte] at this
  rw [show cs[i]? = cs.toList[i]? by simp, this]
  have hil : i < pre.length := by have := h.hp; omega
  simp [bytesV, List.getElem?_eq_getElem hil, List.getD]
/-- The facts that a walk reads. -/
theorem Wrs.cells (h : Wrs w B K W T G ta tn tc out cs sz wl pre) : w.cell? ⟨W, 0, none⟩ = some (.iface 68 (.pointer (some ⟨T, 0, none⟩))) ∧ w.cell? ⟨W, 1, none⟩ = some (.slice (some ⟨G, 0, none⟩) sz sz) ∧ w.cell? ⟨W, 2, none⟩ = some (.int .i64 wl) ∧ w.frozen? ⟨W, 2, none⟩ = false ∧ W < w.heap.size :=
  ⟨h.hW.cell rfl, h.hW.cell rfl, h.hW.cell rfl, h.hW.frozen 2, h.hW.lt⟩
/-- The buffer is empty again. -/
theorem Wrs.flushed {w' : World} (h : Wrs w B K W T G ta tn tc out cs sz wl pre) {ta' : Option Addr} {tn' tc' : Nat} (hT : Blk w' T 66 #[.slice ta' tn' tc']) (hO : O8 w' B ta' tn' tc' (out ++ pre))
    (hw : ∀ x, ta' = some x → blkOf ta = some x.block ∨ w.heap.size ≤ x.block) (hf : Frm w w' (fun b => b = T ∨ blkOf ta = some b)) (hb : Below B w w') :
    Wrs (w'.setCell ⟨W, 2, none⟩ (.int .i64 0)) B (fun b => K b ∨ w.heap.size ≤ b) W T G ta' tn' tc' (out ++ pre) cs sz 0 [] := by
  have hG := hf.blk h.hG (by rintro (e | e); exact h.tG e.symm; exact h.gO e)
  have hW := hf.blk h.hW (by rintro (e | e); exact h.tW e.symm; exact h.hO.neT h.hW (by decide) e)
  refine { hT := hT.other h.tW _, hO := hO.setLt (fun x hx e => ?_) _, hW := hW.set 2 (.int .i64 0), hG := hG.other (Ne.symm h.wG) _, hs := h.hs, hwl := Nat.zero_le _, hp := rfl, hb := (by simp), hc := rfl, s18 := h.s18, sz0 := h.sz0, bT := h.bT, bW := h.bW, bG := h.bG, kT := .inl h.kT, kW := .inl h.kW, kG := .inl h.kG, kO := (fun b hb => by
      cases ta' with
      | none => cases hb
      | some x =>
        simp [blkOf] at hb
        rcases hw x rfl with e2 | e2
        · exact .inl (h.kO b (by rw [e2, hb]))
        · exact .inr (by rw [← hb]; exact e2)), gO := fun e => ?_ }
  · simp at e
    exact hO.neT hW (by decide) (by rw [hx]; simp [blkOf, e])
  · cases ta' with
    | none => cases e
    | some x =>
      simp [blkOf] at e
      rcases hw x rfl with e2 | e2
      · rw [e] at e2; exact h.gO e2
      · have := h.hG.lt; omega
/-- Bytes written around an empty buffer. -/
theorem Wrs.wrote {w' : World} {l : List Int} (h : Wrs w B K W T G ta tn tc out cs sz 0 []) {ta' : Option Addr} {tn' tc' : Nat} (hT : Blk w' T 66 #[.slice ta' tn' tc']) (hO : O8 w' B ta' tn' tc' (out ++ l))
    (hw : ∀ x, ta' = some x → blkOf ta = some x.block ∨ w.heap.size ≤ x.block) (hf : Frm w w' (fun b => b = T ∨ blkOf ta = some b)) (hb : Below B w w') :
    Wrs w' B (fun b => K b ∨ w.heap.size ≤ b) W T G ta' tn' tc' (out ++ l) cs sz 0 [] := by
  have hG := hf.blk h.hG (by rintro (e | e); exact h.tG e.symm; exact h.gO e)
  have hW := hf.blk h.hW h.nb
  refine { hT := hT, hO := hO, hW := hW, hG := hG, hs := h.hs, hwl := Nat.zero_le _, hp := rfl, hb := (by simp), hc := rfl, s18 := h.s18, sz0 := h.sz0, bT := h.bT, bW := h.bW, bG := h.bG, kT := .inl h.kT, kW := .inl h.kW, kG := .inl h.kG, kO := (fun b hb => by
      cases ta' with
      | none => cases hb
      | some x =>
        simp [blkOf] at hb
        rcases hw x rfl with e2 | e2
        · exact .inl (h.kO b (by rw [e2, hb]))
        · exact .inr (by rw [← hb]; exact e2)), gO := fun e => ?_ }
  cases ta' with
  | none => cases e
  | some x =>
    simp [blkOf] at e
    rcases hw x rfl with e2 | e2
    · rw [e] at e2; exact h.gO e2
    · have := h.hG.lt; omega
/-- Bytes laid behind those in the buffer. -/
theorem Wrs.laid {w' : World} (h : Wrs w B K W T G ta tn tc out cs sz wl pre) (l : List Int) (hl : ∀ x ∈ l, 0 ≤ x ∧ x ≤ 255) (hfit : wl + l.length ≤ sz) {cs' : Array Value} (hG : Blk w' G 5 cs') (hs : cs'.size = sz)
    (hc : cs'.toList.take (wl + l.length) = bytesV pre ++ bytesV l) (hf : Frm w w' (fun b => b = G)) (n : Int) (hn : n = ((wl + l.length : Nat) : Int)) :
    Wrs (w'.setCell ⟨W, 2, none⟩ (.int .i64 n)) B K W T G ta tn tc out cs' sz (wl + l.length) (pre ++ l) := by
  subst hn
  have hT := hf.blk h.hT h.tG
  have hW := hf.blk h.hW h.wG
  have hO : O8 w' B ta tn tc out := h.hO.kept fun g cur ha hB => hf.blk hB (fun e => h.gO (by rw [ha, e]; rfl))
  refine { hT := hT.other h.tW _, hO := hO.setLt (fun x hx e => ?_) _, hW := hW.set 2 _, hG := hG.other (Ne.symm h.wG) _, hs := hs, hwl := hfit, hp := (by rw [List.length_append, h.hp]), hb := ?_, hc := (by rw [hc]; simp [bytesV]), s18 := h.s18, sz0 := h.sz0, bT := h.bT, bW := h.bW, bG := h.bG, kT := h.kT, kW := h.kW, kG := h.kG, kO := h.kO, gO := h.gO }
  · simp at e
    exact hO.neT hW (by decide) (by rw [hx]; simp [blkOf, e])
  · intro x hx
    rcases List.mem_append.1 hx with h1 | h1
    · exact h.hb x h1
    · exact hl x h1
end

theorem Wr.below {w w' : World} {B : Nat} {K : Nat → Prop} {W sz wl : Nat} {tot : List Int} (h : Wr w B K W sz wl tot) (hb : Below w.heap.size w w') : Wr w' B K W sz wl tot := by
  obtain ⟨G, ta, tn, tc, out, cs, pre, hw, ht⟩ := h
  exact ⟨G, ta, tn, tc, out, cs, pre, hw.below hb, ht⟩
theorem Wr.drewN {w : World} {B : Nat} {K : Nat → Prop} {W sz wl : Nat} {tot : List Int} (h : Wr w B K W sz wl tot) (n : Nat) : Wr (w.drewN n) B K W sz wl tot := h.below ⟨rfl, rfl, rfl, Nat.le_refl _, fun _ _ => rfl⟩

theorem Wr.top {w : World} {B : Nat} {K : Nat → Prop} {W sz wl : Nat} {tot : List Int} (h : Wr w B K W sz wl tot) : Wr w B (fun b => b < w.heap.size) W sz wl tot := by
  obtain ⟨G, ta, tn, tc, out, cs, pre, hw, ht⟩ := h
  exact ⟨G, ta, tn, tc, out, cs, pre, hw.top, ht⟩

/-- What a method of the Writer leaves: no error, the bytes behind the others. -/
def WrRes (B : Nat) (K : Nat → Prop) (W sz : Nat) (tot : List Int) (w : World) (e : Ending) (w' : World) : Prop :=
  e = .returned Value.nilIface ∧ (∃ wl, Wr w' B (fun b => K b ∨ w.heap.size ≤ b) W sz wl tot) ∧ Frm w w' K ∧ Below B w w'

theorem wrRes_fin {w w2 w' : World} {B : Nat} {K : Nat → Prop} {W G : Nat} {ta : Option Addr} {tn tc : Nat} {out : List Int} {cs : Array Value} {sz wl : Nat} {pre tot : List Int} {K2 : Nat → Prop} (hq : Wrs w2 B K2 W B G ta tn tc out cs sz wl pre) (ht : tot = out ++ pre)
    (hk : ∀ b, K2 b → K b ∨ w.heap.size ≤ b) (hf : Frm w w2 K) (hb : Below B w w2) (hB : B ≤ w2.heap.size) (h : Below w2.heap.size w2 w') : WrRes B K W sz tot w (.returned Value.nilIface) w' :=
  ⟨rfl, ⟨wl, G, ta, tn, tc, out, cs, pre, (hq.below h).mono hk, ht⟩, hf.trans (Frm.below h _), hb.trans (h.mono hB)⟩

theorem nilW (a : Addr) (w : World) : (nilAhead 223 68 (.pointer (some a)) "Write").run Try.prog w = .ok (some false) w := by kernel_rfl
theorem methW (a : Addr) (w : World) : (method 223 68 (.pointer (some a)) "Write").run Try.prog w = .ok (77, .pointer (some a)) w := by kernel_rfl

set_option maxRecDepth 100000 in
set_option maxHeartbeats 1000000 in
theorem flush_any (B : Nat) (K : Nat → Prop) (W T G : Nat) (ta : Option Addr) (tn tc : Nat) (out : List Int) (cs : Array Value) (sz wl : Nat) (pre : List Int) (w : World) (hw : Wrs w B K W T G ta tn tc out cs sz wl pre) (hn : (out ++ pre).length ≤ 1099511627776) :
    Calls Try.prog 46 #[.pointer (some ⟨W, 0, none⟩)] w fun e w' => e = .returned Value.nilIface ∧ (∃ ta' tn' tc', Wrs w' B (fun b => K b ∨ w.heap.size ≤ b) W T G ta' tn' tc' (out ++ pre) cs sz 0 []) ∧ Frm w w' K ∧ Below B w w' := by
  obtain ⟨q0, q1, q2, qf, qz⟩ := hw.cells
  by_cases h0 : wl = 0
  · subst h0
    have hp : pre = [] := List.eq_nil_of_length_eq_zero hw.hp
    subst hp
    go_enter Try.func46, Try.ntmps46
    go_wp2_with fail
    go_ret
    exact ⟨rfl, ⟨ta, tn, tc, by rw [List.append_nil]; exact hw.mono (fun b => .inl)⟩, Frm.refl _ _, Below.refl _ _⟩
  · have h1 : ((wl : Int) == 0) = false := by simpa using h0
    have h2 : wl ≤ sz := hw.hwl
    have hlen : tn + wl ≤ 140737488355328 := by
      have e1 := hw.hO.vw.len
      have e2 := hw.hp
      rw [List.length_append] at hn
      omega
    have H := Lib.hid (textWrite_any B T ta tn tc out (some ⟨G, 0, none⟩) wl sz pre)
    have hm1 := nilW ⟨T, 0, none⟩
    have hm2 := methW ⟨T, 0, none⟩
    go_enter Try.func46, Try.ntmps46
    go_wp2_with fail
    have hwd : Wrs w.drew B K W T G ta tn tc out cs sz wl pre := hw.below (Below.refl _ _).drew
    go_region_held3 (fun V => V.cell? ⟨W, 0, none⟩ = some (.iface 68 (.pointer (some ⟨T, 0, none⟩))) ∧ V.cell? ⟨W, 1, none⟩ = some (.slice (some ⟨G, 0, none⟩) sz sz) ∧ V.cell? ⟨W, 2, none⟩ = some (.int .i64 wl)) (first | exact ⟨q0, q1, q2⟩ | exact ⟨hW1.cell rfl, hW1.cell rfl, hW1.cell rfl⟩) (first | (go_at_call 77; refine (H.out _ hwd.hT hwd.hO hwd.vw hlen hw.bT).mono ?_; rintro e w1 ⟨rfl, ta', tn', tc', hT1, hO1, hw1, hf1, hb1⟩; have hW1 := hf1.blk hwd.hW hwd.nb))
    have hq := hwd.flushed hT1 hO1 hw1 hf1 hb1
    have hqf := hW1.frozen 2
    have hql := hW1.lt
    have p2 := hW1.cell (i := 2) rfl
    go_wp2_with fail
    go_ret
    refine ⟨rfl, ⟨_, _, _, hq⟩, ?_, ?_⟩
    · exact Frm.set (hf1.imp (by rintro x _ (rfl | h); exact hw.kT; exact hw.kO _ h)) hw.kW _
    · exact Below.setCell (Below.trans (b := w.drew) (Below.refl _ _).drew hb1) hw.bW _
#print axioms flush_any
end Go.Proofs.Ytliaiaefhbgblaa
