/- (*msgp.source).PeekByte, Peek, Next, Skip: bytes looked at, taken, passed. -/
import Derived.Test.YtfaangichifbgaaDoorMore
namespace Go.Proofs.YtfaangichifbgaaDoor
open Go.RowKit
set_option linter.unusedVariables false
set_option linter.unusedSimpArgs false

theorem Src.below {w w' : World} {B : Nat} {K : Nat → Prop} {S n : Nat} {tot : List Int} (h : Src w B K S n tot) (hb : Below w.heap.size w w') : Src w' B K S n tot := by
  obtain ⟨D, ra, rn, rc, p, sz, room, da, dn, dc, rest, ch, hs, ht, hp⟩ := h
  exact ⟨D, ra, rn, rc, p, sz, room, da, dn, dc, rest, ch, hs.below hb, ht, hp⟩
theorem Src.mono {w : World} {B : Nat} {K K' : Nat → Prop} {S n : Nat} {tot : List Int} (h : Src w B K S n tot) (hk : ∀ b, K b → K' b) : Src w B K' S n tot := by
  obtain ⟨D, ra, rn, rc, p, sz, room, da, dn, dc, rest, ch, hs, ht, hp⟩ := h
  exact ⟨D, ra, rn, rc, p, sz, room, da, dn, dc, rest, ch, hs.mono hk, ht, hp⟩
theorem Src.within {w : World} {B : Nat} {K : Nat → Prop} {S n : Nat} {tot : List Int} (h : Src w B K S n tot) : Src w B (fun b => K b ∧ b < w.heap.size) S n tot := by
  obtain ⟨D, ra, rn, rc, p, sz, room, da, dn, dc, rest, ch, hs, ht, hp⟩ := h
  exact ⟨D, ra, rn, rc, p, sz, room, da, dn, dc, rest, ch, hs.within, ht, hp⟩
theorem Src.less {w : World} {B : Nat} {K : Nat → Prop} {S n m : Nat} {tot : List Int} (h : Src w B K S n tot) (hm : m ≤ n) : Src w B K S m tot := by
  obtain ⟨D, ra, rn, rc, p, sz, room, da, dn, dc, rest, ch, hs, ht, hp⟩ := h
  exact ⟨D, ra, rn, rc, p, sz, room, da, dn, dc, rest, ch, hs, ht, by omega⟩

section
variable {w : World} {B : Nat} {K : Nat → Prop} {S D : Nat} {ra : Option Addr} {rn rc p sz : Nat} {room : List Int} {da : Option Addr} {dn dc : Nat} {rest : List Int} {ch : Nat}
/-- What lies there, as a slice of the room. -/
theorem SrcS.view (h : SrcS w B K S D ra rn rc p sz room da dn dc rest ch) (n : Nat) (hn : n + p ≤ rn) (h1 : 1 ≤ n) : ∃ Q, ra = some ⟨Q, 0, none⟩ ∧ Vw w (some ⟨Q, p, none⟩) n (rc - p) ((room.drop p ++ rest).take n) ∧ ∀ i, i < n → w.cell? ⟨Q, p + i, none⟩ = some (.int .u8 ((room.drop p ++ rest).getD i 0)) := by
  have hl := h.hO.vw.len
  have hcap := h.hO.vw.cap
  rcases h.hO.vw.cells with h0 | ⟨g, off, ha, hx⟩
  · omega
  · have hg : off = 0 := by
      rcases h.hO.row with ⟨h2, _⟩ | ⟨g2, cur, h2, _⟩
      · rw [h2] at ha; cases ha
      · rw [h2] at ha; injection ha with ha; injection ha with _ ha; exact ha.symm
    subst hg
    have hc : ∀ i, i < n → w.cell? ⟨g, p + i, none⟩ = some (.int .u8 ((room.drop p ++ rest).getD i 0)) := fun i hi => by
      have := hx (p + i) (by omega)
      rw [Nat.zero_add] at this
      rw [this]
      simp [List.getD, List.getElem?_append_left (show i < (room.drop p).length by simp; omega)]
    refine ⟨g, ha, ⟨by rw [List.length_take]; simp; omega, by omega, by have := h.rcm; omega, fun x hx => ?_, fun e => (by cases e), .inr ⟨g, p, rfl, fun i hi => ?_⟩⟩, hc⟩
    · rcases List.mem_append.1 (List.mem_of_mem_take hx) with h1 | h1
      · exact h.hO.vw.byt x (List.mem_of_mem_drop h1)
      · exact h.hv.byt x h1
    · rw [hc i hi]
      simp [List.getD, List.getElem?_take, hi]
end

/-- A byte looked at: it stays. -/
def PbRes (B : Nat) (K : Nat → Prop) (S : Nat) (x : Int) (tot : List Int) (w : World) (e : Ending) (w' : World) : Prop :=
  e = .returned (.tuple #[.int .u8 x, Value.nilIface]) ∧ Src w' B (fun b => K b ∨ w.heap.size ≤ b) S 1 tot ∧ Frm w w' K ∧ Below B w w'

set_option maxHeartbeats 2000000 in
theorem peekByte_any (B : Nat) (K : Nat → Prop) (S : Nat) (x : Int) (l : List Int) (w : World) (h : Src w B K S 0 (x :: l)) :
    Calls Tryd.prog 40 #[.pointer (some ⟨S, 0, none⟩)] w (PbRes B K S x (x :: l) w) := by
  have HM := Lib.hid (more_any B K S 1 (by omega) (x :: l) w h (by simp))
  have hBw : B ≤ w.heap.size := by obtain ⟨D, ra, rn, rc, p, sz, room, da, dn, dc, rest, ch, hs, ht, hp⟩ := h; have := hs.bS; have := hs.hS.lt; omega
  clear h
  go_enter Tryd.func40, Tryd.ntmps40
  go_wp2_with fail
  refine HM.out.mono ?_
  rintro e w1 ⟨rfl, ⟨D, ra, rn, rc, p, sz, room, da, dn, dc, rest, ch, hs, ht, hp⟩, hf, hb⟩
  obtain ⟨q0, q1, q2, q3, q4, qf, qz⟩ := hs.cells
  obtain ⟨Q, hra, hv, hc⟩ := hs.view 1 hp (by omega)
  have hc0 := hc 0 (by omega)
  rw [← ht] at hc0
  simp at hc0
  subst hra
  have hne : ((rn : Int) == (p : Int)) = false := by simp; omega
  have hlt : (p : Int) < rn := by omega
  have hcap := hs.hO.vw.cap
  have hrcm := hs.rcm
  have HS := Lib.hid hs
  have HT := Lib.hid ht
  have HF := Lib.hid (And.intro hf hb)
  clear hs ht hf hb hv hc
  have hQl := World.block_lt_of_cell? w1 _ hc0
  go_wp2_with fail
  go_quiet (fail)
  go_wp2_with fail
  go_quiet (fail)
  go_wp2_with fail
  go_ret2
  have fin : ∀ W, Below w1.heap.size w1 W → PbRes B K S x (x :: l) w (.returned (.tuple #[.int .u8 x, Value.nilIface])) W := fun W hbd =>
    ⟨rfl, ⟨D, _, rn, rc, p, sz, room, da, dn, dc, rest, ch, HS.out.below hbd, HT.out, hp⟩, HF.out.1.trans (Frm.below hbd _), HF.out.2.trans (hbd.mono (by have := HF.out.1.1; omega))⟩
  exact fin _ (by (repeat (first | with_reducible exact Below.refl _ _ | with_reducible assumption | with_reducible refine below_drewN ?_ _ | with_reducible refine Below.drew ?_ | with_reducible refine below_row ?_ (by first | omega | (simp; done) | (simp; omega)) _ | with_reducible refine Below.alloc ?_ (by first | omega | (simp; done) | (simp; omega)) _ | with_reducible refine Below.setCell ?_ (by first | omega | (simp; done) | (simp; omega)) _)))

/-- Bytes looked at: they stay. -/
def PkRes (B : Nat) (K : Nat → Prop) (S n : Nat) (tot : List Int) (w : World) (e : Ending) (w' : World) : Prop :=
  ∃ a c, e = .returned (.tuple #[.slice a n c, Value.nilIface]) ∧ Vw w' a n c (tot.take n) ∧ Src w' B (fun b => K b ∨ w.heap.size ≤ b) S n tot ∧ Frm w w' K ∧ Below B w w'
/-- Bytes taken. -/
def NxRes (B : Nat) (K : Nat → Prop) (S n : Nat) (tot : List Int) (w : World) (e : Ending) (w' : World) : Prop :=
  ∃ a c, e = .returned (.tuple #[.slice a n c, Value.nilIface]) ∧ Vw w' a n c (tot.take n) ∧ Src w' B (fun b => K b ∨ w.heap.size ≤ b) S 0 (tot.drop n) ∧ Frm w w' K ∧ Below B w w'
/-- Bytes passed. -/
def SkRes (B : Nat) (K : Nat → Prop) (S n : Nat) (tot : List Int) (w : World) (e : Ending) (w' : World) : Prop :=
  e = .returned (.tuple #[.int .i64 n, Value.nilIface]) ∧ Src w' B (fun b => K b ∨ w.heap.size ≤ b) S 0 (tot.drop n) ∧ Frm w w' K ∧ Below B w w'

theorem SrcS.took {w : World} {B : Nat} {K : Nat → Prop} {S D : Nat} {ra : Option Addr} {rn rc p sz : Nat} {room : List Int} {da : Option Addr} {dn dc : Nat} {rest : List Int} {ch : Nat} (h : SrcS w B K S D ra rn rc p sz room da dn dc rest ch) (n : Nat) (hn : n + p ≤ rn) {tot : List Int} (ht : tot = room.drop p ++ rest) : Src (w.setCell ⟨S, 2, none⟩ (.int .i64 ((p : Int) + (n : Int)))) B K S 0 (tot.drop n) := by
  have hm := h.moved (p + n) (by omega)
  refine ⟨D, ra, rn, rc, p + n, sz, room, da, dn, dc, rest, ch, by simpa using hm, ?_, by omega⟩
  have hl := h.hO.vw.len
  rw [ht, List.drop_append_of_le_length (by simp; omega), List.drop_drop]

set_option maxHeartbeats 2000000 in
theorem peek_any (B : Nat) (K : Nat → Prop) (S n : Nat) (hn1 : 1 ≤ n) (hn16 : n ≤ 16) (tot : List Int) (w : World) (h : Src w B K S 0 tot) (hn : n ≤ tot.length) :
    Calls Tryd.prog 49 #[.pointer (some ⟨S, 0, none⟩), .int .i64 (n : Int)] w (PkRes B K S n tot w) := by
  have HM := Lib.hid (more_any B K S n hn16 tot w h hn)
  have hBw : B ≤ w.heap.size := by obtain ⟨D, ra, rn, rc, p, sz, room, da, dn, dc, rest, ch, hs, ht, hp⟩ := h; have := hs.bS; have := hs.hS.lt; omega
  clear h
  go_enter Tryd.func49, Tryd.ntmps49
  go_wp2_with fail
  refine HM.out.mono ?_
  rintro e w1 ⟨rfl, ⟨D, ra, rn, rc, p, sz, room, da, dn, dc, rest, ch, hs, ht, hp⟩, hf, hb⟩
  obtain ⟨q0, q1, q2, q3, q4, qf, qz⟩ := hs.cells
  obtain ⟨Q, hra, hv, _⟩ := hs.view n hp (by omega)
  rw [← ht] at hv
  subst hra
  have hcap := hs.hO.vw.cap
  have hrcm := hs.rcm
  have hpr := hs.hp
  have e1 : ¬ ((rn : Int) - (p : Int) < n) := by omega
  have e2 : decide ((rn : Int) - (p : Int) < n) = false := by simpa using e1
  have hws : IntKind.i64.wrap ((rn : Int) - (p : Int)) = (rn : Int) - (p : Int) := by rw [IntKind.wrap_i64]; omega
  have HS := Lib.hid hs
  have HT := Lib.hid ht
  have HF := Lib.hid (And.intro hf hb)
  have HV := Lib.hid hv
  clear hs ht hf hb hv
  go_wp2_with fail
  go_quiet (fail)
  go_wp2_with fail
  have hws2 : IntKind.i64.wrap ((p : Int) + (n : Int)) = (p : Int) + (n : Int) := by rw [IntKind.wrap_i64]; omega
  have k1 : ((p : Int) + (n : Int)).toNat = p + n := by omega
  have k2 : (p : Int) + (n : Int) ≤ rc := by omega
  have k3 : (0 : Int) ≤ (p : Int) + (n : Int) := by omega
  have k4 : ¬ rc = p := by omega
  go_quiet (fail)
  go_wp2_with fail
  go_ret2
  have fin : ∀ W, Below w1.heap.size w1 W → PkRes B K S n tot w (.returned (.tuple #[.slice (some ⟨Q, p, none⟩) n (rc - p), Value.nilIface])) W := fun W hbd =>
    ⟨_, _, rfl, HV.out.below hbd (Nat.le_refl _), ⟨D, _, rn, rc, p, sz, room, da, dn, dc, rest, ch, HS.out.below hbd, HT.out, hp⟩, HF.out.1.trans (Frm.below hbd _), HF.out.2.trans (hbd.mono (by have := HF.out.1.1; omega))⟩
  have ep : p + n - p = n := by omega
  simpa [ep] using fin _ (by (repeat (first | with_reducible exact Below.refl _ _ | with_reducible assumption | with_reducible refine below_drewN ?_ _ | with_reducible refine Below.drew ?_ | with_reducible refine below_row ?_ (by first | omega | (simp; done) | (simp; omega)) _ | with_reducible refine Below.alloc ?_ (by first | omega | (simp; done) | (simp; omega)) _ | with_reducible refine Below.setCell ?_ (by first | omega | (simp; done) | (simp; omega)) _)))

set_option maxHeartbeats 2000000 in
theorem next_any (B : Nat) (K : Nat → Prop) (S n : Nat) (hn1 : 1 ≤ n) (hn16 : n ≤ 16) (tot : List Int) (w : World) (h : Src w B K S 0 tot) (hn : n ≤ tot.length) (hKS : K S) :
    Calls Tryd.prog 44 #[.pointer (some ⟨S, 0, none⟩), .int .i64 (n : Int)] w (NxRes B K S n tot w) := by
  have HM := Lib.hid (more_any B K S n hn16 tot w h hn)
  have hBw : B ≤ w.heap.size := by obtain ⟨D, ra, rn, rc, p, sz, room, da, dn, dc, rest, ch, hs, ht, hp⟩ := h; have := hs.bS; have := hs.hS.lt; omega
  clear h
  go_enter Tryd.func44, Tryd.ntmps44
  go_wp2_with fail
  refine HM.out.mono ?_
  rintro e w1 ⟨rfl, ⟨D, ra, rn, rc, p, sz, room, da, dn, dc, rest, ch, hs, ht, hp⟩, hf, hb⟩
  obtain ⟨q0, q1, q2, q3, q4, qf, qz⟩ := hs.cells
  obtain ⟨Q, hra, hv, _⟩ := hs.view n hp (by omega)
  rw [← ht] at hv
  subst hra
  have hcap := hs.hO.vw.cap
  have hrcm := hs.rcm
  have hpr := hs.hp
  have e1 : ¬ ((rn : Int) - (p : Int) < n) := by omega
  have e2 : decide ((rn : Int) - (p : Int) < n) = false := by simpa using e1
  have hws : IntKind.i64.wrap ((rn : Int) - (p : Int)) = (rn : Int) - (p : Int) := by rw [IntKind.wrap_i64]; omega
  have HS := Lib.hid hs
  have HT := Lib.hid ht
  have HF := Lib.hid (And.intro hf hb)
  have HV := Lib.hid hv
  clear hs ht hf hb hv
  go_wp2_with fail
  go_quiet (fail)
  go_wp2_with fail
  have hws2 : IntKind.i64.wrap ((p : Int) + (n : Int)) = (p : Int) + (n : Int) := by rw [IntKind.wrap_i64]; omega
  have k1 : ((p : Int) + (n : Int)).toNat = p + n := by omega
  have k2 : (p : Int) + (n : Int) ≤ rc := by omega
  have k3 : (0 : Int) ≤ (p : Int) + (n : Int) := by omega
  have k4 : ¬ rc = p := by omega
  go_quiet (fail)
  go_wp2_with fail
  go_ret2
  have fin : ∀ W, Below w1.heap.size w1 W → NxRes B K S n tot w (.returned (.tuple #[.slice (some ⟨Q, p, none⟩) n (rc - p), Value.nilIface])) (W.setCell ⟨S, 2, none⟩ (.int .i64 ((p : Int) + (n : Int)))) := fun W hbd =>
    ⟨_, _, rfl, (HV.out.below hbd (Nat.le_refl _)).setCell (p := ⟨S, 2, none⟩) _ (fun x hx e => by injection hx with hx; subst hx; simp at e; subst e; exact HS.out.neS rfl), (HS.out.below hbd).took n hp HT.out, Frm.set (p := K) (HF.out.1.trans (Frm.below hbd _)) (x := ⟨S, 2, none⟩) hKS _, (HF.out.2.trans (hbd.mono (by have := HF.out.1.1; omega))).setCell (p := ⟨S, 2, none⟩) HS.out.bS _⟩
  have ep : p + n - p = n := by omega
  simpa [ep] using fin _ (by (repeat (first | with_reducible exact Below.refl _ _ | with_reducible assumption | with_reducible refine below_drewN ?_ _ | with_reducible refine Below.drew ?_ | with_reducible refine below_row ?_ (by first | omega | (simp; done) | (simp; omega)) _ | with_reducible refine Below.alloc ?_ (by first | omega | (simp; done) | (simp; omega)) _ | with_reducible refine Below.setCell ?_ (by first | omega | (simp; done) | (simp; omega)) _)))

set_option maxHeartbeats 2000000 in
theorem skip_any (B : Nat) (K : Nat → Prop) (S n : Nat) (hn1 : 1 ≤ n) (hn16 : n ≤ 16) (tot : List Int) (w : World) (h : Src w B K S 0 tot) (hn : n ≤ tot.length) (hKS : K S) :
    Calls Tryd.prog 43 #[.pointer (some ⟨S, 0, none⟩), .int .i64 (n : Int)] w (SkRes B K S n tot w) := by
  have HM := Lib.hid (more_any B K S n hn16 tot w h hn)
  have hBw : B ≤ w.heap.size := by obtain ⟨D, ra, rn, rc, p, sz, room, da, dn, dc, rest, ch, hs, ht, hp⟩ := h; have := hs.bS; have := hs.hS.lt; omega
  clear h
  go_enter Tryd.func43, Tryd.ntmps43
  go_wp2_with fail
  refine HM.out.mono ?_
  rintro e w1 ⟨rfl, ⟨D, ra, rn, rc, p, sz, room, da, dn, dc, rest, ch, hs, ht, hp⟩, hf, hb⟩
  obtain ⟨q0, q1, q2, q3, q4, qf, qz⟩ := hs.cells
  obtain ⟨Q, hra, hv, _⟩ := hs.view n hp (by omega)
  rw [← ht] at hv
  subst hra
  have hcap := hs.hO.vw.cap
  have hrcm := hs.rcm
  have hpr := hs.hp
  have e1 : ¬ ((rn : Int) - (p : Int) < n) := by omega
  have e2 : decide ((rn : Int) - (p : Int) < n) = false := by simpa using e1
  have hws : IntKind.i64.wrap ((rn : Int) - (p : Int)) = (rn : Int) - (p : Int) := by rw [IntKind.wrap_i64]; omega
  have HS := Lib.hid hs
  have HT := Lib.hid ht
  have HF := Lib.hid (And.intro hf hb)
  have HV := Lib.hid hv
  clear hs ht hf hb hv
  go_wp2_with fail
  go_quiet (fail)
  go_wp2_with fail
  have hws2 : IntKind.i64.wrap ((p : Int) + (n : Int)) = (p : Int) + (n : Int) := by rw [IntKind.wrap_i64]; omega
  have k1 : ((p : Int) + (n : Int)).toNat = p + n := by omega
  have k2 : (p : Int) + (n : Int) ≤ rc := by omega
  have k3 : (0 : Int) ≤ (p : Int) + (n : Int) := by omega
  have k4 : ¬ rc = p := by omega
  go_ret2
  have fin : ∀ W, Below w1.heap.size w1 W → SkRes B K S n tot w (.returned (.tuple #[.int .i64 n, Value.nilIface])) (W.setCell ⟨S, 2, none⟩ (.int .i64 ((p : Int) + (n : Int)))) := fun W hbd =>
    ⟨rfl, (HS.out.below hbd).took n hp HT.out, Frm.set (p := K) (HF.out.1.trans (Frm.below hbd _)) (x := ⟨S, 2, none⟩) hKS _, (HF.out.2.trans (hbd.mono (by have := HF.out.1.1; omega))).setCell (p := ⟨S, 2, none⟩) HS.out.bS _⟩
  exact fin _ (by (repeat (first | with_reducible exact Below.refl _ _ | with_reducible assumption | with_reducible refine below_drewN ?_ _ | with_reducible refine Below.drew ?_ | with_reducible refine below_row ?_ (by first | omega | (simp; done) | (simp; omega)) _ | with_reducible refine Below.alloc ?_ (by first | omega | (simp; done) | (simp; omega)) _ | with_reducible refine Below.setCell ?_ (by first | omega | (simp; done) | (simp; omega)) _)))
end Go.Proofs.YtfaangichifbgaaDoor
