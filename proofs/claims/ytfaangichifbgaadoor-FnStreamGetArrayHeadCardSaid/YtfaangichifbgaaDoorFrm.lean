/- All old blocks but some are kept ('Frm'); copy in one step. -/
import Derived.Test.YtfaangichifbgaaDoorApp
import Derived.Test.YtfaangichifbgaaDoorRd
import Derived.StillTailTactics
import Derived.Laws.CopyOwn
import Derived.Laws.MakeOwn
namespace Go.Proofs.YtfaangichifbgaaDoor
open Go.RowKit
set_option linter.unusedVariables false
set_option linter.unusedSimpArgs false

/-- All old blocks but some are as they were. -/
def Frm (w w' : World) (bad : Nat → Prop) : Prop := w.heap.size ≤ w'.heap.size ∧ ∀ b, b < w.heap.size → ¬ bad b → w'.heap[b]? = w.heap[b]?

theorem Frm.refl (w : World) (bad : Nat → Prop) : Frm w w bad := ⟨Nat.le_refl _, fun _ _ _ => rfl⟩
theorem Frm.trans {a b c : World} {p : Nat → Prop} (h : Frm a b p) (k : Frm b c p) : Frm a c p := ⟨Nat.le_trans h.1 k.1, fun x hx hp => (k.2 x (Nat.lt_of_lt_of_le hx h.1) hp).trans (h.2 x hx hp)⟩
theorem Frm.imp {a b : World} {p q : Nat → Prop} (h : Frm a b p) (hpq : ∀ x, x < a.heap.size → p x → q x) : Frm a b q := ⟨h.1, fun x hx hq => h.2 x hx (fun hp => hq (hpq x hx hp))⟩
theorem Frm.below {a b : World} (h : Below a.heap.size a b) (p : Nat → Prop) : Frm a b p := ⟨h.size, fun x hx _ => h.block x hx⟩
theorem Frm.drew {a b : World} {p : Nat → Prop} (h : Frm a b p) : Frm a b.drew p := h
theorem Frm.drewN {a b : World} {p : Nat → Prop} (h : Frm a b p) (n : Nat) : Frm a (b.drewN n) p := h
theorem Frm.set {a b : World} {p : Nat → Prop} (h : Frm a b p) {x : Addr} (hx : p x.block) (v : Value) : Frm a (b.setCell x v) p := by
  refine ⟨Nat.le_trans h.1 (by simp), fun y hy hp => ?_⟩
  rw [Below.heap_setCell _ _ _ _ (by intro e; subst e; exact hp hx)]
  exact h.2 y hy hp
theorem Frm.grown {a b w' : World} {p : Nat → Prop} (h : Frm a b p) {row : Option Nat} (hg : b.grownBy w' row) (hr : ∀ k, row = some k → p k) : Frm a w' p := by
  refine ⟨Nat.le_trans h.1 hg.size, fun y hy hp => ?_⟩
  rw [hg.block y (Nat.lt_of_lt_of_le hy h.1) (fun e => hp (hr y e.symm))]
  exact h.2 y hy hp
theorem Frm.blk {a b : World} {p : Nat → Prop} (h : Frm a b p) {g : Nat} {t : TypeId} {cs : Array Value} (hb : Blk a g t cs) (hp : ¬ p g) : Blk b g t cs := by
  unfold Blk; rw [h.2 g hb.lt hp]; exact hb
theorem Frm.vw {a b : World} {p : Nat → Prop} (h : Frm a b p) {x : Option Addr} {n c : Nat} {l : List Int} (hv : Vw a x n c l) (hp : ∀ y, x = some y → ¬ p y.block) : Vw b x n c l := by
  refine ⟨hv.len, hv.cap, hv.big, hv.byt, hv.nul, ?_⟩
  rcases hv.cells with h0 | ⟨g, off, ha, hx⟩
  · exact .inl h0
  · refine .inr ⟨g, off, ha, fun i hi => ?_⟩
    have hc := hx i hi
    have hlt := World.block_lt_of_cell? a _ hc
    rw [World.cell?_of_block (w := a) (h.2 g (by simpa using hlt) (hp _ ha))]
    exact hc

theorem Own.setLt {E : TypeId} {w : World} {B : Nat} {a : Option Addr} {n c : Nat} {l : List Int} (h : Own E w B a n c l) {p : Addr} (hp : ∀ x, a = some x → x.block ≠ p.block) (v : Value) : Own E (w.setCell p v) B a n c l :=
  h.kept fun g cur ha hB => hB.other (hp _ ha) v

theorem run_from {T E : TypeId} (hT : Tryd.prog.underlying T = some (.slice E)) (hE : ∀ w : World, (sizeOf E).run Tryd.prog w = .ok 1 w) (G sz wl : Nat) (hlt : wl < sz) (hb : sz ≤ 1099511627776) (w' : World) :
    (Instr.slice T (.slice (some ⟨G, 0, none⟩) sz sz) (some (.int .i64 (wl : Int))) none none).run Tryd.prog w' = .ok (.slice (some ⟨G, wl, none⟩) (sz - wl) (sz - wl)) w' := by
  have h0 := hE w'
  have hk : sz ≠ wl := by omega
  have h1 := run_sliceBound (P := Tryd.prog) w' .i64 (wl : Int) sz .sliceB (by omega) (by omega)
  simp [Instr.slice, Instr.sliceBounds, run_underlying hT, h1, h0, Sem.run_bind, Result.andThen, hk, Addr.add]
  omega
theorem size8 (w : World) : (sizeOf 5).run Tryd.prog w = .ok 1 w := by kernel_rfl

theorem run_from' {T E : TypeId} (hT : Tryd.prog.underlying T = some (.slice E)) (hE : ∀ w : World, (sizeOf E).run Tryd.prog w = .ok 1 w) (G sz wl : Nat) (hlt : wl ≤ sz) (hb : sz ≤ 1099511627776) :
    ∃ a', (∀ w', (Instr.slice T (.slice (some ⟨G, 0, none⟩) sz sz) (some (.int .i64 (wl : Int))) none none).run Tryd.prog w' = .ok (.slice a' (sz - wl) (sz - wl)) w') ∧ (wl < sz → a' = some ⟨G, wl, none⟩) := by
  by_cases h : wl < sz
  · exact ⟨_, run_from hT hE G sz wl h hb, fun _ => rfl⟩
  · obtain rfl : wl = sz := by omega
    refine ⟨some ⟨G, 0, none⟩, fun w' => ?_, fun h2 => absurd h2 h⟩
    have h0 := hE w'
    have h1 := run_sliceBound (P := Tryd.prog) w' .i64 (wl : Int) wl .sliceB (by omega) (by omega)
    simp [Instr.slice, Instr.sliceBounds, run_underlying hT, h1, h0, Sem.run_bind, Result.andThen]

theorem step_copyF {ops : Array Oper} {o : Oper} {a : Act} {w : World} {K : Act → World → Prop} {Q : Exit → Act → World → Prop} {E : Prop} (hgd : o.guard = none) (d s : Operand) (dT sT : TypeId)
    (ho : o.op = .call { callee := .builtin .copy, args := #[d, s], argTypes := #[dT, sT] }) (elem : TypeId) (hu : Tryd.prog.underlying dT = some (.slice elem)) (hsz : (Tryd.prog.info? elem).map (·.size) = some 1)
    (dp sp : Option Addr) (dLen dCap sLen sCap : Nat) (hd : a.eval d = .slice dp dLen dCap) (hs : a.eval s = .slice sp sLen sCap)
    (g off : Nat) (cur : List Value) (t : TypeId) (hg : Blk w g t cur.toArray) (cs : List Value) (hn : cs.length = Nat.min sLen dLen)
    (hpos : 0 < cs.length → dp = some ⟨g, off, none⟩ ∧ ∃ ad, sp = some ad ∧ ∀ j v, cs[j]? = some v → w.cell? (ad.add j) = some v)
    (hfit : off + cs.length ≤ cur.length) (h1 : ∀ v ∈ cs, v.oneCell' = true)
    (h : ∀ w', Blk w' g t (splice cur off cs).toArray → Frm w w' (fun b => b = g) → (∀ B, B ≤ g → Below B w w') → K (a.put o.dst (.int .i64 cs.length)) w') :
    if Region.wanted o (yielded ops a.tmps) = true then Oper.wp Tryd.prog o a w K Q else E := by
  have hw : Region.wanted o (yielded ops a.tmps) = true := by simp [Region.wanted, hgd]
  rw [if_pos hw]
  by_cases h0 : cs.length = 0
  · obtain rfl : cs = [] := List.eq_nil_of_length_eq_zero h0
    have hrun := run_copy_none (P := Tryd.prog) w dT sT o.type elem dp sp dLen dCap sLen sCap hu hsz (by simpa using hn.symm)
    unfold Oper.wp
    simp [execOp, ho, resolve, invoke, builtin, hd, hs, hrun, Result.andThen]
    exact h w (by simpa [splice] using hg) (Frm.refl _ _) (fun B _ => Below.refl _ _)
  · obtain ⟨rfl, ad, rfl, hsrc⟩ := hpos (by omega)
    have hrun := run_copy_row (P := Tryd.prog) w dT sT o.type elem g off dLen dCap ad sLen sCap cur.toArray t cs hu hsz hg hn hsrc (by simpa using hfit) h1
    unfold Oper.wp
    simp [execOp, ho, resolve, invoke, builtin, hd, hs, hrun, Result.andThen]
    exact h _ (by have := setRow_heap w g cur.toArray (splice cur off cs).toArray t _ hg; simpa [splice, Blk] using this) ⟨by simp [World.setRow], fun b hb hne => setRow_other w g b _ hne⟩ (fun B hB => below_setRow (Below.refl _ _) hB _)

theorem take_splice {α : Type} (L : List α) (off : Nat) (cs : List α) (h : off ≤ L.length) : (splice L off cs).take (off + cs.length) = L.take off ++ cs := by
  unfold splice
  rw [← List.append_assoc, List.take_append_of_le_length (by simp; omega), List.take_of_length_le (by simp; omega)]
theorem one8 : (Tryd.prog.info? 5).map (·.size) = some 1 := by kernel_rfl

theorem copyF {w : World} {ops : Array Oper} {rest : List Oper} {o : Oper} {a : Act} {Q : Exit → Act → World → Prop} (hgd : o.guard = none) (d s : Operand) (dT sT : TypeId)
    (ho : o.op = .call { callee := .builtin .copy, args := #[d, s], argTypes := #[dT, sT] }) (elem : TypeId) (hu : Tryd.prog.underlying dT = some (.slice elem)) (hsz : (Tryd.prog.info? elem).map (·.size) = some 1)
    (dp sp : Option Addr) (dLen dCap sLen sCap : Nat) (hd : a.eval d = .slice dp dLen dCap) (hs : a.eval s = .slice sp sLen sCap)
    (g off : Nat) (cur : List Value) (t : TypeId) (hg : Blk w g t cur.toArray) (cs : List Value) (hn : cs.length = Nat.min sLen dLen)
    (hpos : 0 < cs.length → dp = some ⟨g, off, none⟩ ∧ ∃ ad, sp = some ad ∧ ∀ j v, cs[j]? = some v → w.cell? (ad.add j) = some v)
    (hfit : off + cs.length ≤ cur.length) (h1 : ∀ v ∈ cs, v.oneCell' = true)
    (h : ∀ w', Blk w' g t (splice cur off cs).toArray → Frm w w' (fun b => b = g) → (∀ B, B ≤ g → Below B w w') → wpList Tryd.prog ops Q rest (a.put o.dst (.int .i64 cs.length)) w') : wpList Tryd.prog ops Q (o :: rest) a w := by
  refine wpList_plain hgd fun K hK => ?_
  by_cases h0 : cs.length = 0
  · obtain rfl : cs = [] := List.eq_nil_of_length_eq_zero h0
    have hrun := run_copy_none (P := Tryd.prog) w dT sT o.type elem dp sp dLen dCap sLen sCap hu hsz (by simpa using hn.symm)
    unfold Oper.wp
    simp [execOp, ho, resolve, invoke, builtin, hd, hs, hrun, Result.andThen]
    exact hK _ _ (h w (by simpa [splice] using hg) (Frm.refl _ _) (fun B _ => Below.refl _ _))
  · obtain ⟨rfl, ad, rfl, hsrc⟩ := hpos (by omega)
    have hrun := run_copy_row (P := Tryd.prog) w dT sT o.type elem g off dLen dCap ad sLen sCap cur.toArray t cs hu hsz hg hn hsrc (by simpa using hfit) h1
    unfold Oper.wp
    simp [execOp, ho, resolve, invoke, builtin, hd, hs, hrun, Result.andThen]
    exact hK _ _ (h _ (by have := setRow_heap w g cur.toArray (splice cur off cs).toArray t _ hg; simpa [splice, Blk] using this) ⟨by simp [World.setRow], fun b hb hne => setRow_other w g b _ hne⟩ (fun B hB => below_setRow (Below.refl _ _) hB _))

theorem Vw.lt_of {w : World} {a : Option Addr} {n c : Nat} {l : List Int} (h : Vw w a n c l) (x : Addr) (hx : a = some x) (h0 : n ≠ 0) : x.block < w.heap.size := by
  rcases h.cells with e | ⟨b, off, ha, hc⟩
  · exact absurd e h0
  · rw [hx] at ha; injection ha with ha; subst ha
    exact World.block_lt_of_cell? w _ (hc 0 (by omega))
/-- A slice whose block is as it was, where it has bytes. -/
theorem vw_live {w w' : World} {a : Option Addr} {n c : Nat} {l : List Int} (h : Vw w a n c l) (hk : ∀ x, a = some x → n ≠ 0 → w'.heap[x.block]? = w.heap[x.block]?) : Vw w' a n c l := by
  refine ⟨h.len, h.cap, h.big, h.byt, h.nul, ?_⟩
  rcases h.cells with h0 | ⟨g, off, ha, hx⟩
  · exact .inl h0
  · by_cases h0 : n = 0
    · exact .inl h0
    refine .inr ⟨g, off, ha, fun i hi => ?_⟩
    have e : w'.heap[(⟨g, off + i, none⟩ : Addr).block]? = w.heap[(⟨g, off + i, none⟩ : Addr).block]? := hk ⟨g, off, none⟩ ha h0
    rw [World.cell?_of_block e]
    exact hx i hi


theorem Frm.trans2 {w w1 w2 : World} {K : Nat → Prop} (h : Frm w w1 K) (k : Frm w1 w2 (fun b => K b ∨ w.heap.size ≤ b)) : Frm w w2 K :=
  ⟨Nat.le_trans h.1 k.1, fun b hb hn => (k.2 b (Nat.lt_of_lt_of_le hb h.1) (by rintro (e | e); exact hn e; omega)).trans (h.2 b hb hn)⟩
theorem Blk.ne {w : World} {T G t u : Nat} {cs ds : Array Value} (h : Blk w T t cs) (k : Blk w G u ds) (ht : t ≠ u) : T ≠ G := by
  intro e; subst e
  unfold Blk at h k; rw [h] at k; injection k with k; injection k with _ k; exact ht k
theorem Own.lt8 {w : World} {B : Nat} {a : Option Addr} {n c : Nat} {l : List Int} (h : O8 w B a n c l) : ∀ b, blkOf a = some b → b < w.heap.size := by
  intro b hb
  rcases h.row with ⟨h1, _⟩ | ⟨g, cur, h1, hg2, hB, _⟩
  · rw [h1] at hb; cases hb
  · rw [h1] at hb; simp [blkOf] at hb; subst hb; exact hB.lt
theorem Own.neT {w : World} {B T t : Nat} {cs : Array Value} {a : Option Addr} {n c : Nat} {l : List Int} (h : O8 w B a n c l) (hT : Blk w T t cs) (ht : t ≠ 5) : blkOf a ≠ some T := by
  intro hb
  rcases h.row with ⟨h1, _⟩ | ⟨g, cur, h1, hg2, hB, _⟩
  · rw [h1] at hb; cases hb
  · rw [h1] at hb; simp [blkOf] at hb; subst hb
    unfold Blk at hT hB; rw [hT] at hB; injection hB with hB; injection hB with _ hB
    exact ht hB
end Go.Proofs.YtfaangichifbgaaDoor
