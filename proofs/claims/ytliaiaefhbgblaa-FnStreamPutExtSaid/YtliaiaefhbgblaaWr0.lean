/- A Writer of MessagePack over a text: where an append lays its row; (*msgp.Text).Write. -/
import Derived.Test.YtliaiaefhbgblaaApp
import Derived.Test.YtliaiaefhbgblaaRd
import Derived.StillTailTactics
namespace Go.Proofs.Ytliaiaefhbgblaa
open Go.RowKit
set_option linter.unusedVariables false
set_option linter.unusedSimpArgs false

/-- What an append leaves lies where it lay, or in a new block. -/
theorem run_app_where {P : Program} (w : World) (base : Nat) (t ty e : TypeId) (i : TypeInfo) (z : Value) (size bytes : Nat) (ht : P.underlying t = some (.slice e)) (hi : P.info? e = some i) (hz : i.zero = some z)
    (hsize : i.size = size) (hby : i.bytes = bytes) (hzs : z.cells.size = size) (hsz : 0 < size)
    (v : Value) (n : Nat) (xs : List Value) (hown : w.ownsRow base e size v n xs)
    (a : Addr) (m c : Nat) (news : List Value) (hl : news.length = m * size) (hnews : ∀ j u, news[j]? = some u → w.cell? (a.add j) = some u) (h1 : ∀ u ∈ news, u.oneCell' = true)
    (h63 : n + m ≤ maxLen) (hbytes : (n + m) * bytes ≤ 140737488355328) (hbase : base ≤ w.heap.size) :
    ∃ v' w', (Builtin.append_ #[t, t] ty #[v, .slice (some a) m c]).run P w = .ok v' w' ∧ w'.ownsRow base e size v' (n + m) (xs ++ news) ∧ w.grownBy w' v.ownBlock ∧
      ∀ k, v'.ownBlock = some k → v.ownBlock = some k ∨ w.heap.size ≤ k := by
  obtain ⟨v', w', hr, h2, h3, _⟩ := run_append_own (P := P) w base t ty e i z size bytes ht hi hz hsize hby hzs hsz v n xs hown a m c news hl hnews h1 h63 hbytes hbase
  refine ⟨v', w', hr, h2, h3, ?_⟩
  intro k hk
  rcases hown.2 with ⟨rfl, rfl⟩ | ⟨g, cap, cur, rfl, hbg, hg, hnc, hcm, hcs, htake⟩
  · have hx : xs = [] := List.eq_nil_of_length_eq_zero (by simpa using hown.1)
    subst hx
    obtain ⟨v2, w2, hr2, h22, _, _⟩ := run_append_own (P := P) w w.heap.size t ty e i z size bytes ht hi hz hsize hby hzs hsz _ 0 [] (World.ownsRow_nil w _ e size) a m c news hl hnews h1 h63 hbytes (Nat.le_refl _)
    rw [hr] at hr2
    injection hr2 with e1 e2
    subst e1; subst e2
    exact .inr (h22.lt k hk).1
  · by_cases hroom : n + m ≤ cap
    · obtain ⟨w2, hr2, _, _⟩ := run_append_fits (P := P) w base t ty e i size ht hi hsize g n cap xs hown a m c news hl hnews h1 hroom
      rw [hr] at hr2
      injection hr2 with e1 e2
      subst e1
      exact .inl hk
    · have holds : ∀ j u, xs[j]? = some u → w.cell? ((⟨g, 0, none⟩ : Addr).add j) = some u := hown.cells (g := g) rfl
      subst hsize
      subst hby
      have hr2 := run_append_grow (P := P) w t ty e i z ht hi hz ⟨g, 0, none⟩ n cap xs hown.1 holds a m c news hl hnews (by omega) (by simp only [maxLen] at h63; omega) (growslice_fits (by omega) hbytes)
      rw [hr] at hr2
      injection hr2 with e1 e2
      subst e1
      simp [Value.ownBlock] at hk
      exact .inr (by omega)

theorem app8w {w : World} {ops : Array Oper} {rest : List Oper} {o : Oper} {act : Act} {Q : Exit → Act → World → Prop} (hgd : o.guard = none) (s x : Operand)
    (ho : o.op = .call { callee := .builtin .append, args := #[s, x], argTypes := #[23, 23] })
    (B : Nat) (a : Option Addr) (n c : Nat) (l : List Int) (hs : act.eval s = .slice a n c) (hown : O8 w B a n c l)
    (a2 : Option Addr) (m c2 : Nat) (l2 : List Int) (hx : act.eval x = .slice a2 m c2) (hv2 : Vw w a2 m c2 l2) (hsz : n + m ≤ 140737488355328) (hB : B ≤ w.heap.size)
    (h : ∀ a' c' w', O8 w' B a' (n + m) c' (l ++ l2) → w.grownBy w' (Value.ownBlock (.slice a n c)) → (∀ x, a' = some x → blkOf a = some x.block ∨ w.heap.size ≤ x.block) → wpList Try.prog ops Q rest (act.put o.dst (.slice a' (n + m) c')) w') : wpList Try.prog ops Q (o :: rest) act w := by
  obtain ⟨i, hi, hz, hs1, hs2⟩ := info8
  have hown' := hown.owns
  have hbb : ∀ y ∈ l ++ l2, 0 ≤ y ∧ y ≤ 255 := fun y hy => by
    rcases List.mem_append.1 hy with h1 | h1
    · exact hown.vw.byt y h1
    · exact hv2.byt y h1
  cases a2 with
  | none =>
    have hc2 := hv2.nul rfl
    have hm : m = 0 := by have := hv2.cap; omega
    have hl2 : l2 = [] := List.eq_nil_of_length_eq_zero (by rw [hv2.len, hm])
    subst hm; subst hc2; subst hl2
    refine wpList_append_own_none hgd s x 23 ho B 5 i 1 Try.underlying23 hi _ n (bytesV l) hs hown' hx ?_
    exact h a c w (by simpa using hown) ⟨rfl, rfl, rfl, Nat.le_refl _, fun _ _ _ => rfl⟩ (fun x hx => .inl (by rw [hx]; rfl))
  | some ad =>
    have hsz' : n + m ≤ maxLen := by simp only [maxLen]; omega
    have hsz2 : (n + m) * 1 ≤ 140737488355328 := by omega
    have hl2 : (bytesV l2).length = m * 1 := by simp [bytesV, hv2.len]
    obtain ⟨v', w', hr, h2, h3, h4⟩ := run_app_where (P := Try.prog) w B 23 o.type 5 i (.int .u8 0) 1 1 Try.underlying23 hi hz hs1 hs2 rfl (by omega) _ n (bytesV l) hown' ad m c2 (bytesV l2) hl2
      (by
        intro j u hj
        obtain ⟨ad', e0, hc⟩ := hv2.src (Nat.lt_of_le_of_lt (Nat.zero_le _) (List.getElem?_eq_some_iff.1 hj).1)
        rw [← Option.some.inj e0] at hc
        exact hc j u hj)
      (by
        intro u hu
        simp only [bytesV, List.mem_map] at hu
        obtain ⟨q, _, rfl⟩ := hu
        rfl) hsz' hsz2 hB
    rw [show bytesV l ++ bytesV l2 = bytesV (l ++ l2) by simp [bytesV]] at h2
    obtain ⟨a', c', rfl, hO⟩ := Own.of_owns h2 hbb
    refine wpList_plain hgd fun K hK => ?_
    have hgo := hK _ _ (h a' c' w' hO h3 (fun x hx => by
      subst hx
      rcases h4 x.block rfl with e | e
      · refine .inl ?_
        cases a with
        | none => cases e
        | some y => exact e
      · exact .inr e))
    unfold Oper.wp execOp
    simp only [ho, resolve, invoke, builtin, Sem.run_bind, Sem.run_pure, Result.andThen_ok, List.map_toArray, List.map_cons, List.map_nil, hs, hx, hr]
    exact hgo

/-- All old blocks but some are as they were. -/
def Frm (w w' : World) (bad : Nat → Prop) : Prop := w.heap.size ≤ w'.heap.size ∧ ∀ b, b < w.heap.size → ¬ bad b → w'.heap[b]? = w.heap[b]?

theorem Frm.refl (w : World) (bad : Nat → Prop) : Frm w w bad := ⟨Nat.le_refl _, fun _ _ _ => rfl⟩
theorem Frm.trans {a b c : World} {p : Nat → Prop} (h : Frm a b p) (k : Frm b c p) : Frm a c p := ⟨Nat.le_trans h.1 k.1, fun x hx hp => (k.2 x (Nat.lt_of_lt_of_le hx h.1) hp).trans (h.2 x hx hp)⟩
theorem Frm.imp {a b : World} {p q : Nat → Prop} (h : Frm a b p) (hpq : ∀ x, x < a.heap.size → p x → q x) : Frm a b q := ⟨h.1, fun x hx hq => h.2 x hx (fun hp => hq (hpq x hx hp))⟩
theorem Frm.below {a b : World} (h : Below a.heap.size a b) (p : Nat → Prop) : Frm a b p := ⟨h.size, fun x hx _ => h.block x hx⟩
theorem Frm.drew {a b : World} {p : Nat → Prop} (h : Frm a b p) : Frm a b.drew p := h
theorem Frm.drewN {a b : World} {p : Nat → Prop} (h : Frm a b p) (n : Nat) : Frm a (b.drewN n) p := h
theorem Frm.set {a b : World} {p : Nat → Prop} (h : Frm a b p) {x : Addr} (hx : p x.block) (v : Value) : Frm a (b.setCell x v) p := by
  refine ⟨Nat.le_trans h.1 (by simp), fun y hy hp => ?_⟩
  rw [Below.heap_setCell _ _ _ _ (by intro e; subst e; exact hp hx)]
  exact h.2 y hy hp
theorem Frm.grown {a b w' : World} {p : Nat → Prop} (h : Frm a b p) {row : Option Nat} (hg : b.grownBy w' row) (hr : ∀ k, row = some k → p k) : Frm a w' p := by
  refine ⟨Nat.le_trans h.1 hg.size, fun y hy hp => ?_⟩
  rw [hg.block y (Nat.lt_of_lt_of_le hy h.1) (fun e => hp (hr y e.symm))]
  exact h.2 y hy hp
theorem Frm.blk {a b : World} {p : Nat → Prop} (h : Frm a b p) {g : Nat} {t : TypeId} {cs : Array Value} (hb : Blk a g t cs) (hp : ¬ p g) : Blk b g t cs := by
  unfold Blk; rw [h.2 g hb.lt hp]; exact hb
theorem Frm.vw {a b : World} {p : Nat → Prop} (h : Frm a b p) {x : Option Addr} {n c : Nat} {l : List Int} (hv : Vw a x n c l) (hp : ∀ y, x = some y → ¬ p y.block) : Vw b x n c l := by
  refine ⟨hv.len, hv.cap, hv.big, hv.byt, hv.nul, ?_⟩
  rcases hv.cells with h0 | ⟨g, off, ha, hx⟩
  · exact .inl h0
  · refine .inr ⟨g, off, ha, fun i hi => ?_⟩
    have hc := hx i hi
    have hlt := World.block_lt_of_cell? a _ hc
    rw [World.cell?_of_block (w := a) (h.2 g (by simpa using hlt) (hp _ ha))]
    exact hc

theorem Own.setLt {E : TypeId} {w : World} {B : Nat} {a : Option Addr} {n c : Nat} {l : List Int} (h : Own E w B a n c l) {p : Addr} (hp : ∀ x, a = some x → x.block ≠ p.block) (v : Value) : Own E (w.setCell p v) B a n c l :=
  h.kept fun g cur ha hB => hB.other (hp _ ha) v

def TextRes (w : World) (B T : Nat) (ta : Option Addr) (m : Nat) (l : List Int) (e : Ending) (w' : World) : Prop :=
  e = .returned (.tuple #[.int .i64 m, Value.nilIface]) ∧ ∃ ta' tn' tc', Blk w' T 66 #[.slice ta' tn' tc'] ∧ O8 w' B ta' tn' tc' l ∧ (∀ x, ta' = some x → blkOf ta = some x.block ∨ w.heap.size ≤ x.block) ∧
    Frm w w' (fun b => b = T ∨ blkOf ta = some b) ∧ Below B w w'

theorem text_after {w w1 : World} {B T : Nat} {ta : Option Addr} {tn tc : Nat} {out : List Int} (hT : Blk w T 66 #[.slice ta tn tc]) (hO : O8 w B ta tn tc out) (hg : w.grownBy w1 (Value.ownBlock (.slice ta tn tc))) (hB : B ≤ T) :
    w1.cell? ⟨T, 0, none⟩ = some (.slice ta tn tc) ∧ w1.frozen? ⟨T, 0, none⟩ = false ∧ T < w1.heap.size ∧ Blk w1 T 66 #[.slice ta tn tc] ∧ Below B w w1 ∧ Frm w w1 (fun b => b = T ∨ blkOf ta = some b) := by
  have hTl := hT.lt
  have hne : ∀ k, Value.ownBlock (.slice ta tn tc) = some k → k ≠ T := by
    intro k hk e
    subst e
    rcases hO.row with ⟨h1, _⟩ | ⟨g, cur, h1, hg2, hb, _⟩
    · rw [h1] at hk; cases hk
    · rw [h1] at hk; simp [Value.ownBlock] at hk; subst hk
      unfold Blk at hT hb; rw [hT] at hb; injection hb with hb; injection hb with _ hb; cases hb
  have hT1 : Blk w1 T 66 #[.slice ta tn tc] := by
    unfold Blk; rw [hg.block T hTl (fun e => hne T e.symm rfl)]; exact hT
  have hb1 := below_of_grown hg (by omega) hO.ge
  have hfr : Frm w w1 (fun b => b = T ∨ blkOf ta = some b) := (Frm.refl w _).grown hg (fun k hk => .inr (by
      cases ta with
      | none => cases hk
      | some y => exact hk))
  exact ⟨hT1.cell rfl, hT1.frozen 0, hT1.lt, hT1, hb1, hfr⟩

set_option maxHeartbeats 400000 in
theorem textWrite_any (B T : Nat) (ta : Option Addr) (tn tc : Nat) (out : List Int) (pa : Option Addr) (pn pc : Nat) (pl : List Int) (w : World) (hT : Blk w T 66 #[.slice ta tn tc]) (hO : O8 w B ta tn tc out)
    (hp : Vw w pa pn pc pl) (hsz : tn + pn ≤ 140737488355328) (hB : B ≤ T) :
    Calls Try.prog 77 #[.pointer (some ⟨T, 0, none⟩), .slice pa pn pc] w (TextRes w B T ta pn (out ++ pl)) := by
  have hT0 : w.cell? ⟨T, 0, none⟩ = some (.slice ta tn tc) := hT.cell rfl
  have hTl := hT.lt
  go_enter Try.func77, Try.ntmps77
  go_wp2_with (at_builtin; refine app8w (by rfl) _ _ (by rfl) B ta tn tc out (by rfl) hO pa pn pc pl (by rfl) hp hsz (by omega) ?_; intro a' c' w1 ho hg hw; obtain ⟨hT2, hTf, hT1l, hT1, hb1, hfr⟩ := text_after hT hO hg hB)
  go_ret2
  refine ⟨rfl, a', _, c', hT1.set 0 _, ?_, hw, hfr.set (.inl rfl) _, hb1.setCell hB _⟩
  refine ho.setLt (fun x hx => ?_) _
  intro e
  simp at e
  rcases ho.row with ⟨h1, _⟩ | ⟨g, cur, h1, hg2, hb, _⟩
  · rw [h1] at hx; cases hx
  · rw [h1] at hx; injection hx with hx; subst hx
    simp at e; subst e
    unfold Blk at hT1 hb; rw [hT1] at hb; injection hb with hb; injection hb with _ hb; cases hb
#print axioms textWrite_any
end Go.Proofs.Ytliaiaefhbgblaa
