/- General words: cells at an address that read as a list; rows of one's own; append of one value of one cell. -/
import Derived.Test.YtdncfolehkhjhaaDoorProg
import Derived.Test.YtdncfolehkhjhaaDoorLib
import Derived.Laws.OwnMore
import Derived.Laws.Externs
import Derived.Deep.LoopGhost
import Derived.Deep.RegionHeld3
import Derived.Outline
import Derived.RegionTactic
import Derived.Deep.QuietTactic
import Derived.BigQuiet
import Derived.StillTailTactics
namespace Go.Proofs.YtdncfolehkhjhaaDoor
open Go.RowKit
set_option linter.unusedVariables false
set_option linter.unusedSimpArgs false

/-- Cells at an address that read as a list. -/
def Rd (w : World) (a : Option Addr) (xs : List Value) : Prop := xs = [] ∨ ∃ b off, a = some ⟨b, off, none⟩ ∧ ∀ i v, xs[i]? = some v → w.cell? ⟨b, off + i, none⟩ = some v

theorem Rd.of_cells {w w' : World} {a : Option Addr} {xs : List Value} (h : Rd w a xs) (hc : ∀ b o v, w.cell? ⟨b, o, none⟩ = some v → w'.cell? ⟨b, o, none⟩ = some v) : Rd w' a xs := by
  rcases h with h | ⟨b, off, ha, hx⟩
  · exact .inl h
  · exact .inr ⟨b, off, ha, fun i v hv => hc _ _ _ (hx i v hv)⟩
theorem Rd.below {w w' : World} {B : Nat} (hb : Below B w w') (hB : w.heap.size ≤ B) {a : Option Addr} {xs : List Value} (h : Rd w a xs) : Rd w' a xs :=
  h.of_cells fun b o v hv => by
    have := World.block_lt_of_cell? w _ hv
    rw [hb.cell (p := ⟨b, o, none⟩) (by simp at this ⊢; omega)]; exact hv
theorem Rd.alloc {w : World} {a : Option Addr} {xs : List Value} (h : Rd w a xs) (o : Obj) : Rd (w.alloc o) a xs :=
  h.below ((Below.refl w.heap.size w).alloc (Nat.le_refl _) o) (Nat.le_refl _)
theorem Rd.drew {w : World} {a : Option Addr} {xs : List Value} (h : Rd w a xs) : Rd w.drew a xs := h.of_cells fun _ _ _ hv => hv
theorem Rd.drewN {w : World} {a : Option Addr} {xs : List Value} (h : Rd w a xs) (k : Nat) : Rd (w.drewN k) a xs := h.of_cells fun _ _ _ hv => hv
theorem Rd.setCell {w : World} {a : Option Addr} {xs : List Value} (h : Rd w a xs) {p : Addr} (v : Value) (hp : ∀ x, a = some x → x.block ≠ p.block) : Rd (w.setCell p v) a xs := by
  rcases h with h | ⟨b, off, ha, hx⟩
  · exact .inl h
  · refine .inr ⟨b, off, ha, fun i v hv => ?_⟩
    rw [World.cell?_setCell_other]
    · exact hx i v hv
    · intro e; exact hp _ ha (by rw [e])
theorem Rd.at_ {w : World} {a : Option Addr} {xs : List Value} (h : Rd w a xs) (h0 : 0 < xs.length) : ∃ b off, a = some ⟨b, off, none⟩ ∧ ∀ i, i < xs.length → w.cell? ⟨b, off + i, none⟩ = some (xs.getD i undef) := by
  rcases h with h | ⟨b, off, ha, hx⟩
  · subst h; simp at h0
  · exact ⟨b, off, ha, fun i hi => hx i _ (by rw [List.getD, List.getElem?_eq_getElem hi]; rfl)⟩
theorem Rd.of_owns {w : World} {B e size n c n' : Nat} {a : Option Addr} {xs : List Value} (h : w.ownsRow B e size (.slice a n c) n' xs) : Rd w a xs := by
  rcases h.2 with ⟨_, hn⟩ | ⟨g, cap, cur, hv, hg, hh, hnc, hcm, hcs, ht⟩
  · exact .inl (List.eq_nil_of_length_eq_zero (by rw [h.1, hn]; simp))
  · injection hv with h1 h2 h3
    refine .inr ⟨g, 0, h1, fun i v hi => ?_⟩
    rw [Nat.zero_add, cell_of_row w g i cur e (0, 0) hh]
    have hil : i < xs.length := (List.getElem?_eq_some_iff.1 hi).1
    rw [← ht, List.getElem?_take] at hi
    split at hi
    · simpa using hi
    · cases hi
theorem ge_of_owns {w : World} {B e size n c n' : Nat} {a : Option Addr} {xs : List Value} (h : w.ownsRow B e size (.slice a n c) n' xs) : ∀ x, a = some x → B ≤ x.block := by
  intro x hx
  rcases h.2 with ⟨h1, _⟩ | ⟨g, cap, cur, hv, hg, _⟩
  · injection h1 with h1; rw [h1] at hx; cases hx
  · injection hv with h1; rw [h1] at hx; injection hx with hx; subst hx; exact hg
theorem slice_of_owns {w : World} {B e size n : Nat} {v : Value} {xs : List Value} (h : w.ownsRow B e size v n xs) : ∃ a c, v = .slice a n c := by
  rcases h.2 with ⟨h1, rfl⟩ | ⟨g, cap, cur, hv, _⟩
  · exact ⟨none, 0, h1⟩
  · exact ⟨_, _, hv⟩
theorem owns_below {w w' : World} {B e size n : Nat} {v : Value} {xs : List Value} (h : w.ownsRow B e size v n xs) (hb : Below w.heap.size w w') : w'.ownsRow B e size v n xs := by
  refine ⟨h.1, ?_⟩
  rcases h.2 with h1 | ⟨g, cap, cur, hv, hg, hh, r⟩
  · exact .inl h1
  · refine .inr ⟨g, cap, cur, hv, hg, ?_, r⟩
    rw [hb.block g (Array.getElem?_eq_some_iff.1 hh).1]; exact hh
theorem owns_set {w : World} {B e size n : Nat} {v : Value} {xs : List Value} (h : w.ownsRow B e size v n xs) {p : Addr} (hp : p.block < B) (u : Value) : (w.setCell p u).ownsRow B e size v n xs := by
  refine ⟨h.1, ?_⟩
  rcases h.2 with h1 | ⟨g, cap, cur, hv, hg, hh, r⟩
  · exact .inl h1
  · refine .inr ⟨g, cap, cur, hv, hg, ?_, r⟩
    rw [Below.heap_setCell _ _ _ _ (by omega)]; exact hh

theorem Blk.newAt {w : World} {g : Nat} (hg : g = w.heap.size) (t : TypeId) (cs : Array Value) : Blk (w.alloc (.cells cs t)) g t cs := by subst hg; exact Blk.new w t cs

theorem Rd.lit (w : World) (t : TypeId) (xs : List Value) : Rd (w.alloc (.cells xs.toArray t)) (some ⟨w.heap.size, 0, none⟩) xs :=
  .inr ⟨w.heap.size, 0, rfl, fun i v hv => by rw [Nat.zero_add]; exact (Blk.new w t xs.toArray).cell (by simpa using hv)⟩

/-- 'append(row, v)': one value of one cell, to a row of one's own. -/
theorem app1 {w : World} {ops : Array Oper} {rest : List Oper} {o : Oper} {act : Act} {Q : Exit → Act → World → Prop} (hgd : o.guard = none) (s x : Operand) (T E : TypeId) (z : Value) (by_ : Nat)
    (ho : o.op = .call { callee := .builtin .append, args := #[s, x], argTypes := #[T, T] })
    (hT : Tryd.prog.underlying T = some (.slice E)) (hinfo : (Tryd.prog.info? E).map (fun i => (i.zero, i.size, i.bytes)) = some (some z, 1, by_)) (hz1 : z.cells.size = 1) (hby : by_ ≤ 64)
    (B : Nat) (a : Option Addr) (n c : Nat) (xs : List Value) (hs : act.eval s = .slice a n c) (hown : w.ownsRow B E 1 (.slice a n c) n xs)
    (g : Nat) (v : Value) (hone : v.oneCell' = true) (hx : act.eval x = .slice (some ⟨g, 0, none⟩) 1 1) (hb : Blk w g E #[v]) (hsz : n ≤ 1099511627775) (hB : B ≤ w.heap.size)
    (h : ∀ a' c' w', w'.ownsRow B E 1 (.slice a' (n + 1) c') (n + 1) (xs ++ [v]) → w.grownBy w' (Value.ownBlock (.slice a n c)) → wpList Tryd.prog ops Q rest (act.put o.dst (.slice a' (n + 1) c')) w') : wpList Tryd.prog ops Q (o :: rest) act w := by
  obtain ⟨i, hi, hz, h1, h2⟩ := info_parts hinfo
  have hb2 : (n + 1) * by_ ≤ 1099511627776 * 64 := Nat.mul_le_mul (by omega) hby
  refine wpList_append_own w hgd s x T ho B E i z 1 by_ hT hi hz h1 h2 hz1 (by omega) _ n xs hs hown ⟨g, 0, none⟩ 1 1 [v] hx rfl ?_ (by intro u hu; simp at hu; subst hu; exact hone) (by simp only [maxLen]; omega) (by omega) hB ?_
  · intro j u hj
    have e : (⟨g, 0, none⟩ : Addr).add j = ⟨g, j, none⟩ := by unfold Addr.add; split <;> simp_all
    rw [e]
    refine hb.cell ?_
    cases j with
    | zero => simpa using hj
    | succ j => simp at hj
  · intro v' w' ho2 hg _
    obtain ⟨a', c', rfl⟩ := slice_of_owns ho2
    exact h a' c' w' ho2 hg

theorem Rd.belowAt {w w' : World} {B : Nat} (hb : Below B w w') {a : Option Addr} {xs : List Value} (h : Rd w a xs) (hlt : ∀ x, a = some x → x.block < B) : Rd w' a xs := by
  rcases h with h | ⟨b, off, ha, hx⟩
  · exact .inl h
  · refine .inr ⟨b, off, ha, fun i v hv => ?_⟩
    rw [hb.cell (p := ⟨b, off + i, none⟩) (hlt ⟨b, off, none⟩ ha)]
    exact hx i v hv
theorem lt_of_owns {w : World} {B e size n c n' : Nat} {a : Option Addr} {xs : List Value} (h : w.ownsRow B e size (.slice a n c) n' xs) : ∀ x, a = some x → x.block < w.heap.size := by
  intro x hx
  rcases h.2 with ⟨h1, _⟩ | ⟨g, cap, cur, hv, hg, hh, _⟩
  · injection h1 with h1; rw [h1] at hx; cases hx
  · injection hv with h1; rw [h1] at hx; injection hx with hx; subst hx; exact (Array.getElem?_eq_some_iff.1 hh).1

theorem rd_of_row {k : IntKind} {w : World} {a : Option Addr} {len cap : Nat} {zs : List Int}
    (h : (a = none ∧ len = 0 ∧ cap = 0 ∧ zs = []) ∨ ∃ x, a = some x ∧ len ≤ cap ∧ cap ≤ maxLen ∧ zs.length = cap ∧ (∀ i, i < zs.length → w.cell? (x.add i) = some (.int k (zs.getD i 0))) ∧ ∀ n ∈ zs, (Lit.int k n).wf = true) :
    Rd w a ((zs.take len).map (Value.int k)) ∧ (zs.take len).length = len ∧ ∀ x ∈ zs.take len, (Lit.int k x).wf = true := by
  rcases h with ⟨rfl, rfl, rfl, rfl⟩ | ⟨x, rfl, hl, hm, hz, hc, hw⟩
  · exact ⟨.inl rfl, rfl, by simp⟩
  · refine ⟨?_, by rw [List.length_take]; omega, fun y hy => hw y (List.mem_of_mem_take hy)⟩
    by_cases h0 : len = 0
    · subst h0; exact .inl (by simp)
    · obtain ⟨b, off, spot⟩ := x
      have h1 := hc 0 (by omega)
      have hsp : spot = none := by simpa [Addr.add] using World.cell?_spot h1
      subst hsp
      refine .inr ⟨b, off, rfl, fun i v hi => ?_⟩
      have hil : i < len := by
        have := (List.getElem?_eq_some_iff.1 hi).1
        simp at this; omega
      have e : (⟨b, off, none⟩ : Addr).add i = ⟨b, off + i, none⟩ := by unfold Addr.add; split <;> simp_all
      rw [← e, hc i (by omega)]
      simp [List.getElem?_take, hil] at hi
      obtain ⟨y, hy, rfl⟩ := hi
      simp [List.getD, hy]

/-- 'append(row, v)': one value of sz cells. -/
theorem appN {w : World} {ops : Array Oper} {rest : List Oper} {o : Oper} {act : Act} {Q : Exit → Act → World → Prop} (hgd : o.guard = none) (s x : Operand) (T E : TypeId) (sz by_ : Nat)
    (ho : o.op = .call { callee := .builtin .append, args := #[s, x], argTypes := #[T, T] })
    (hT : Tryd.prog.underlying T = some (.slice E)) (hinfo : (Tryd.prog.info? E).map (fun i => (i.zero.map (·.cells.size), i.size, i.bytes)) = some (some sz, sz, by_)) (hsz0 : 0 < sz) (hby : by_ ≤ 128)
    (B : Nat) (a : Option Addr) (n c : Nat) (xs : List Value) (hs : act.eval s = .slice a n c) (hown : w.ownsRow B E sz (.slice a n c) n xs)
    (g : Nat) (hx : act.eval x = .slice (some ⟨g, 0, none⟩) 1 1) (news : List Value) (hl : news.length = sz) (h1 : ∀ u ∈ news, u.oneCell' = true) (hb : Blk w g E news.toArray) (hsz : n ≤ 1099511627775) (hB : B ≤ w.heap.size)
    (h : ∀ a' c' w', w'.ownsRow B E sz (.slice a' (n + 1) c') (n + 1) (xs ++ news) → w.grownBy w' (Value.ownBlock (.slice a n c)) → wpList Tryd.prog ops Q rest (act.put o.dst (.slice a' (n + 1) c')) w') : wpList Tryd.prog ops Q (o :: rest) act w := by
  have hinf : ∃ i z, Tryd.prog.info? E = some i ∧ i.zero = some z ∧ i.size = sz ∧ i.bytes = by_ ∧ z.cells.size = sz := by
    cases hq : Tryd.prog.info? E with
    | none => rw [hq] at hinfo; cases hinfo
    | some i =>
      rw [hq] at hinfo
      simp at hinfo
      obtain ⟨⟨z, hz, hz6⟩, h2, h3⟩ := hinfo
      exact ⟨i, z, rfl, hz, h2, h3, hz6⟩
  obtain ⟨i, z, hi, hz, h6, h88, hz6⟩ := hinf
  have hb2 : (n + 1) * by_ ≤ 1099511627776 * 128 := Nat.mul_le_mul (by omega) hby
  refine wpList_append_own w hgd s x T ho B E i z sz by_ hT hi hz h6 h88 hz6 hsz0 _ n xs hs hown ⟨g, 0, none⟩ 1 1 news hx (by rw [hl, Nat.one_mul]) ?_ h1 (by simp only [maxLen]; omega) (by omega) hB ?_
  · intro j u hj
    have e : (⟨g, 0, none⟩ : Addr).add j = ⟨g, j, none⟩ := by unfold Addr.add; split <;> simp_all
    rw [e]
    exact hb.cell (by simpa using hj)
  · intro v' w' ho2 hg _
    obtain ⟨a', c', rfl⟩ := slice_of_owns ho2
    exact h a' c' w' ho2 hg

theorem wrap_u64 (n : Int) : IntKind.u64.wrap n = n % 18446744073709551616 := by
  simp [IntKind.wrap, IntKind.signed, IntKind.bits]
theorem wrap64_mod (n : Int) : wrap64 n = (n + 9223372036854775808) % 18446744073709551616 - 9223372036854775808 := by
  unfold wrap64; omega
end Go.Proofs.YtdncfolehkhjhaaDoor
