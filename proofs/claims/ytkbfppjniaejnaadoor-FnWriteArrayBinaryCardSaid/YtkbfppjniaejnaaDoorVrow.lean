/- Rows of AMQP's values in memory: cells that read as a list; append of a value to a row of one's own; the elements of an array. -/
import Derived.Test.YtkbfppjniaejnaaDoorWrote
import Derived.Laws.OwnMore
namespace Go.Proofs.YtkbfppjniaejnaaDoor
open Go.RowKit
set_option linter.unusedVariables false
set_option linter.unusedSimpArgs false

/-- Cells at an address that read as a list. -/
def Rd (w : World) (a : Option Addr) (xs : List Value) : Prop := xs = [] ∨ ∃ b off, a = some ⟨b, off, none⟩ ∧ ∀ i v, xs[i]? = some v → w.cell? ⟨b, off + i, none⟩ = some v

theorem Rd.of_cells {w w' : World} {a : Option Addr} {xs : List Value} (h : Rd w a xs) (hc : ∀ b o v, w.cell? ⟨b, o, none⟩ = some v → w'.cell? ⟨b, o, none⟩ = some v) : Rd w' a xs := by
  rcases h with h | ⟨b, off, ha, hx⟩
  · exact .inl h
  · exact .inr ⟨b, off, ha, fun i v hv => hc _ _ _ (hx i v hv)⟩
theorem Rd.below {w w' : World} {B : Nat} (hb : Below B w w') (hB : w.heap.size ≤ B) {a : Option Addr} {xs : List Value} (h : Rd w a xs) : Rd w' a xs :=
  h.of_cells fun b o v hv => by
    have := World.block_lt_of_cell? w _ hv
    rw [hb.cell (p := ⟨b, o, none⟩) (by simp at this ⊢; omega)]; exact hv
theorem Rd.alloc {w : World} {a : Option Addr} {xs : List Value} (h : Rd w a xs) (o : Obj) : Rd (w.alloc o) a xs :=
  h.below ((Below.refl w.heap.size w).alloc (Nat.le_refl _) o) (Nat.le_refl _)
theorem Rd.drew {w : World} {a : Option Addr} {xs : List Value} (h : Rd w a xs) : Rd w.drew a xs := h.of_cells fun _ _ _ hv => hv
theorem Rd.drewN {w : World} {a : Option Addr} {xs : List Value} (h : Rd w a xs) (k : Nat) : Rd (w.drewN k) a xs := h.of_cells fun _ _ _ hv => hv
theorem Rd.setCell {w : World} {a : Option Addr} {xs : List Value} (h : Rd w a xs) {p : Addr} (v : Value) (hp : ∀ x, a = some x → x.block ≠ p.block) : Rd (w.setCell p v) a xs := by
  rcases h with h | ⟨b, off, ha, hx⟩
  · exact .inl h
  · refine .inr ⟨b, off, ha, fun i v hv => ?_⟩
    rw [World.cell?_setCell_other]
    · exact hx i v hv
    · intro e; exact hp _ ha (by rw [e])
theorem Rd.at_ {w : World} {a : Option Addr} {xs : List Value} (h : Rd w a xs) (h0 : 0 < xs.length) : ∃ b off, a = some ⟨b, off, none⟩ ∧ ∀ i, i < xs.length → w.cell? ⟨b, off + i, none⟩ = some (xs.getD i undef) := by
  rcases h with h | ⟨b, off, ha, hx⟩
  · subst h; simp at h0
  · exact ⟨b, off, ha, fun i hi => hx i _ (by rw [List.getD, List.getElem?_eq_getElem hi]; rfl)⟩
theorem Rd.of_owns {w : World} {B e size n c n' : Nat} {a : Option Addr} {xs : List Value} (h : w.ownsRow B e size (.slice a n c) n' xs) : Rd w a xs := by
  rcases h.2 with ⟨_, hn⟩ | ⟨g, cap, cur, hv, hg, hh, hnc, hcm, hcs, ht⟩
  · exact .inl (List.eq_nil_of_length_eq_zero (by rw [h.1, hn]; simp))
  · injection hv with h1 h2 h3
    refine .inr ⟨g, 0, h1, fun i v hi => ?_⟩
    rw [Nat.zero_add, cell_of_row w g i cur e (0, 0) hh]
    have hil : i < xs.length := (List.getElem?_eq_some_iff.1 hi).1
    rw [← ht, List.getElem?_take] at hi
    split at hi
    · simpa using hi
    · cases hi
theorem ge_of_owns {w : World} {B e size n c n' : Nat} {a : Option Addr} {xs : List Value} (h : w.ownsRow B e size (.slice a n c) n' xs) : ∀ x, a = some x → B ≤ x.block := by
  intro x hx
  rcases h.2 with ⟨h1, _⟩ | ⟨g, cap, cur, hv, hg, _⟩
  · injection h1 with h1; rw [h1] at hx; cases hx
  · injection hv with h1; rw [h1] at hx; injection hx with hx; subst hx; exact hg
theorem slice_of_owns {w : World} {B e size n : Nat} {v : Value} {xs : List Value} (h : w.ownsRow B e size v n xs) : ∃ a c, v = .slice a n c := by
  rcases h.2 with ⟨h1, rfl⟩ | ⟨g, cap, cur, hv, _⟩
  · exact ⟨none, 0, h1⟩
  · exact ⟨_, _, hv⟩
theorem owns_below {w w' : World} {B e size n : Nat} {v : Value} {xs : List Value} (h : w.ownsRow B e size v n xs) (hb : Below w.heap.size w w') : w'.ownsRow B e size v n xs := by
  refine ⟨h.1, ?_⟩
  rcases h.2 with h1 | ⟨g, cap, cur, hv, hg, hh, r⟩
  · exact .inl h1
  · refine .inr ⟨g, cap, cur, hv, hg, ?_, r⟩
    rw [hb.block g (Array.getElem?_eq_some_iff.1 hh).1]; exact hh
theorem owns_set {w : World} {B e size n : Nat} {v : Value} {xs : List Value} (h : w.ownsRow B e size v n xs) {p : Addr} (hp : p.block < B) (u : Value) : (w.setCell p u).ownsRow B e size v n xs := by
  refine ⟨h.1, ?_⟩
  rcases h.2 with h1 | ⟨g, cap, cur, hv, hg, hh, r⟩
  · exact .inl h1
  · refine .inr ⟨g, cap, cur, hv, hg, ?_, r⟩
    rw [Below.heap_setCell _ _ _ _ (by omega)]; exact hh

theorem Blk.newAt {w : World} {g : Nat} (hg : g = w.heap.size) (t : TypeId) (cs : Array Value) : Blk (w.alloc (.cells cs t)) g t cs := by subst hg; exact Blk.new w t cs

theorem Rd.lit (w : World) (t : TypeId) (xs : List Value) : Rd (w.alloc (.cells xs.toArray t)) (some ⟨w.heap.size, 0, none⟩) xs :=
  .inr ⟨w.heap.size, 0, rfl, fun i v hv => by rw [Nat.zero_add]; exact (Blk.new w t xs.toArray).cell (by simpa using hv)⟩

/-! ### Values of AMQP in rows -/
def kid (k num : Int) (t : ByteArray) : List Value := [.int .i64 k, .int .u64 num, .string t, nilS, .int .i64 0, nilS]
/-- The elements of an array: their bytes, their numbers, their texts. -/
abbrev Els := List (List Int × Int × ByteArray)
def kidsV (k : Int) (es : Els) : List Value := es.flatMap fun e => kid k e.2.1 e.2.2
def flat (es : Els) : List Int := es.flatMap (·.1)

theorem kidsV_length (k : Int) (es : Els) : (kidsV k es).length = es.length * 6 := by
  induction es with
  | nil => rfl
  | cons e es ih => simp [kidsV, kid] at ih ⊢; omega
theorem kidsV_snoc (k : Int) (es : Els) (j : Nat) (h : j < es.length) : kidsV k (es.take (j + 1)) = kidsV k (es.take j) ++ kid k (es[j]).2.1 (es[j]).2.2 := by
  unfold kidsV
  rw [List.take_succ_eq_append_getElem h, List.flatMap_append]
  simp only [List.flatMap_cons, List.flatMap_nil, List.append_nil]
theorem flat_drop (es : Els) (j : Nat) (h : j < es.length) : flat (es.drop j) = (es[j]).1 ++ flat (es.drop (j + 1)) := by
  unfold flat
  rw [List.drop_eq_getElem_cons h, List.flatMap_cons]
theorem kidsV_get (k : Int) (es : Els) (j : Nat) (h : j < es.length) (i : Nat) (hi : i < 6) : (kidsV k es)[j * 6 + i]? = (kid k (es[j]).2.1 (es[j]).2.2)[i]? := by
  induction es generalizing j with
  | nil => simp at h
  | cons e es ih =>
    cases j with
    | zero =>
      simp only [kidsV, List.flatMap_cons, Nat.zero_mul, Nat.zero_add, List.getElem_cons_zero]
      rw [List.getElem?_append_left (by simp [kid]; omega)]
    | succ j =>
      have := ih j (by simpa using h)
      simp only [kidsV, List.flatMap_cons, List.getElem_cons_succ] at this ⊢
      rw [List.getElem?_append_right (by simp [kid]; omega), ← this]
      congr 1
      simp [kid]; omega

theorem infoV : ∃ i z, Tryd.prog.info? 29 = some i ∧ i.zero = some z ∧ i.size = 6 ∧ i.bytes = 88 ∧ z.cells.size = 6 := by
  have h : (Tryd.prog.info? 29).map (fun i => (i.zero.map (·.cells.size), i.size, i.bytes)) = some (some 6, 6, 88) := by kernel_rfl
  cases hq : Tryd.prog.info? 29 with
  | none => rw [hq] at h; cases h
  | some i =>
    rw [hq] at h
    simp at h
    obtain ⟨⟨z, hz, hz6⟩, h2, h3⟩ := h
    exact ⟨i, z, rfl, hz, h2, h3, hz6⟩

theorem appV {w : World} {ops : Array Oper} {rest : List Oper} {o : Oper} {act : Act} {Q : Exit → Act → World → Prop} (hgd : o.guard = none) (s x : Operand)
    (ho : o.op = .call { callee := .builtin .append, args := #[s, x], argTypes := #[27, 27] })
    (B : Nat) (a : Option Addr) (n c : Nat) (xs : List Value) (hs : act.eval s = .slice a n c) (hown : w.ownsRow B 29 6 (.slice a n c) n xs)
    (g : Nat) (hx : act.eval x = .slice (some ⟨g, 0, none⟩) 1 1) (news : List Value) (hl : news.length = 6) (h1 : ∀ u ∈ news, u.oneCell' = true) (hb : Blk w g 29 news.toArray) (hsz : n ≤ 1099511627776) (hB : B ≤ w.heap.size)
    (h : ∀ a' c' w', w'.ownsRow B 29 6 (.slice a' (n + 1) c') (n + 1) (xs ++ news) → w.grownBy w' (Value.ownBlock (.slice a n c)) → wpList Tryd.prog ops Q rest (act.put o.dst (.slice a' (n + 1) c')) w') : wpList Tryd.prog ops Q (o :: rest) act w := by
  obtain ⟨i, z, hi, hz, h6, h88, hz6⟩ := infoV
  refine wpList_append_own w hgd s x 27 ho B 29 i z 6 88 Tryd.underlying27 hi hz h6 h88 hz6 (by omega) _ n xs hs hown ⟨g, 0, none⟩ 1 1 news hx (by rw [hl]) ?_ h1 (by simp only [maxLen]; omega) (by omega) hB ?_
  · intro j u hj
    have e : (⟨g, 0, none⟩ : Addr).add j = ⟨g, j, none⟩ := by unfold Addr.add; split <;> simp_all
    rw [e]
    exact hb.cell (by simpa using hj)
  · intro v' w' ho2 hg _
    obtain ⟨a', c', rfl⟩ := slice_of_owns ho2
    exact h a' c' w' ho2 hg

theorem Rd.kid_at {w : World} {a : Option Addr} {k : Int} {es : Els} (h : Rd w a (kidsV k es)) (j : Nat) (hj : j < es.length) (e : List Int × Int × ByteArray) (he : e = es[j]) :
    ∃ b off, a = some ⟨b, off, none⟩ ∧ w.cell? ⟨b, off + j * 6, none⟩ = some (.int .i64 k) ∧ w.cell? ⟨b, off + j * 6 + 1, none⟩ = some (.int .u64 e.2.1) ∧ w.cell? ⟨b, off + j * 6 + 2, none⟩ = some (.string e.2.2) ∧ w.cell? ⟨b, off + j * 6 + 3, none⟩ = some nilS ∧ w.cell? ⟨b, off + j * 6 + 4, none⟩ = some (.int .i64 0) ∧ w.cell? ⟨b, off + j * 6 + 5, none⟩ = some nilS := by
  subst he
  have hl := kidsV_length k es
  have g := fun i hi => kidsV_get k es j hj i hi
  rcases h with h | ⟨b, off, ha, hx⟩
  · rw [h] at hl; simp at hl; omega
  · refine ⟨b, off, ha, ?_, ?_, ?_, ?_, ?_, ?_⟩
    · exact hx (j * 6 + 0) _ (g 0 (by omega))
    · rw [Nat.add_assoc]; exact hx (j * 6 + 1) _ (g 1 (by omega))
    · rw [Nat.add_assoc]; exact hx (j * 6 + 2) _ (g 2 (by omega))
    · rw [Nat.add_assoc]; exact hx (j * 6 + 3) _ (g 3 (by omega))
    · rw [Nat.add_assoc]; exact hx (j * 6 + 4) _ (g 4 (by omega))
    · rw [Nat.add_assoc]; exact hx (j * 6 + 5) _ (g 5 (by omega))

theorem kid_one (k num : Int) (t : ByteArray) : ∀ u ∈ ([.int .i64 k, .int .u64 num, .string t, nilS, .int .i64 0, nilS] : List Value), u.oneCell' = true := by
  intro u hu
  simp only [List.mem_cons, List.not_mem_nil, or_false] at hu
  rcases hu with rfl | rfl | rfl | rfl | rfl | rfl <;> rfl

/-- Behind a code z these bytes are one value of kind k, whatever stands behind them. -/
def Elem (z k : Int) (e : List Int × Int × ByteArray) : Prop :=
  ∀ (w0 : World) (a : Option Addr) (n c : Nat) (tail : List Int) (lv : Int), Vw w0 a n c (e.1 ++ tail) → ∃ a', Vw w0 a' (n - e.1.length) (c - e.1.length) tail ∧
    ∀ w, Below w0.heap.size w0 w → Calls Tryd.prog 42 #[ct nilS z, .slice a n c, .int .i64 lv] w fun r w' => r = .returned (got (av k e.2.1 e.2.2 nilS 0 nilS) a' (n - e.1.length) (c - e.1.length)) ∧ Below w.heap.size w w'
end Go.Proofs.YtkbfppjniaejnaaDoor
