/- A map[K]struct{} of the call's own, as the list of the values laid into it; its keys collected; a row sorted. -/
import Derived.Test.YtokjgloefafdpaaDoorInS
import Derived.Test.YtokjgloefafdpaaDoorRd
import Derived.Maps.RangeWalk
import Derived.Sort.Grow
import Derived.Shelf.SlSortCmp.Whole1
namespace Go.Proofs.YtokjgloefafdpaaDoor
open Go.RowKit Go.Maps Go.Lib Go.Sort Go.Shelf
set_option linter.unusedVariables false
set_option linter.unusedSimpArgs false

theorem len_insS (x : Int) : ∀ l : List Int, l.Pairwise (· < ·) → (insS x l).length = if x ∈ l then l.length else l.length + 1
  | [], _ => by simp [insS]
  | y :: r, h => by
    obtain ⟨h1, h2⟩ := List.pairwise_cons.1 h
    have ih := len_insS x r h2
    unfold insS
    by_cases hy : y < x
    · rw [if_pos hy, List.length_cons, ih]
      have : x ≠ y := by omega
      by_cases hm : x ∈ r <;> simp [hm, this]
    · rw [if_neg hy]
      by_cases e : y = x
      · subst e; simp
      · rw [if_neg e]
        have : x ∉ y :: r := by
          intro hx
          rcases List.mem_cons.1 hx with e1 | hx
          · exact e e1.symm
          · have := h1 x hx; omega
        simp [this]

/-- What a set of the values xs reads as. -/
def DSet (q : IntKind) (xs : List Int) : DataW Unit := setOf (.agg []) (xs.map (Lit.int q))
theorem dSet_nil (q : IntKind) : DSet q [] = .map [] := rfl
theorem dSet_snoc (q : IntKind) (xs : List Int) (x : Int) : DSet q (xs ++ [x]) = (DSet q xs).put (.int q x) (.agg []) := by
  unfold DSet; rw [List.map_append]; exact setOf_snoc _ _ _
theorem isKey_all (q : IntKind) (xs : List Int) : ∀ x ∈ xs.map (Lit.int q), WideAt.IsKeyLit x := by
  intro x hx
  obtain ⟨y, _, rfl⟩ := List.mem_map.1 hx
  exact trivial
theorem has_dSet (q : IntKind) (xs : List Int) (z : Int) : has (DSet q xs) (.int q z) = decide (z ∈ xs) := by
  unfold DSet
  rw [has_setOf _ _ _ (isKey_all q xs), List.any_map]
  by_cases h : z ∈ xs
  · rw [decide_eq_true h]
    exact List.any_eq_true.2 ⟨z, h, by simp [Lit.sameKey]⟩
  · rw [decide_eq_false h]
    rw [List.any_eq_false]
    intro y hy
    have : y ≠ z := fun e => h (e ▸ hy)
    simp [Lit.sameKey, this]
theorem size_dSet (q : IntKind) (xs : List Int) : size (DSet q xs) = (inS xs).length := by
  suffices H : ∀ n (xs : List Int), xs.length = n → size (DSet q xs) = (inS xs).length from H _ xs rfl
  intro n
  induction n with
  | zero =>
    intro xs hx
    have : xs = [] := List.eq_nil_of_length_eq_zero hx
    subst this
    rfl
  | succ n ih =>
    intro xs hx
    obtain ⟨ys, y, rfl⟩ : ∃ ys y, xs = ys ++ [y] := ⟨xs.dropLast, xs.getLast (by intro e; rw [e] at hx; simp at hx), (List.dropLast_concat_getLast _).symm⟩
    have hys : ys.length = n := by simpa using hx
    have := size_put (D := DSet q ys) (k := .int q y) (tidy_setOf _ _ (isKey_all q ys)) (.agg [])
    rw [dSet_snoc, this, has_dSet, ih ys hys, inS_snoc, len_insS _ _ (asc_inS _)]
    by_cases h : y ∈ ys
    · have h' : y ∈ inS ys := (mem_inS _ _).2 h
      simp [h, h']
    · have h' : y ∉ inS ys := fun e => h ((mem_inS _ _).1 e)
      simp [h, h']

/-- Block b is a map[K]struct{} into which the values xs were laid. -/
def SetM (k : TypeId) (q : IntKind) (w : World) (b : Nat) (xs : List Int) : Prop := w.ownsMap Tryd.prog k (unitElem (H := Unit)) b xs.length (DSet q xs)

theorem SetM.made (k : TypeId) (q : IntKind) (w : World) : SetM k q (w.alloc (.map #[] 0)) w.heap.size [] := World.ownsMap_made w Tryd.prog k unitElem
theorem SetM.lt {k : TypeId} {q : IntKind} {w : World} {b : Nat} {xs : List Int} (h : SetM k q w b xs) : b < w.heap.size := World.ownsMap.lt h
theorem SetM.below {k : TypeId} {q : IntKind} {w w' : World} {b B : Nat} {xs : List Int} (h : SetM k q w b xs) (hb : Below B w w') (hB : b < B) : SetM k q w' b xs := by
  obtain ⟨es, clock, h0, r⟩ := h
  exact ⟨es, clock, (hb.block b hB).trans h0, r⟩
theorem SetM.alloc {k : TypeId} {q : IntKind} {w : World} {b : Nat} {xs : List Int} (h : SetM k q w b xs) (o : Obj) : SetM k q (w.alloc o) b xs := World.ownsMap.alloc h o
theorem SetM.drew {k : TypeId} {q : IntKind} {w : World} {b : Nat} {xs : List Int} (h : SetM k q w b xs) : SetM k q w.drew b xs := h
theorem SetM.drewN {k : TypeId} {q : IntKind} {w : World} {b : Nat} {xs : List Int} (h : SetM k q w b xs) (n : Nat) : SetM k q (w.drewN n) b xs := h
theorem SetM.grown {k : TypeId} {q : IntKind} {w w' : World} {b : Nat} {xs : List Int} {row : Option Nat} (h : SetM k q w b xs) (hg : w.grownBy w' row) (hne : some b ≠ row) : SetM k q w' b xs := World.ownsMap.kept h hg hne
theorem SetM.setCell {k : TypeId} {q : IntKind} {w : World} {b : Nat} {xs : List Int} (h : SetM k q w b xs) {a : Addr} (ha : b ≠ a.block) (u : Value) : SetM k q (w.setCell a u) b xs := World.ownsMap.setCell h ha u

/-- The keys met so far, by a range over a set. -/
def Coll (q : IntKind) (xs : List Int) (left : Lit → Bool) (ks : List Int) : Prop := ks.Nodup ∧ ∀ x, x ∈ ks ↔ (x ∈ xs ∧ left (.int q x) = false)
theorem Coll.start (q : IntKind) (xs : List Int) : Coll q xs (has (DSet q xs)) [] := ⟨List.nodup_nil, fun x => by rw [has_dSet]; by_cases h : x ∈ xs <;> simp [h]⟩
theorem Coll.step {q : IntKind} {xs : List Int} {left : Lit → Bool} {ks : List Int} (h : Coll q xs left ks) {x : Int} (hlk : left (.int q x) = true) {y : DataW Unit} (hat : ∀ zd, (DSet q xs).atKey (.int q x) zd = y) :
    Coll q xs (fun z => left z && !z.sameKey (.int q x)) (ks ++ [x]) := by
  have hhas : x ∈ xs := by have := has_true_of_atKey hat; rw [has_dSet] at this; simpa using this
  have hnew : x ∉ ks := fun hx => by have := ((h.2 x).1 hx).2; rw [hlk] at this; cases this
  refine ⟨List.nodup_append.2 ⟨h.1, by simp, fun a ha b hb => by simp at hb; subst hb; exact fun e => hnew (e ▸ ha)⟩, fun y => ?_⟩
  by_cases hy : y = x
  · subst hy; simp [hhas, Lit.sameKey]
  · simp [h.2 y, hy, Lit.sameKey]
theorem Coll.all {q : IntKind} {xs : List Int} {left : Lit → Bool} {ks : List Int} (h : Coll q xs left ks) (hl : ∀ kl, left kl = false) : ∀ z, z ∈ ks ↔ z ∈ xs := fun z => by rw [h.2 z, hl]; simp

/-! a row of integers sorted -/
theorem holds_of_blk {q : IntKind} {w : World} {g : Nat} {cur : Array Value} {e : TypeId} {ss : List Int} (hb : w.heap[g]? = some (.cells cur e (0, 0))) (ht : cur.toList.take ss.length = ss.map (Value.int q)) : Holds (Value.int q) w g 0 ss.toArray := by
  intro j hj
  have hj' : j < ss.length := by simpa using hj
  refine ⟨?_, by simp [World.frozen?, hb]⟩
  have h1 : (cur.toList.take ss.length)[j]? = (ss.map (Value.int q))[j]? := by rw [ht]
  rw [List.getElem?_take_of_lt hj'] at h1
  simp only [World.cell?, hb, Nat.zero_add]
  simp only [Option.isSome_none, Bool.false_eq_true, if_false]
  rw [← Array.getElem?_toList, h1]
  simp [hj']
theorem heap_sorted {q : IntKind} {w : World} {g n : Nat} {os : Array Obj} {cur : Array Value} {e : TypeId} {fr : Nat × Nat} (d : Array Int) (hb : w.heap[g]? = some (.cells cur e fr)) :
    (grow (putRow (Value.int q) (Sort.ahead w n) g 0 d) os).heap[g]? = some (.cells (putCells (Value.int q) 0 d cur) e fr) := by
  have hg : g < w.heap.size := (Array.getElem?_eq_some_iff.1 hb).1
  rw [heap_grow_old _ _ (by simpa using hg)]
  simp [putRow, mapBlock, Sort.ahead, Array.getElem?_modify, hb, onCells]
theorem grownBy_sorted {q : IntKind} {w : World} {g n : Nat} {os : Array Obj} (d : Array Int) : w.grownBy (grow (putRow (Value.int q) (Sort.ahead w n) g 0 d) os) (some g) := by
  refine ⟨rfl, rfl, rfl, by simp, fun k hk hne => ?_⟩
  rw [heap_grow_old _ _ (by simpa using hk)]
  have : g ≠ k := fun e => hne (by rw [e])
  simp [putRow, mapBlock, Sort.ahead, Array.getElem?_modify, this]
theorem take_putCells {q : IntKind} (cur : Array Value) (ts : List Int) (h : ts.length ≤ cur.size) : (putCells (Value.int q) 0 ts.toArray cur).toList.take ts.length = ts.map (Value.int q) := by
  apply List.ext_getElem?
  intro j
  by_cases hj : j < ts.length
  · rw [List.getElem?_take_of_lt hj, Array.getElem?_toList]
    simp [putCells, hj, show j < cur.size by omega]
  · rw [List.getElem?_take_eq_none (by omega), List.getElem?_eq_none (by simp; omega)]
theorem ownsRow_sorted {q : IntKind} {w : World} {base g cap n : Nat} {e : TypeId} {os : Array Obj} {cur : Array Value} {ss ts : List Int} (hl : ts.length = ss.length) (hbase : base ≤ g) (hb : w.heap[g]? = some (.cells cur e (0, 0)))
    (h1 : ss.length ≤ cap) (h2 : cap ≤ maxLen) (h3 : cur.size = cap * 1) :
    (grow (putRow (Value.int q) (Sort.ahead w n) g 0 ts.toArray) os).ownsRow base e 1 (.slice (some ⟨g, 0, none⟩) ss.length cap) ss.length (ts.map (Value.int q)) :=
  ⟨by simp [hl], .inr ⟨g, cap, _, rfl, hbase, heap_sorted _ hb, h1, h2, by simp [putCells, h3], by rw [Nat.mul_one, ← hl]; exact take_putCells cur ts (by omega)⟩⟩
theorem row_ne_iter {P : Program} {H : Type} {k : TypeId} {R : Value → Option (DataW H × List MemPlace)} {w : World} {b r n : Nat} {D : DataW H} {left : Lit → Bool} {cnt base : Nat} {e : TypeId} {size : Nat} {v : Value} {m : Nat} {xs : List Value}
    (h : w.ownsRow base e size v m xs) (hr : w.ranges P k R b r n D left cnt) : some r ≠ v.ownBlock := by
  obtain ⟨_, _, _, _, _, _, _, _, _, hit, _⟩ := hr
  rcases h.2 with ⟨rfl, _⟩ | ⟨g, cap, cur, rfl, _, hb, _⟩
  · simp [Value.ownBlock]
  · intro e1
    have : r = g := by simpa [Value.ownBlock] using e1
    subst this
    rw [hit] at hb
    cases hb
theorem row_ne_map {P : Program} {H : Type} {k : TypeId} {R : Value → Option (DataW H × List MemPlace)} {w : World} {b n : Nat} {D : DataW H} {base : Nat} {e : TypeId} {size : Nat} {v : Value} {m : Nat} {xs : List Value}
    (h : w.ownsRow base e size v m xs) (hr : w.ownsMap P k R b n D) : some b ≠ v.ownBlock := by
  obtain ⟨_, _, hit, _⟩ := hr
  rcases h.2 with ⟨rfl, _⟩ | ⟨g, cap, cur, rfl, _, hb, _⟩
  · simp [Value.ownBlock]
  · intro e1
    have : b = g := by simpa [Value.ownBlock] using e1
    subst this
    rw [hit] at hb
    cases hb

/-- What 'a < b ? -1 : 1' is as a comparison. -/
def cmpI (x y : Int) : Int := if x < y then -1 else 1
theorem ltOf_cmpI (x y : Int) : ltOf cmpI x y = decide (x < y) := by
  unfold ltOf cmpI
  by_cases h : x < y <;> simp [h]
theorem swo_cmpI : SWO (ltOf cmpI) where
  irrefl x := by rw [ltOf_cmpI]; simp
  trans x y z h1 h2 := by rw [ltOf_cmpI] at *; simp at *; omega
  ntrans x y z h1 h2 := by rw [ltOf_cmpI] at *; simp at *; omega

/-- Function F sorts a row of integers (slices.SortFunc at one element's type), by the closure g. -/
def Sorts (F g : FuncId) (E : TypeId) (q : IntKind) : Prop :=
  ∀ (B b cap : Nat) (ks : List Int) (w : World), w.ownsRow B E 1 (.slice (some ⟨b, 0, none⟩) ks.length cap) ks.length (ks.map (Value.int q)) → ks.length < 1099511627776 →
    Calls Tryd.prog F #[.slice (some ⟨b, 0, none⟩) ks.length cap, .func (.func g) #[] #[]] w fun e w' => e = .returned (.tuple #[]) ∧ ∃ d : List Int, d.Perm ks ∧ (∀ i j, i < j → j < d.length → ¬ d.getD j 0 < d.getD i 0) ∧
      w'.ownsRow B E 1 (.slice (some ⟨b, 0, none⟩) ks.length cap) ks.length (d.map (Value.int q)) ∧ w.grownBy w' (some b)

theorem sorts_of {ρ : Ren} (L : SlLaysF.n6 Tryd.prog ρ) (F g : FuncId) (hF : ρ.f 6 = F) (E : TypeId) (q : IntKind) (eg : ∀ args w, (callFunc g args).run Tryd.prog w = .ok (.enter g args) w)
    (hcmp : ∀ (x y : Int) (W : World), Calls Tryd.prog g #[.int q x, .int q y] W fun e w' => e = .returned (.int .i64 (cmpI x y)) ∧ w' = W) : Sorts F g E q := by
  intro B b cap ks w hrow hlen
  rcases hrow.2 with ⟨hnil, _⟩ | ⟨g', cap', cur, hv, hbase, hb, h1, h2, h3, h4⟩
  · cases hnil
  · injection hv with hv1 hv2 hv3
    injection hv1 with hv1
    injection hv1 with hv1
    subst hv1
    subst hv3
    have hc := Any.slices_SortFunc L (Value.int q) (fun _ => rfl) cmpI swo_cmpI g #[] b 0 cap ks.toArray w eg
      (CmpReads.lays fun m os dk _ x y => (hcmp x y _).mono fun e w' ⟨he, hw⟩ => ⟨he, 0, by rw [hw]; rfl⟩)
      (holds_of_blk hb (by simpa using h4)) (Array.getElem?_eq_some_iff.1 hb).1 (by simp; omega)
    rw [hF] at hc
    simp only [List.size_toArray] at hc
    refine hc.mono ?_
    rintro e w' ⟨he, d', n, os, hp, hs, rfl⟩
    have hsz : d'.toList.length = ks.length := by have := hp.1; simpa using this
    refine ⟨he, d'.toList, ?_, ?_, ?_, ?_⟩
    · have := hp.2.2
      have e1 : d'.extract 0 ks.length = d' := by rw [show ks.length = d'.size by simpa using hsz.symm]; simp
      simpa [e1] using this
    · intro i j hij hj
      have hj' : j < d'.size := by simpa using hj
      have := hs i j (Nat.zero_le _) hij (by omega)
      rw [ltOf_cmpI] at this
      have e1 : ∀ n, n < d'.size → d'.toList.getD n 0 = d'[n]! := by
        intro n hn
        rw [getElem!_pos d' n hn]
        simp [List.getD, hn]
      rw [e1 j hj', e1 i (by omega)]
      simpa using this
    · have := ownsRow_sorted (q := q) (os := os) (n := n) (ts := d'.toList) hsz hbase hb h1 h2 h3
      simpa [sortWorld] using this
    · exact grownBy_sorted d'
end Go.Proofs.YtokjgloefafdpaaDoor
