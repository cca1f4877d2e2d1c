/- A map with int keys that a literal makes: the making, entry by entry in one step, and the look-up. -/
import Derived.Test.YtbngkfdfjpbajaaLib
import Derived.Maps.OwnOps
namespace Go.Proofs.Ytbngkfdfjpbajaa
open Go.RowKit
set_option linter.unusedVariables false

def ients : List (Int × Value) → Nat → List MapEntry
  | [], _ => []
  | x :: r, i => { key := .int .i64 x.1, val := x.2, born := i } :: ients r (i + 1)

/-- A block that is a map with these entries, in the order of their making. -/
def imap (kvs : List (Int × Value)) : Obj := .map (ients kvs 0).toArray kvs.length

/-- What a look-up gives: the first entry of that key. -/
def ilook (kvs : List (Int × Value)) (z : Value) (k : Int) : Value := match kvs with
  | [] => z
  | x :: r => if x.1 = k then x.2 else ilook r z k

theorem ients_snoc (x : Int × Value) : ∀ (l : List (Int × Value)) (i : Nat), ients (l ++ [x]) i = ients l i ++ [{ key := .int .i64 x.1, val := x.2, born := i + l.length }]
  | [], i => rfl
  | y :: l, i => by
    have e : i + 1 + l.length = i + (l.length + 1) := by omega
    show _ :: ients (l ++ [x]) (i + 1) = _ :: (ients l (i + 1) ++ _)
    rw [ients_snoc x l (i + 1), e]; rfl

theorem find_no (k : Int) : ∀ (l : List (Int × Value)) (i j : Nat), (∀ x ∈ l, x.1 ≠ k) → Instr.findNow (.int .i64) (.int .i64 k) (ients l i) j = some none
  | [], _, _, _ => rfl
  | x :: l, i, j, h => by
    have hx : ¬ k = x.1 := fun e => h x (by simp) e.symm
    have ih := find_no k l (i + 1) (j + 1) (fun y hy => h y (by simp [hy]))
    simp only [ients, Instr.findNow, Instr.sameNow, if_true]
    rw [show (k == x.1) = false by simpa using hx]
    exact ih

theorem find_yes (k : Int) (z : Value) : ∀ (l : List (Int × Value)) (i j : Nat), (Instr.findNow (.int .i64) (.int .i64 k) (ients l i) j = some none ∧ ilook l z k = z) ∨ ∃ m, Instr.findNow (.int .i64) (.int .i64 k) (ients l i) j = some (some (m, ilook l z k))
  | [], _, _ => .inl ⟨rfl, rfl⟩
  | x :: l, i, j => by
    by_cases hx : x.1 = k
    · refine .inr ⟨j, ?_⟩
      simp only [ients, Instr.findNow, Instr.sameNow, if_true, ilook, hx, beq_self_eq_true]
    · rcases find_yes k z l (i + 1) (j + 1) with ⟨h1, h2⟩ | ⟨m, h⟩
      · refine .inl ⟨?_, by simp only [ilook, hx, if_false]; exact h2⟩
        simp only [ients, Instr.findNow, Instr.sameNow, if_true]
        rw [show (k == x.1) = false by simpa using fun e => hx e.symm]
        exact h1
      · refine .inr ⟨m, ?_⟩
        simp only [ients, Instr.findNow, Instr.sameNow, if_true, ilook, hx, if_false]
        rw [show (k == x.1) = false by simpa using fun e => hx e.symm]
        exact h

section
variable {P : Program} (W : World) (T K E : TypeId) (hT : P.underlying T = some (.map K E)) (hK : P.underlying K = some (.int .i64))

theorem run_checkKey_i64 (hK : P.underlying K = some (.int .i64)) (em : Bool) (n : Nat) (k : Int) (w : World) : (Instr.checkKey em (n + 1) K (.int .i64 k)).run P w = .ok () w := by
  unfold Instr.checkKey
  simp [run_underlying hK, Result.andThen]

theorem run_findKey_i64 (hK : P.underlying K = some (.int .i64)) (k : Int) (es : List MapEntry) (r : Option (Nat × Value)) (h : Instr.findNow (.int .i64) (.int .i64 k) es 0 = some r) (w : World) :
    (Instr.findKey K (.int .i64 k) es).run P w = .ok r w := by
  unfold Instr.findKey
  simp [run_underlying hK, Result.andThen, h]

include hT hK
theorem run_insert_imap (kvs : List (Int × Value)) (k : Int) (v : Value) (hk : ∀ x ∈ kvs, x.1 ≠ k) :
    (Instr.mapUpdate T (.map (some W.heap.size)) (.int .i64 k) v).run P (W.alloc (imap kvs)) = .ok () (W.alloc (imap (kvs ++ [(k, v)]))) := by
  have hf := find_no k kvs 0 0 hk
  have hg : (W.alloc (imap kvs)).heap[W.heap.size]? = some (.map (ients kvs 0).toArray kvs.length) := heap_alloc_new W _
  have hc := run_checkKey_i64 (P := P) K hK false 9999 k (W.alloc (imap kvs))
  have hff := run_findKey_i64 (P := P) K hK k _ _ hf (W.alloc (imap kvs))
  have hgo := MapKept.run_getObj_map (P := P) hg
  have hso := fun o => MapKept.run_setObj_map (P := P) o hg
  have he : ({ W.alloc (imap kvs) with heap := (W.alloc (imap kvs)).heap.setIfInBounds W.heap.size (.map ((ients kvs 0).toArray.push { key := .int .i64 k, val := v, born := kvs.length }) (kvs.length + 1)) } : World) = W.alloc (imap (kvs ++ [(k, v)])) := by
    simp only [World.alloc, imap, ients_snoc, List.length_append, List.length_singleton, Nat.zero_add]
    congr 1
    apply Array.ext'
    simp
  unfold Instr.mapUpdate
  simp only [Sem.run_bind, run_underlying hT, hgo, hc, hff, hso, Result.andThen]
  exact congrArg (Result.ok ()) he

theorem run_lookup_imap (kvs : List (Int × Value)) (k : Int) (z : Value) (W' : World) (b : Nat) (hg : W'.heap[b]? = some (imap kvs)) (hz : (zeroValue E).run P W' = .ok z W') :
    (Instr.lookup T (.map (some b)) (.int .i64 k) false).run P W' = .ok (ilook kvs z k) W' := by
  unfold imap at hg
  have hgo := MapKept.run_getObj_map (P := P) hg
  have hc := fun em => run_checkKey_i64 (P := P) K hK em 9999 k W'
  unfold Instr.lookup
  rcases find_yes k z kvs 0 0 with ⟨hf, hl⟩ | ⟨m, hf⟩
  · have hff := run_findKey_i64 (P := P) K hK k _ _ hf W'
    simp only [Sem.run_bind, run_underlying hT, hgo, hc, hff, hz, Sem.run_pure, Result.andThen, hl]
    rfl
  · have hff := run_findKey_i64 (P := P) K hK k _ _ hf W'
    simp only [Sem.run_bind, run_underlying hT, hgo, hc, hff, Sem.run_pure, Result.andThen]
    rfl
end

/-- The operations that put a literal's entries into the map in slot m. -/
def insOf (T : TypeId) (m : Operand) : List Oper → List (Int × Value) → Prop
  | [], [] => True
  | o :: os, x :: xs => o.guard = none ∧ o.dst = none ∧ o.op = .insert T m (.const (.int .i64 x.1)) (.const x.2) ∧ insOf T m os xs
  | _, _ => False

/-- A literal's entries in one step. -/
theorem wpList_inserts {P : Program} {ops : Array Oper} {a : Act} {Q : Exit → Act → World → Prop} (W : World) (T K E : TypeId) (hT : P.underlying T = some (.map K E)) (hK : P.underlying K = some (.int .i64))
    (t : Tmp) (hm : a.eval (.tmp t) = .map (some W.heap.size)) :
    ∀ (os rest : List Oper) (xs kvs : List (Int × Value)), insOf T (.tmp t) os xs → (kvs ++ xs).Pairwise (fun x y => x.1 ≠ y.1) →
      wpList P ops Q rest a (W.alloc (imap (kvs ++ xs))) → wpList P ops Q (os ++ rest) a (W.alloc (imap kvs))
  | [], rest, [], kvs, _, _, h => by simpa using h
  | [], _, _ :: _, _, h, _, _ => h.elim
  | _ :: _, _, [], _, h, _, _ => h.elim
  | o :: os, rest, x :: xs, kvs, ⟨hg, hd, ho, hr⟩, hp, h => by
    have hk : ∀ y ∈ kvs, y.1 ≠ x.1 := fun y hy => (List.pairwise_append.1 hp).2.2 y hy x (by simp)
    have ih := wpList_inserts (ops := ops) (Q := Q) W T K E hT hK t hm os rest xs (kvs ++ [x]) hr (by simpa using hp) (by simpa using h)
    refine wpList_plain hg fun K' hK' => ?_
    have hrun := run_insert_imap (P := P) W T K E hT hK kvs x.1 x.2 hk
    unfold Oper.wp
    have hc1 : a.eval (.const (.int .i64 x.1)) = .int .i64 x.1 := rfl
    have hc2 : a.eval (.const x.2) = x.2 := rfl
    simp only [execOp, ho, hm, hc1, hc2, Sem.run_bind, hrun, Result.andThen_ok, Sem.run_pure, Oper.upon_skip]
    refine hK' _ _ ?_
    simpa [Act.put, hd] using ih

/-- The same at a list of operations as it stands: its first n. -/
theorem wpList_inserts_n {P : Program} {ops : Array Oper} {a : Act} {Q : Exit → Act → World → Prop} {L : List Oper} (W : World) (T K E : TypeId) (hT : P.underlying T = some (.map K E)) (hK : P.underlying K = some (.int .i64))
    (t : Tmp) (n : Nat) (xs : List (Int × Value)) (hm : a.eval (.tmp t) = .map (some W.heap.size)) (hi : insOf T (.tmp t) (L.take n) xs) (hp : xs.Pairwise (fun x y => x.1 ≠ y.1))
    (h : wpList P ops Q (L.drop n) a (W.alloc (imap xs))) : wpList P ops Q L a (W.alloc (.map #[] 0)) := by
  have := wpList_inserts (ops := ops) (Q := Q) W T K E hT hK t hm (L.take n) (L.drop n) xs [] hi (by simpa using hp) (by simpa using h)
  rwa [List.take_append_drop] at this

/-- Whether there is an entry of that key. -/
def ihas (kvs : List (Int × Value)) (k : Int) : Bool := kvs.any fun x => x.1 == k

@[go_sem] theorem ihas_nil (k : Int) : ihas [] k = false := by simp [ihas]
@[go_sem] theorem ihas_cons (x : Int × Value) (r : List (Int × Value)) (k : Int) : ihas (x :: r) k = (x.1 == k || ihas r k) := by simp [ihas]

theorem find_has (k : Int) (z : Value) : ∀ (l : List (Int × Value)) (i j : Nat), (Instr.findNow (.int .i64) (.int .i64 k) (ients l i) j = some none ∧ ihas l k = false ∧ ilook l z k = z) ∨ ∃ m, Instr.findNow (.int .i64) (.int .i64 k) (ients l i) j = some (some (m, ilook l z k)) ∧ ihas l k = true
  | [], _, _ => .inl ⟨rfl, rfl, rfl⟩
  | x :: l, i, j => by
    by_cases hx : x.1 = k
    · refine .inr ⟨j, ?_, by simp [ihas, hx]⟩
      simp only [ients, Instr.findNow, Instr.sameNow, if_true, ilook, hx, beq_self_eq_true]
    · have hb : (k == x.1) = false := by simpa using fun e => hx e.symm
      have hb2 : (x.1 == k) = false := by simpa using hx
      rcases find_has k z l (i + 1) (j + 1) with ⟨h1, h2, h3⟩ | ⟨m, h, h2⟩
      · refine .inl ⟨?_, by simp only [ihas, List.any_cons, hb2, Bool.false_or]; exact h2, by simp only [ilook, hx, if_false]; exact h3⟩
        simp only [ients, Instr.findNow, Instr.sameNow, if_true]
        rw [hb]; exact h1
      · refine .inr ⟨m, ?_, by simp only [ihas, List.any_cons, hb2, Bool.false_or]; exact h2⟩
        simp only [ients, Instr.findNow, Instr.sameNow, if_true, ilook, hx, if_false]
        rw [hb]; exact h

section
variable {P : Program} (T K E : TypeId) (hT : P.underlying T = some (.map K E)) (hK : P.underlying K = some (.int .i64))
include hT hK
theorem run_lookup_imap_ok (kvs : List (Int × Value)) (k : Int) (z : Value) (W' : World) (b : Nat) (hg : W'.heap[b]? = some (imap kvs)) (hz : (zeroValue E).run P W' = .ok z W') :
    (Instr.lookup T (.map (some b)) (.int .i64 k) true).run P W' = .ok (.tuple #[ilook kvs z k, .bool (ihas kvs k)]) W' := by
  unfold imap at hg
  have hgo := MapKept.run_getObj_map (P := P) hg
  have hc := fun em => run_checkKey_i64 (P := P) K hK em 9999 k W'
  unfold Instr.lookup
  rcases find_has k z kvs 0 0 with ⟨hf, hh, hl⟩ | ⟨m, hf, hh⟩
  · have hff := run_findKey_i64 (P := P) K hK k _ _ hf W'
    simp only [Sem.run_bind, run_underlying hT, hgo, hc, hff, hz, Sem.run_pure, Result.andThen, hl, hh]
    rfl
  · have hff := run_findKey_i64 (P := P) K hK k _ _ hf W'
    simp only [Sem.run_bind, run_underlying hT, hgo, hc, hff, Sem.run_pure, Result.andThen, hh]
    rfl

/-- One entry more, as a rule for the walk. -/
theorem insert_rule (kvs : List (Int × Value)) (k : Int) (v : Value) (W : World) (m : Nat) (hm : m = W.heap.size) (hk : ihas kvs k = false) :
    (Instr.mapUpdate T (.map (some m)) (.int .i64 k) v).run P (W.alloc (imap kvs)) = .ok () (W.alloc (imap (kvs ++ [(k, v)]))) := by
  subst hm
  exact run_insert_imap W T K E hT hK kvs k v (fun x hx e => by have : ihas kvs k = true := List.any_eq_true.2 ⟨x, hx, by simpa using e⟩; rw [hk] at this; cases this)
end

#print axioms wpList_inserts
#print axioms run_lookup_imap
end Go.Proofs.Ytbngkfdfjpbajaa
