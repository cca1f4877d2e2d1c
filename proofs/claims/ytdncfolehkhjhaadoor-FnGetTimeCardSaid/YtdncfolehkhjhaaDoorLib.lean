/- General words of this seat: a slice of bytes in memory that reads as a list ('Vw'), what slicing, conversion and equality of it give, maps made by a literal, blocks and cells. -/
import Derived.WalkKit
import Derived.KernelRfl
import Derived.Below
import Derived.OwnWalk
import Derived.Lib.Hide
import Derived.Laws.BytesArg
import Derived.Laws.AppendOwnNone
import Derived.WalkLawsBesides
import Derived.WalkSpells
import Derived.Maps.OwnOps
namespace Go.Proofs.YtdncfolehkhjhaaDoor
open Go.RowKit
set_option linter.unusedVariables false

/-- A slice of bytes: address, length, capacity; it reads as the list. -/
structure Vw (w : World) (a : Option Addr) (n c : Nat) (l : List Int) : Prop where
  len : l.length = n
  cap : n ≤ c
  big : c ≤ 9223372036854775807
  byt : ∀ x ∈ l, 0 ≤ x ∧ x ≤ 255
  nul : a = none → c = 0
  cells : n = 0 ∨ ∃ b off, a = some ⟨b, off, none⟩ ∧ ∀ i, i < n → w.cell? ⟨b, off + i, none⟩ = some (.int .u8 (l.getD i 0))

theorem Vw.of_cells {w w' : World} {a : Option Addr} {n c : Nat} {l : List Int} (h : Vw w a n c l)
    (hc : ∀ b o v, w.cell? ⟨b, o, none⟩ = some v → w'.cell? ⟨b, o, none⟩ = some v) : Vw w' a n c l := by
  refine ⟨h.len, h.cap, h.big, h.byt, h.nul, ?_⟩
  rcases h.cells with h0 | ⟨b, off, ha, hx⟩
  · exact .inl h0
  · exact .inr ⟨b, off, ha, fun i hi => hc _ _ _ (hx i hi)⟩

theorem Vw.below {w w' : World} {B : Nat} (hb : Below B w w') (hB : w.heap.size ≤ B) {a : Option Addr} {n c : Nat} {l : List Int} (h : Vw w a n c l) : Vw w' a n c l :=
  h.of_cells fun b o v hv => by
    have := World.block_lt_of_cell? w _ hv
    rw [hb.cell (p := ⟨b, o, none⟩) (by simp at this ⊢; omega)]; exact hv

theorem Vw.alloc {w : World} {a : Option Addr} {n c : Nat} {l : List Int} (h : Vw w a n c l) (o : Obj) : Vw (w.alloc o) a n c l :=
  h.below ((Below.refl w.heap.size w).alloc (Nat.le_refl _) o) (Nat.le_refl _)

theorem Vw.drew {w : World} {a : Option Addr} {n c : Nat} {l : List Int} (h : Vw w a n c l) : Vw w.drew a n c l := h.of_cells fun _ _ _ hv => hv

theorem Vw.drewN {w : World} {a : Option Addr} {n c : Nat} {l : List Int} (h : Vw w a n c l) (k : Nat) : Vw (w.drewN k) a n c l := h.of_cells fun _ _ _ hv => hv

theorem Vw.setCell {w : World} {a : Option Addr} {n c : Nat} {l : List Int} (h : Vw w a n c l) {p : Addr} (v : Value)
    (hp : ∀ x, a = some x → x.block ≠ p.block) : Vw (w.setCell p v) a n c l := by
  refine ⟨h.len, h.cap, h.big, h.byt, h.nul, ?_⟩
  rcases h.cells with h0 | ⟨b, off, ha, hx⟩
  · exact .inl h0
  · refine .inr ⟨b, off, ha, fun i hi => ?_⟩
    rw [World.cell?_setCell_other]
    · exact hx i hi
    · intro e; exact hp _ ha (by rw [e])

theorem Vw.nil (w : World) : Vw w none 0 0 [] := ⟨rfl, Nat.le_refl _, by omega, by simp, fun _ => rfl, .inl rfl⟩

/-- The bytes from k on: s[k:]. The address behind it is some address. -/
theorem Vw.from {w : World} {a : Option Addr} {n c : Nat} {l : List Int} (h : Vw w a n c l) (P : Program) (T E : TypeId)
    (hT : P.underlying T = some (.slice E)) (hE : ∀ w : World, (sizeOf E).run P w = .ok 1 w) (ki : IntKind) (i : Int) (k : Nat) (hi : i = k) (hk : k ≤ n) :
    ∃ a', (∀ w', (Instr.slice T (.slice a n c) (some (.int ki i)) none none).run P w' = .ok (.slice a' (n - k) (c - k)) w') ∧ Vw w a' (n - k) (c - k) (l.drop k) := by
  subst hi
  have hcn := h.cap
  refine ⟨if c = k then a else a.map (·.add k), fun w' => ?_, ?_, by omega, by have := h.big; omega, fun x hx => h.byt x (List.mem_of_mem_drop hx), fun e => ?_, ?_⟩
  · have h0 := hE w'
    have h1 := run_sliceBound (P := P) w' ki (k : Int) n .sliceB (by omega) (by omega)
    simp [Instr.slice, Instr.sliceBounds, run_underlying hT, h1, h0, Sem.run_bind, Result.andThen]
  · rw [List.length_drop, h.len]
  · have hn : a = none := by
      by_cases hck : c = k
      · rwa [if_pos hck] at e
      · rw [if_neg hck] at e; simpa using e
    have := h.nul hn
    omega
  · rcases h.cells with h0 | ⟨b, off, ha, hx⟩
    · exact .inl (by omega)
    · by_cases hkc : c = k
      · exact .inl (by omega)
      · refine .inr ⟨b, off + k, ?_, fun j hj => ?_⟩
        · rw [if_neg hkc, ha]; simp [Addr.add]
        · have := hx (k + j) (by omega)
          rw [show off + k + j = off + (k + j) by omega, this]
          simp [List.getD]

/-- The first k bytes: s[:k], k at most the length. -/
theorem Vw.take {w : World} {a : Option Addr} {n c : Nat} {l : List Int} (h : Vw w a n c l) {k : Nat} (hk : k ≤ n) : Vw w a k c (l.take k) := by
  refine ⟨by rw [List.length_take, h.len]; omega, by have := h.cap; omega, h.big, fun x hx => h.byt x (List.mem_of_mem_take hx), h.nul, ?_⟩
  rcases h.cells with h0 | ⟨b, off, ha, hx⟩
  · exact .inl (by omega)
  · refine .inr ⟨b, off, ha, fun j hj => ?_⟩
    rw [hx j (by omega)]
    simp [List.getD, hj]

/-- Bytes as a string: the bytes are those of the list. -/
theorem Vw.string {w : World} {a : Option Addr} {n c : Nat} {l : List Int} (h : Vw w a n c l) (P : Program) (T E S : TypeId)
    (hT : P.underlying T = some (.slice E)) (hE : P.underlying E = some (.int .u8)) (hS : P.underlying S = some .string) :
    (convert T S (.slice a n c)).run P w = .ok (.string (strOfNums l)) w := by
  rcases h.cells with h0 | ⟨b, off, ha, hx⟩
  · have hl : l = [] := List.eq_nil_of_length_eq_zero (by rw [h.len, h0])
    subst hl
    subst h0
    rw [run_convert_bytes_string w T S E a 0 c hT hE hS]
    cases a with
    | none => simp [Conv.bytesToString, strOfNums]; rfl
    | some x => rw [run_bytesToString w x 0 c [] (by simp [loadCells, loadCellsFrom, Sem.run_pure])]; rfl
  · subst ha
    exact run_convert_bytes_arg w T E hT hE b off n c l h.len hx S hS

/-- Behind a contract that ends in 'Below': every cell and every mark that was there reads as before. -/
theorem bcell {W w1 : World} (hb : Below W.heap.size W w1) : (∀ b o, b < W.heap.size → w1.cell? ⟨b, o, none⟩ = W.cell? ⟨b, o, none⟩) ∧ (∀ b o, b < W.heap.size → w1.frozen? ⟨b, o, none⟩ = W.frozen? ⟨b, o, none⟩) :=
  ⟨fun b o h => hb.cell (p := ⟨b, o, none⟩) h, fun b o h => hb.frozen (p := ⟨b, o, none⟩) h⟩

/-- What the frame of a law tells of a slice of bytes that came in. -/
theorem vw_of_row {w : World} {a : Option Addr} {len cap : Nat} {zs : List Int}
    (h : (a = none ∧ len = 0 ∧ cap = 0 ∧ zs = []) ∨ ∃ x, a = some x ∧ len ≤ cap ∧ cap ≤ maxLen ∧ zs.length = cap ∧ (∀ i, i < zs.length → w.cell? (x.add i) = some (.int .u8 (zs.getD i 0))) ∧ ∀ n ∈ zs, (Lit.int .u8 n).wf = true) :
    Vw w a len cap (zs.take len) := by
  rcases h with ⟨rfl, rfl, rfl, rfl⟩ | ⟨x, rfl, hl, hm, hz, hc, hw⟩
  · exact Vw.nil w
  · refine ⟨by rw [List.length_take]; omega, hl, by simp only [maxLen] at hm; omega, fun n hn => ?_, fun e => (by cases e), ?_⟩
    · have := hw n (List.mem_of_mem_take hn)
      simp [Lit.wf] at this
      exact this
    · by_cases h0 : len = 0
      · exact .inl h0
      · obtain ⟨b, off, spot⟩ := x
        have h1 := hc 0 (by omega)
        have hsp : spot = none := by simpa [Addr.add] using World.cell?_spot h1
        subst hsp
        refine .inr ⟨b, off, rfl, fun i hi => ?_⟩
        have := hc i (by omega)
        have e : (⟨b, off, none⟩ : Addr).add i = ⟨b, off + i, none⟩ := by unfold Addr.add; split <;> simp_all
        rw [e] at this
        rw [this]
        simp [List.getD, hi]

/-! ### Blocks known whole -/
def Blk (w : World) (g : Nat) (t : TypeId) (cs : Array Value) : Prop := w.heap[g]? = some (.cells cs t (0, 0))

theorem Blk.lt {w : World} {g : Nat} {t : TypeId} {cs : Array Value} (h : Blk w g t cs) : g < w.heap.size := (Array.getElem?_eq_some_iff.1 h).1
theorem Blk.new (w : World) (t : TypeId) (cs : Array Value) : Blk (w.alloc (.cells cs t)) w.heap.size t cs := heap_alloc_new w _
theorem Blk.alloc {w : World} {g : Nat} {t : TypeId} {cs : Array Value} (h : Blk w g t cs) (o : Obj) : Blk (w.alloc o) g t cs := by
  unfold Blk; rw [Below.heap_alloc _ _ _ h.lt]; exact h
theorem Blk.drew {w : World} {g : Nat} {t : TypeId} {cs : Array Value} (h : Blk w g t cs) : Blk w.drew g t cs := h
theorem Blk.drewN {w : World} {g : Nat} {t : TypeId} {cs : Array Value} (h : Blk w g t cs) (n : Nat) : Blk (w.drewN n) g t cs := h
theorem Blk.other {w : World} {g : Nat} {t : TypeId} {cs : Array Value} (h : Blk w g t cs) {p : Addr} (hp : g ≠ p.block) (v : Value) : Blk (w.setCell p v) g t cs := by
  unfold Blk; rw [Below.heap_setCell _ _ _ _ hp]; exact h
theorem Blk.below {w w' : World} {B g : Nat} {t : TypeId} {cs : Array Value} (h : Blk w g t cs) (hb : Below B w w') (hg : g < B) : Blk w' g t cs := by
  unfold Blk; rw [hb.block g hg]; exact h
theorem Blk.set {w : World} {g : Nat} {t : TypeId} {cs : Array Value} (h : Blk w g t cs) (i : Nat) (v : Value) : Blk (w.setCell ⟨g, i, none⟩ v) g t (cs.setIfInBounds i v) := by
  unfold Blk at *
  simp only [World.setCell, Array.getElem?_modify, ↓reduceIte, h, Option.map_some]
  rfl
theorem Blk.cell {w : World} {g : Nat} {t : TypeId} {cs : Array Value} (h : Blk w g t cs) {i : Nat} {v : Value} (hv : cs[i]? = some v) : w.cell? ⟨g, i, none⟩ = some v := by
  unfold Blk at h
  simp [World.cell?, h, hv]
theorem Blk.frozen {w : World} {g : Nat} {t : TypeId} {cs : Array Value} (h : Blk w g t cs) (i : Nat) : w.frozen? ⟨g, i, none⟩ = false := by
  unfold Blk at h
  simp [World.frozen?, h]
theorem Blk.set5 {w : World} {g : Nat} {t : TypeId} {cs : Array Value} (h : Blk w g t cs) (hs : cs.size = 5) (v0 v1 v2 v3 v4 : Value) :
    Blk (((((w.setCell ⟨g, 0, none⟩ v0).setCell ⟨g, 1, none⟩ v1).setCell ⟨g, 2, none⟩ v2).setCell ⟨g, 3, none⟩ v3).setCell ⟨g, 4, none⟩ v4) g t #[v0, v1, v2, v3, v4] := by
  have h5 := ((((h.set 0 v0).set 1 v1).set 2 v2).set 3 v3).set 4 v4
  rcases cs with ⟨l⟩
  rcases l with _ | ⟨a, _ | ⟨b, _ | ⟨c, _ | ⟨d, _ | ⟨e, _ | ⟨f, l⟩⟩⟩⟩⟩⟩ <;> simp at hs
  simpa using h5

theorem Blk.row {w : World} {g : Nat} {t : TypeId} {cs : Array Value} (h : Blk w g t cs) (cs' : Array Value) : Blk (w.setRow g cs') g t cs' := setRow_heap w g cs cs' t _ h
theorem below_row {B : Nat} {a w : World} (h : Below B a w) {g : Nat} (hg : B ≤ g) (cs : Array Value) : Below B a (w.setRow g cs) :=
  h.trans ⟨rfl, rfl, rfl, by simp, fun k hk => setRow_other w g k _ (by omega)⟩
theorem Vw.row {w : World} {a : Option Addr} {n c : Nat} {l : List Int} (h : Vw w a n c l) {g : Nat} (cs : Array Value) (hg : ∀ x, a = some x → x.block ≠ g) : Vw (w.setRow g cs) a n c l := by
  refine ⟨h.len, h.cap, h.big, h.byt, h.nul, ?_⟩
  rcases h.cells with h0 | ⟨b, off, ha, hx⟩
  · exact .inl h0
  · refine .inr ⟨b, off, ha, fun i hi => ?_⟩
    have hne : b ≠ g := hg _ ha
    rw [← hx i hi]
    exact World.cell?_of_block (w := w) (setRow_other w g b _ hne)

/-- The end of a function whose first result lies in a variable: a struct; two more in slots. -/
theorem results_ctt {P : Program} {fn : Func} {p u v : Tmp} {ty : TypeId} (h : fn.results = #[.cell p ty, .tmp u, .tmp v]) (tmps : Array Value) (w : World) (g : Nat) (t : TypeId) (cs : Array Value) (d : TypeDesc)
    (hp : tmps.getD p undef = .pointer (some ⟨g, 0, none⟩)) (hg : Blk w g t cs)
    (hu : P.underlying ty = some d) (hd : (match d with | .struct _ | .array _ _ => true | _ => false) = true) (hi : (P.info? ty).map (·.size) = some cs.size) :
    (results fn tmps).run P w = .ok (.tuple #[.agg cs, tmps.getD u undef, tmps.getD v undef]) w := by
  have hp' : tmps[p]?.getD undef = .pointer (some ⟨g, 0, none⟩) := by simpa using hp
  simp [results, h, hp', asAddr, run_loadVar_row w g t ty cs (0, 0) d hg hu hd hi]

/-! ### Rows of bytes that the call made itself -/
structure Own (E : TypeId) (w : World) (B : Nat) (a : Option Addr) (n c : Nat) (l : List Int) : Prop where
  vw : Vw w a n c l
  row : (a = none ∧ n = 0 ∧ c = 0) ∨ ∃ g cur, a = some ⟨g, 0, none⟩ ∧ B ≤ g ∧ Blk w g E cur ∧ cur.size = c

def bytesV (l : List Int) : List Value := l.map (Value.int .u8)

theorem Own.nil (E : TypeId) (w : World) (B : Nat) : Own E w B none 0 0 [] := ⟨Vw.nil w, .inl ⟨rfl, rfl, rfl⟩⟩

theorem Own.owns {E : TypeId} {w : World} {B : Nat} {a : Option Addr} {n c : Nat} {l : List Int} (h : Own E w B a n c l) : w.ownsRow B E 1 (.slice a n c) n (bytesV l) := by
  refine ⟨by simp [bytesV, h.vw.len], ?_⟩
  rcases h.row with ⟨rfl, rfl, rfl⟩ | ⟨g, cur, rfl, hg, hb, hc⟩
  · exact .inl ⟨rfl, rfl⟩
  · refine .inr ⟨g, c, cur, rfl, hg, hb, h.vw.cap, by have := h.vw.big; simp only [maxLen]; omega, by omega, ?_⟩
    apply List.ext_getElem?
    intro i
    rw [List.getElem?_take]
    rcases h.vw.cells with h0 | ⟨b, off, he, hx⟩
    · have hl : l = [] := List.eq_nil_of_length_eq_zero (by rw [h.vw.len, h0])
      subst hl; simp [bytesV, h0]
    · obtain ⟨rfl, rfl⟩ : b = g ∧ off = 0 := by injection he with he; injection he with h1 h2; exact ⟨h1.symm, h2.symm⟩
      by_cases hi : i < n
      · have := hx i hi
        rw [Nat.zero_add, cell_of_row w b i cur E (0, 0) hb] at this
        have hil : i < l.length := by rw [h.vw.len]; exact hi
        rw [if_pos (by omega)]
        rw [show cur.toList[i]? = cur[i]? by simp, this]
        simp [bytesV, List.getElem?_eq_getElem hil, List.getD]
      · rw [if_neg (by omega)]
        rw [List.getElem?_eq_none]
        simp only [bytesV, List.length_map, h.vw.len]; omega

theorem Own.of_owns {E : TypeId} {w : World} {B : Nat} {v : Value} {n : Nat} {l : List Int} (h : w.ownsRow B E 1 v n (bytesV l)) (hb : ∀ x ∈ l, 0 ≤ x ∧ x ≤ 255) :
    ∃ a c, v = .slice a n c ∧ Own E w B a n c l := by
  have hn : l.length = n := by have := h.1; simpa [bytesV] using this
  rcases h.2 with ⟨rfl, rfl⟩ | ⟨g, cap, cur, rfl, hg, hh, hnc, hcm, hcs, ht⟩
  · have hl : l = [] := List.eq_nil_of_length_eq_zero hn
    subst hl
    exact ⟨none, 0, rfl, Own.nil E w B⟩
  · refine ⟨_, _, rfl, ⟨hn, hnc, by simp only [maxLen] at hcm; omega, hb, fun e => (by cases e), ?_⟩, .inr ⟨g, cur, rfl, hg, hh, by omega⟩⟩
    refine .inr ⟨g, 0, rfl, fun i hi => ?_⟩
    rw [Nat.zero_add, cell_of_row w g i cur E (0, 0) hh]
    have hil : i < l.length := by omega
    have e : (bytesV l)[i]? = some (.int .u8 (l.getD i 0)) := by simp [bytesV, List.getElem?_eq_getElem hil, List.getD]
    rw [← ht, List.getElem?_take, if_pos (by omega)] at e
    rw [← e]; simp

theorem Own.empty (E : TypeId) (w : World) : Own E (w.alloc (.cells #[] E)) w.heap.size (some ⟨w.heap.size, 0, none⟩) 0 0 [] :=
  ⟨⟨rfl, Nat.le_refl _, by omega, by simp, fun e => (by cases e), .inl rfl⟩, .inr ⟨w.heap.size, #[], rfl, Nat.le_refl _, Blk.new w E #[], rfl⟩⟩

/-- A new block of bytes, as a slice literal makes it. -/
theorem Own.lit (E : TypeId) (w : World) (l : List Int) (hl : ∀ x ∈ l, 0 ≤ x ∧ x ≤ 255) (hn : l.length ≤ 9223372036854775807) : Own E (w.alloc (.cells (bytesV l).toArray E)) w.heap.size (some ⟨w.heap.size, 0, none⟩) l.length l.length l := by
  refine ⟨⟨rfl, Nat.le_refl _, hn, hl, fun e => (by cases e), .inr ⟨w.heap.size, 0, rfl, fun i hi => ?_⟩⟩, .inr ⟨w.heap.size, _, rfl, Nat.le_refl _, Blk.new w E _, by simp [bytesV]⟩⟩
  rw [Nat.zero_add, (Blk.new w E (bytesV l).toArray).cell (i := i) (v := .int .u8 (l.getD i 0))]
  simp [bytesV, List.getElem?_eq_getElem hi, List.getD]

def blkOf (a : Option Addr) : Option Nat := a.map (·.block)

theorem Own.kept {E : TypeId} {w w' : World} {B : Nat} {a : Option Addr} {n c : Nat} {l : List Int} (h : Own E w B a n c l) (hk : ∀ g cur, a = some ⟨g, 0, none⟩ → Blk w g E cur → Blk w' g E cur) : Own E w' B a n c l := by
  have ho := h.owns
  have ho' : w'.ownsRow B E 1 (.slice a n c) n (bytesV l) := by
    refine ⟨ho.1, ?_⟩
    rcases ho.2 with h1 | ⟨g, cap, cur, hv, hg, hh, hr⟩
    · exact .inl h1
    · refine .inr ⟨g, cap, cur, hv, hg, ?_, hr⟩
      injection hv with hv1
      exact hk g cur hv1 hh
  obtain ⟨a2, c2, hv, h2⟩ := Own.of_owns ho' h.vw.byt
  injection hv with h1 h2' h3
  subst h1; subst h3
  exact h2

theorem Own.mono {E : TypeId} {w : World} {B B' : Nat} {a : Option Addr} {n c : Nat} {l : List Int} (h : Own E w B a n c l) (hB : B' ≤ B) : Own E w B' a n c l := by
  refine ⟨h.vw, ?_⟩
  rcases h.row with h1 | ⟨g, cur, e, hg, r⟩
  · exact .inl h1
  · exact .inr ⟨g, cur, e, by omega, r⟩

theorem Own.below {E : TypeId} {w w' : World} {B K : Nat} {a : Option Addr} {n c : Nat} {l : List Int} (hb : Below K w w') (hK : w.heap.size ≤ K) (h : Own E w B a n c l) : Own E w' B a n c l :=
  h.kept fun g cur _ hB => hB.below hb (by have := hB.lt; omega)

theorem Own.alloc {E : TypeId} {w : World} {B : Nat} {a : Option Addr} {n c : Nat} {l : List Int} (h : Own E w B a n c l) (o : Obj) : Own E (w.alloc o) B a n c l := h.kept fun _ _ _ hB => hB.alloc o
theorem Own.drew {E : TypeId} {w : World} {B : Nat} {a : Option Addr} {n c : Nat} {l : List Int} (h : Own E w B a n c l) : Own E w.drew B a n c l := h.kept fun _ _ _ hB => hB.drew
theorem Own.drewN {E : TypeId} {w : World} {B : Nat} {a : Option Addr} {n c : Nat} {l : List Int} (h : Own E w B a n c l) (k : Nat) : Own E (w.drewN k) B a n c l := h.kept fun _ _ _ hB => hB.drewN k

/-- What an append may have written: the row's own block alone, and new blocks. -/
theorem below_of_grown {w w' : World} {B : Nat} {a : Option Addr} {n c : Nat} (hg : w.grownBy w' (Value.ownBlock (.slice a n c))) (hB : B ≤ w.heap.size) (hr : ∀ x, a = some x → B ≤ x.block) : Below B w w' :=
  Below.grown (Below.refl _ _) hg hB (fun k hk => by
    cases a with
    | none => simp [Value.ownBlock] at hk
    | some x => simp [Value.ownBlock] at hk; subst hk; exact hr x rfl)

theorem Own.ge {E : TypeId} {w : World} {B : Nat} {a : Option Addr} {n c : Nat} {l : List Int} (h : Own E w B a n c l) : ∀ x, a = some x → B ≤ x.block := by
  intro x hx
  rcases h.row with ⟨h1, _⟩ | ⟨g, cur, e, hg, r⟩
  · rw [h1] at hx; cases hx
  · rw [e] at hx; injection hx with hx; subst hx; exact hg

theorem Vw.src {w : World} {a : Option Addr} {n c : Nat} {l : List Int} (h : Vw w a n c l) (h0 : 0 < (bytesV l).length) :
    ∃ ad, a = some ad ∧ ∀ j v, (bytesV l)[j]? = some v → w.cell? (ad.add j) = some v := by
  have hl : l.length = n := h.len
  simp only [bytesV, List.length_map] at h0
  rcases h.cells with h1 | ⟨b, off, he, hc⟩
  · omega
  · refine ⟨_, he, fun j u hj => ?_⟩
    have hjl : j < l.length := by
      rcases Nat.lt_or_ge j l.length with h1 | h1
      · exact h1
      · simp [bytesV, List.getElem?_eq_none h1] at hj
    have e : (⟨b, off, none⟩ : Addr).add j = ⟨b, off + j, none⟩ := by unfold Addr.add; split <;> simp_all
    rw [e, hc j (by omega)]
    simp [bytesV, List.getElem?_eq_getElem hjl] at hj
    subst hj
    simp [List.getD, List.getElem?_eq_getElem hjl]

/-- 'append(b, x...)' at a row of one's own, whatever bytes x is. -/
theorem wpList_append_Own {P : Program} {w : World} {ops : Array Oper} {rest : List Oper} {o : Oper} {act : Act} {Q : Exit → Act → World → Prop} (hgd : o.guard = none) (s x : Operand) (T E : TypeId)
    (ho : o.op = .call { callee := .builtin .append, args := #[s, x], argTypes := #[T, T] })
    (hT : P.underlying T = some (.slice E)) (i : TypeInfo) (hi : P.info? E = some i) (hz : i.zero = some (.int .u8 0)) (hsi : i.size = 1) (hby : i.bytes = 1)
    (B : Nat) (a : Option Addr) (n c : Nat) (l : List Int) (hs : act.eval s = .slice a n c) (hown : Own E w B a n c l)
    (a2 : Option Addr) (m c2 : Nat) (l2 : List Int) (hx : act.eval x = .slice a2 m c2) (hv2 : Vw w a2 m c2 l2) (hsz : n + m ≤ 140737488355328) (hB : B ≤ w.heap.size)
    (h : ∀ a' c' w', Own E w' B a' (n + m) c' (l ++ l2) → w.grownBy w' (Value.ownBlock (.slice a n c)) → wpList P ops Q rest (act.put o.dst (.slice a' (n + m) c')) w') : wpList P ops Q (o :: rest) act w := by
  have hown' := hown.owns
  have hbb : ∀ y ∈ l ++ l2, 0 ≤ y ∧ y ≤ 255 := fun y hy => by
    rcases List.mem_append.1 hy with h1 | h1
    · exact hown.vw.byt y h1
    · exact hv2.byt y h1
  cases a2 with
  | none =>
    have hc2 := hv2.nul rfl
    have hm : m = 0 := by have := hv2.cap; omega
    have hl2 : l2 = [] := List.eq_nil_of_length_eq_zero (by rw [hv2.len, hm])
    subst hm; subst hc2; subst hl2
    refine wpList_append_own_none hgd s x T ho B E i 1 hT hi _ n (bytesV l) hs hown' hx ?_
    exact h a c w (by simpa using hown) ⟨rfl, rfl, rfl, Nat.le_refl _, fun _ _ _ => rfl⟩
  | some ad =>
    refine wpList_append_own w hgd s x T ho B E i (.int .u8 0) 1 1 hT hi hz hsi hby rfl (by omega) _ n (bytesV l) hs hown' ad m c2 (bytesV l2) hx (by simp [bytesV, hv2.len]) ?_ ?_ (by simp only [maxLen]; omega) (by omega) hB ?_
    · intro j u hj
      have hjl : j < l2.length := by
        rcases Nat.lt_or_ge j l2.length with h1 | h1
        · exact h1
        · simp [bytesV, List.getElem?_eq_none h1] at hj
      rcases hv2.cells with h0 | ⟨b, off, he, hc⟩
      · rw [hv2.len] at hjl; omega
      · injection he with he; subst he
        have e : (⟨b, off, none⟩ : Addr).add j = ⟨b, off + j, none⟩ := by unfold Addr.add; split <;> simp_all
        rw [e, hc j (by rw [← hv2.len]; exact hjl)]
        simp [bytesV, List.getElem?_eq_getElem hjl] at hj
        subst hj
        simp [List.getD, List.getElem?_eq_getElem hjl]
    · intro u hu
      simp only [bytesV, List.mem_map] at hu
      obtain ⟨q, _, rfl⟩ := hu
      rfl
    · intro v' w' ho2 hg2 _
      rw [show bytesV l ++ bytesV l2 = bytesV (l ++ l2) by simp [bytesV]] at ho2
      obtain ⟨a', c', rfl, hO⟩ := Own.of_owns ho2 hbb
      exact h a' c' w' hO hg2

#print axioms wpList_append_Own
#print axioms Vw.from
#print axioms Vw.string
end Go.Proofs.YtdncfolehkhjhaaDoor
