/- Texts in AMQP: the buffer's AppendString; take at a text. -/
import Derived.Test.YtkbfppjniaejnaaDoorBuf
import Derived.Test.YtkbfppjniaejnaaDoorAscii
import Derived.Test.YtkbfppjniaejnaaDoorWrote
import Derived.Lib.AppendStr
import Derived.StillTailTactics
import Derived.Deep.RegionHeld3
import Derived.BigRegion
namespace Go.Proofs.YtkbfppjniaejnaaDoor
open Go.RowKit
set_option linter.unusedVariables false
set_option linter.unusedSimpArgs false

theorem strCells_ints (s : ByteArray) : Lib.strCells s = bytesV (ints s) := by simp [Lib.strCells, bytesV, ints]

theorem app8_str {w : World} {ops : Array Oper} {rest : List Oper} {o : Oper} {act : Act} {Q : Exit → Act → World → Prop} (hgd : o.guard = none) (s x : Operand)
    (ho : o.op = .call { callee := .builtin .append, args := #[s, x], argTypes := #[22, 9] })
    (B : Nat) (a : Option Addr) (n c : Nat) (l : List Int) (hs : act.eval s = .slice a n c) (hown : O8 w B a n c l)
    (t : ByteArray) (hx : act.eval x = .string t) (hsz : n + t.size ≤ 140737488355328) (hB : B ≤ w.heap.size)
    (h : ∀ a' c' w', O8 w' B a' (n + t.size) c' (l ++ ints t) → w.grownBy w' (Value.ownBlock (.slice a n c)) → wpList Tryd.prog ops Q rest (act.put o.dst (.slice a' (n + t.size) c')) w') : wpList Tryd.prog ops Q (o :: rest) act w := by
  obtain ⟨i, hi, hz, h1, h2⟩ := info8
  refine Lib.wpList_append_own_string w hgd s x 22 9 ho B 5 i Tryd.underlying22 Tryd.underlying9 hi hz h1 h2 _ n (bytesV l) hs hown.owns t hx (by simp only [maxLen]; omega) (by omega) hB ?_
  intro v' w' ho2 hg _
  rw [strCells_ints, show bytesV l ++ bytesV (ints t) = bytesV (l ++ ints t) by simp [bytesV]] at ho2
  obtain ⟨a', c', rfl, hO⟩ := Own.of_owns ho2 (fun y hy => by
    rcases List.mem_append.1 hy with h1 | h1
    · exact hown.vw.byt y h1
    · exact ints_bytes t y h1)
  exact h a' c' w' hO hg

set_option maxHeartbeats 1000000 in
theorem bufString (g : Nat) (l : List Int) (t : ByteArray) (w : World) (hb : Bf w g l) (hn : l.length + t.size ≤ 1099511627776) :
    Calls Tryd.prog 45 #[.pointer (some ⟨g, 0, none⟩), .string t] w fun e w' => e = .returned (.tuple #[]) ∧ Bf w' g (l ++ ints t) ∧ Below g w w' := by
  have hlt := hb.lt
  obtain ⟨a, n, c, hB, ho⟩ := hb.ex
  have hc0 := hB.cell (i := 0) rfl
  have hln := ho.vw.len
  go_enter Tryd.func45, Tryd.ntmps45
  go_wp2_with (at_builtin; refine app8_str (by rfl) _ _ (by rfl) (g + 1) a n c l (by rfl) ho t (by rfl) (by omega) (by omega) ?_; intro a' c' w1 ho1 hg; have hb1 := below_of_grown hg (by omega) ho.ge; have hB1 := hB.below hb1 (Nat.lt_succ_self g); have hc1 := hB1.cell (i := 0) rfl; have hf1 := hB1.frozen 0)
  go_wp2_with fail
  go_end0
  exact ⟨rfl, Bf.grow hB hb1 ho1⟩

/-- The region's world: a block, draws. -/
theorem conv_of {w : World} {a : Option Addr} {n c : Nat} {l : List Int} (h : Vw w a n c l) :
    (convert 22 9 (.slice a n c)).run Tryd.prog w = .ok (.string (strOfNums l)) w :=
  h.string Tryd.prog 22 5 9 Tryd.underlying22 Tryd.underlying5 Tryd.underlying9

/-- Slicing from i, an uint64, on gives the address a'. -/
def Off64 (a : Option Addr) (n c : Nat) (i : Int) (a' : Option Addr) (k : Nat) : Prop :=
  ∀ w', (Instr.slice 22 (.slice a n c) (some (.int .u64 i)) none none).run Tryd.prog w' = .ok (.slice a' (n - k) (c - k)) w'

theorem off_u64 {w : World} {a : Option Addr} {n c : Nat} {l : List Int} (h : Vw w a n c l) (i : Int) (k : Nat) (hi : i = k) (hk : k ≤ n) :
    ∃ a', Off64 a n c i a' k ∧ Vw w a' (n - k) (c - k) (l.drop k) :=
  h.from Tryd.prog 22 5 Tryd.underlying22 size1 .u64 i k hi hk

/-- What a cell holds. -/
def oldc (W : World) (g i : Nat) : Value := (W.cell? ⟨g, i, none⟩).getD undef
theorem oldc_of {W : World} {g i : Nat} {v : Value} (h : W.cell? ⟨g, i, none⟩ = some v) : W.cell? ⟨g, i, none⟩ = some (oldc W g i) := by
  unfold oldc; rw [h]; rfl

/-- A block of six cells, whatever they hold. -/
def Has6 (W : World) (g : Nat) : Prop := ∃ cs, Blk W g 29 cs ∧ cs.size = 6
theorem Has6.drew {W : World} {g : Nat} (h : Has6 W g) : Has6 W.drew g := h
theorem Has6.drewN {W : World} {g : Nat} (h : Has6 W g) (k : Nat) : Has6 (W.drewN k) g := by obtain ⟨cs, hb, hs⟩ := h; exact ⟨cs, hb.drewN k, hs⟩
theorem Has6.set {W : World} {g : Nat} (h : Has6 W g) (i : Nat) (v : Value) : Has6 (W.setCell ⟨g, i, none⟩ v) g := by
  obtain ⟨cs, hb, hs⟩ := h
  exact ⟨_, hb.set i v, by simpa using hs⟩
theorem Has6.cells {W : World} {g : Nat} (h : Has6 W g) : (W.cell? ⟨g, 0, none⟩ = some (oldc W g 0) ∧ W.cell? ⟨g, 1, none⟩ = some (oldc W g 1) ∧ W.cell? ⟨g, 2, none⟩ = some (oldc W g 2) ∧ W.cell? ⟨g, 3, none⟩ = some (oldc W g 3) ∧ W.cell? ⟨g, 4, none⟩ = some (oldc W g 4) ∧ W.cell? ⟨g, 5, none⟩ = some (oldc W g 5)) ∧ (∀ i, W.frozen? ⟨g, i, none⟩ = false) := by
  obtain ⟨cs, hb, hs⟩ := h
  have k : ∀ i, i < 6 → W.cell? ⟨g, i, none⟩ = some (oldc W g i) := fun i hi => oldc_of (hb.cell (Array.getElem?_eq_getElem (by omega)))
  exact ⟨⟨k 0 (by omega), k 1 (by omega), k 2 (by omega), k 3 (by omega), k 4 (by omega), k 5 (by omega)⟩, fun i => hb.frozen i⟩

set_option maxRecDepth 100000 in
set_option maxHeartbeats 4000000 in
theorem take_symk (k : Int) (hk20 : k = 20) (c : Int) (n' : Nat) (hk : Kind c k n') (h8 : n' ≤ 8) (h45 : c ≠ 69) (da : Option Addr) (dn dc : Nat) (a : Option Addr) (n cap : Nat) (l : List Int) (lv : Int) (w0 : World) (hv : Vw w0 a n cap l) (hkn : n' ≤ n)
    (u : Nat) (hu : beN (l.take n') = u) (hun : u ≤ n - n') (t : ByteArray) (ht : strOfNums ((l.drop n').take u) = t) (htz : t.size < 9223372036854775807) (hA : Asc t) :
    ∃ a', Vw w0 a' (n - n' - u) (cap - n' - u) ((l.drop n').drop u) ∧ ∀ w, Below w0.heap.size w0 w → Calls Tryd.prog 42 #[ct (.slice da dn dc) c, .slice a n cap, .int .i64 lv] w fun e w' => e = .returned (got (av k 0 t nilS 0 (.slice da dn dc)) a' (n - n' - u) (cap - n' - u)) ∧ Below w.heap.size w w' := by
  obtain ⟨a1, hoff, hv'⟩ := off_of hv (n' : Int) n' rfl hkn
  obtain ⟨a2, hoff2, hv2⟩ := off_u64 hv' (u : Int) u rfl hun
  have hcn := hv'.cap
  have hcb := hv'.big
  have huc : u ≤ cap - n' := by omega
  refine ⟨a2, hv2, fun w hx => ?_⟩
  have hvw := Vw.below hx (Nat.le_refl _) hv
  have hvw1 := Vw.below hx (Nat.le_refl _) hv'
  have e1 : ((n' : Int) == 16) = false := by simp; omega
  have e6 : (c == 69) = false := by simpa using h45
  have hgt : decide ((u : Int) > ((n - n' : Nat) : Int)) = false := by simp; omega
  have y1 : (k == 0) = false := by subst hk20; decide
  have y2 : (k == 1) = false := by subst hk20; decide
  have y3 : decide (k ≥ 21) = false := by subst hk20; decide
  have y4 : decide (k ≥ 18) = true := by subst hk20; decide
  have y5 : (k != 19) = true := by subst hk20; decide
  have y6 : (k != 20) = false := by subst hk20; decide
  clear hk20
  have HS := Lib.hid hoff
  have HK := Lib.hid hk
  have HA := Lib.hid hA
  unfold Off64 at hoff2
  clear hoff hk hA
  unfold ct
  go_enter Tryd.func42, Tryd.ntmps42
  go_wp2_with (go_at_call 53; refine (kindOf_ok c k n' HK.out _).mono ?_; rintro e w1 ⟨rfl, hb1⟩; have hs1 : w.heap.size + 3 ≤ w1.heap.size := (by have := hb1.size; simp at this; omega); have hB3 : Blk w1 w.heap.size 81 #[.slice da dn dc, .int .i64 c] := Blk.below (((Blk.new _ _ _).alloc _).alloc _) hb1 (by simp; omega); have hB6 : Blk w1 (w.heap.size + 1) 29 #[.int .i64 0, .int .u64 0, .string ⟨#[]⟩, nilS, .int .i64 0, nilS] := Blk.below ((by simpa using Blk.new (w.alloc _) _ _ : Blk ((w.alloc _).alloc _) (w.heap.size + 1) _ _).alloc _) hb1 (by simp); have hc30 := hB3.cell (i := 0) rfl; have hc31 := hB3.cell (i := 1) rfl; have hf6 := fun i => hB6.frozen i; have hc60 := hB6.cell (i := 0) rfl; have hc61 := hB6.cell (i := 1) rfl; have hc62 := hB6.cell (i := 2) rfl; have hc63 := hB6.cell (i := 3) rfl; have hc64 := hB6.cell (i := 4) rfl; have hc65 := hB6.cell (i := 5) rfl)
  have hv1 := Vw.below hb1 (Nat.le_refl _) (((hvw.alloc _).alloc _).alloc _)
  go_wp2_with (go_at_call 54; (refine (takeBig_ok _ _ _ _ n' rfl l _ (hv1.alloc _) _ HS.out hkn (by omega)).mono ?_); rw [hu]; rintro e w2 ⟨rfl, nq, rfl⟩; have hcv := fun o => conv_of ((((Vw.below hb1 (Nat.le_refl _) (((hvw1.alloc _).alloc _).alloc _)).take hun).alloc o).drewN nq); rw [ht] at hcv; have hd31 := fun o => ((hB3.alloc o).drewN nq).cell (i := 1) rfl; have hg6 := fun o i => ((hB6.alloc o).drewN nq).frozen i; have hd60 := fun o => ((hB6.alloc o).drewN nq).cell (i := 0) rfl; have hd61 := fun o => ((hB6.alloc o).drewN nq).cell (i := 1) rfl; have hd62 := fun o => ((hB6.alloc o).drewN nq).cell (i := 2) rfl; have hd63 := fun o => ((hB6.alloc o).drewN nq).cell (i := 3) rfl; have hd64 := fun o => ((hB6.alloc o).drewN nq).cell (i := 4) rfl; have hd65 := fun o => ((hB6.alloc o).drewN nq).cell (i := 5) rfl)
  have hB13 : Blk ((((w1.alloc (.cells #[.int .i64 k, .int .u64 0, .string ⟨#[]⟩, nilS, .int .i64 0, .slice da dn dc] 29)).drewN nq).setCell ⟨w1.heap.size, 2, none⟩ (.string t))) w1.heap.size 29 #[.int .i64 k, .int .u64 0, .string t, nilS, .int .i64 0, .slice da dn dc] := by
    have := ((Blk.new w1 29 #[.int .i64 k, .int .u64 0, .string ⟨#[]⟩, nilS, .int .i64 0, .slice da dn dc]).drewN nq).set 2 (.string t)
    simpa using this
  have hB6x : Blk ((((w1.alloc (.cells #[.int .i64 k, .int .u64 0, .string ⟨#[]⟩, nilS, .int .i64 0, .slice da dn dc] 29)).drewN nq).setCell ⟨w1.heap.size, 2, none⟩ (.string t))) (w.heap.size + 1) 29 #[.int .i64 0, .int .u64 0, .string ⟨#[]⟩, nilS, .int .i64 0, nilS] := ((hB6.alloc _).drewN nq).other (by simp; omega) _
  have hbw : Below w.heap.size w w1 := Below.trans ((((Below.refl _ _).alloc (Nat.le_refl _) _).alloc (by simp) _).alloc (by simp; omega) _) (hb1.mono (by simp; omega))
  have hbx : Below w.heap.size w ((((w1.alloc (.cells #[.int .i64 k, .int .u64 0, .string ⟨#[]⟩, nilS, .int .i64 0, .slice da dn dc] 29)).drewN nq).setCell ⟨w1.heap.size, 2, none⟩ (.string t))) := by (repeat (first | with_reducible exact Below.refl _ _ | with_reducible assumption | with_reducible refine below_drewN ?_ _ | with_reducible refine Below.drew ?_ | with_reducible refine below_row ?_ (by first | omega | (simp; done) | (simp; omega)) _ | with_reducible refine Below.alloc ?_ (by first | omega | (simp; done) | (simp; omega)) _ | with_reducible refine Below.setCell ?_ (by first | omega | (simp; done) | (simp; omega)) _))
  have hne : ¬ w.heap.size + 1 = w1.heap.size := by omega
  have hne2 : ¬ w1.heap.size = w.heap.size + 1 := by omega
  generalize hW : ((((w1.alloc (.cells #[.int .i64 k, .int .u64 0, .string ⟨#[]⟩, nilS, .int .i64 0, .slice da dn dc] 29)).drewN nq).setCell ⟨w1.heap.size, 2, none⟩ (.string t))) = W2 at *
  have hg6' : w.heap.size + 1 ≤ w.heap.size + 1 := Nat.le_refl _
  generalize hg6 : w.heap.size + 1 = g6 at *
  generalize hg13 : w1.heap.size = g13 at *
  clear hW hd60 hd61 hd62 hd63 hd64 hd65 hd31 hc60 hc61 hc62 hc63 hc64 hc65 hg6 hf6 hcv hc30 hc31 hB3 hB6
  clear hv1 hb1 hg13 hs1
  have hH : Has6 W2 g6 := ⟨_, hB6x, rfl⟩
  clear hB6x
  have hgw : w.heap.size ≤ g6 := by omega
  have K : ∀ W, Below w.heap.size w W → Has6 W g6 → Blk W g13 29 #[.int .i64 k, .int .u64 0, .string t, nilS, .int .i64 0, .slice da dn dc] → (fun W => (Below w.heap.size w W ∧ Has6 W g6 ∧ Blk W g13 29 #[.int .i64 k, .int .u64 0, .string t, nilS, .int .i64 0, .slice da dn dc]) ∧ ((W.cell? ⟨g6, 0, none⟩ = some (oldc W g6 0) ∧ W.cell? ⟨g6, 1, none⟩ = some (oldc W g6 1) ∧ W.cell? ⟨g6, 2, none⟩ = some (oldc W g6 2) ∧ W.cell? ⟨g6, 3, none⟩ = some (oldc W g6 3) ∧ W.cell? ⟨g6, 4, none⟩ = some (oldc W g6 4) ∧ W.cell? ⟨g6, 5, none⟩ = some (oldc W g6 5)) ∧ (∀ i, W.frozen? ⟨g6, i, none⟩ = false)) ∧ W.cell? ⟨g13, 0, none⟩ = some (.int .i64 k) ∧ W.cell? ⟨g13, 1, none⟩ = some (.int .u64 0) ∧ W.cell? ⟨g13, 2, none⟩ = some (.string t) ∧ W.cell? ⟨g13, 3, none⟩ = some (.slice none 0 0) ∧ W.cell? ⟨g13, 4, none⟩ = some (.int .i64 0) ∧ W.cell? ⟨g13, 5, none⟩ = some (.slice da dn dc)) W := fun W h1 h2 h3 => ⟨⟨h1, h2, h3⟩, h2.cells, h3.cell rfl, h3.cell rfl, h3.cell rfl, h3.cell rfl, h3.cell rfl, h3.cell rfl⟩
  refine wp_region_held_drew (S := (fun W => (Below w.heap.size w W ∧ Has6 W g6 ∧ Blk W g13 29 #[.int .i64 k, .int .u64 0, .string t, nilS, .int .i64 0, .slice da dn dc]) ∧ ((W.cell? ⟨g6, 0, none⟩ = some (oldc W g6 0) ∧ W.cell? ⟨g6, 1, none⟩ = some (oldc W g6 1) ∧ W.cell? ⟨g6, 2, none⟩ = some (oldc W g6 2) ∧ W.cell? ⟨g6, 3, none⟩ = some (oldc W g6 3) ∧ W.cell? ⟨g6, 4, none⟩ = some (oldc W g6 4) ∧ W.cell? ⟨g6, 5, none⟩ = some (oldc W g6 5)) ∧ (∀ i, W.frozen? ⟨g6, i, none⟩ = false)) ∧ W.cell? ⟨g13, 0, none⟩ = some (.int .i64 k) ∧ W.cell? ⟨g13, 1, none⟩ = some (.int .u64 0) ∧ W.cell? ⟨g13, 2, none⟩ = some (.string t) ∧ W.cell? ⟨g13, 3, none⟩ = some (.slice none 0 0) ∧ W.cell? ⟨g13, 4, none⟩ = some (.int .i64 0) ∧ W.cell? ⟨g13, 5, none⟩ = some (.slice da dn dc))) (by kernel_rfl) ?hS0 (fun hHeld => ?hR0)
  case hS0 => (exact K _ (by (repeat (first | with_reducible exact Below.refl _ _ | with_reducible assumption | with_reducible refine below_drewN ?_ _ | with_reducible refine Below.drew ?_ | with_reducible refine below_row ?_ (by first | omega | (simp; done) | (simp; omega)) _ | with_reducible refine Below.alloc ?_ (by first | omega | (simp; done) | (simp; omega)) _ | with_reducible refine Below.setCell ?_ (by first | omega | (simp; done) | (simp; omega)) _))) (by repeat (first | with_reducible assumption | with_reducible refine Has6.set ?_ _ _ | with_reducible refine Has6.drew ?_ | with_reducible refine Has6.drewN ?_ _)) (by (repeat (first | with_reducible exact Blk.new _ _ _ | with_reducible assumption | with_reducible refine Blk.alloc ?_ _ | with_reducible refine Blk.drewN ?_ _ | with_reducible refine Blk.drew ?_ | with_reducible refine Blk.other ?_ (by first | omega | (simp; done) | (simp; omega)) _))))
  refine wpAnyH_take (i := 0) (v := ?_) (by simp only [List.getElem?_toArray, List.getElem?_cons_succ, List.getElem?_cons_zero]; rfl) (by kernel_rfl) (by kernel_rfl) (by kernel_rfl) (by intro _ _ _ h; exact h) (Or.inl ⟨by rfl, ?h0⟩) (by assumption) ?r0
  case h0 => (intro w hSw; (try dsimp only at hSw); go_simp; try with_reducible rfl)
  try simp only [Act.put, List.setIfInBounds_toArray, List.set_cons_zero, List.set_cons_succ]
  refine wpAnyH_take (i := 1) (v := ?_) (by simp only [List.getElem?_toArray, List.getElem?_cons_succ, List.getElem?_cons_zero]; rfl) (by kernel_rfl) (by kernel_rfl) (by kernel_rfl) (by intro _ _ _ h; exact h) (Or.inl ⟨by rfl, ?h1⟩) (by assumption) ?r1
  case h1 => (intro w hSw; (try dsimp only at hSw); go_simp; try with_reducible rfl)
  try simp only [Act.put, List.setIfInBounds_toArray, List.set_cons_zero, List.set_cons_succ]
  refine wpAnyH_take (i := 2) (v := ?_) (by simp only [List.getElem?_toArray, List.getElem?_cons_succ, List.getElem?_cons_zero]; rfl) (by kernel_rfl) (by kernel_rfl) (by kernel_rfl) (by intro _ _ _ h; exact h) (Or.inl ⟨by rfl, ?h2⟩) (by assumption) ?r2
  case h2 => (intro w hSw; (try dsimp only at hSw); go_simp; try with_reducible rfl)
  try simp only [Act.put, List.setIfInBounds_toArray, List.set_cons_zero, List.set_cons_succ]
  refine wpAnyH_take (i := 3) (v := ?_) (by simp only [List.getElem?_toArray, List.getElem?_cons_succ, List.getElem?_cons_zero]; rfl) (by kernel_rfl) (by kernel_rfl) (by kernel_rfl) (by intro _ _ _ h; exact h) (Or.inl ⟨by rfl, ?h3⟩) (by assumption) ?r3
  case h3 => (intro w hSw; (try dsimp only at hSw); go_simp; try with_reducible rfl)
  try simp only [Act.put, List.setIfInBounds_toArray, List.set_cons_zero, List.set_cons_succ]
  refine wpAnyH_take (i := 4) (v := ?_) (by simp only [List.getElem?_toArray, List.getElem?_cons_succ, List.getElem?_cons_zero]; rfl) (by kernel_rfl) (by kernel_rfl) (by kernel_rfl) (by intro _ _ _ h; exact h) (Or.inl ⟨by rfl, ?h4⟩) (by assumption) ?r4
  case h4 => (intro w hSw; (try dsimp only at hSw); go_simp; try with_reducible rfl)
  try simp only [Act.put, List.setIfInBounds_toArray, List.set_cons_zero, List.set_cons_succ]
  refine wpAnyH_take (i := 5) (v := ?_) (by simp only [List.getElem?_toArray, List.getElem?_cons_succ, List.getElem?_cons_zero]; rfl) (by kernel_rfl) (by kernel_rfl) (by kernel_rfl) (by intro _ _ _ h; exact h) (Or.inl ⟨by rfl, ?h5⟩) (by assumption) ?r5
  case h5 => (intro w hSw; (try dsimp only at hSw); go_simp; try with_reducible rfl)
  try simp only [Act.put, List.setIfInBounds_toArray, List.set_cons_zero, List.set_cons_succ]
  refine wpAnyH_take (i := 6) (v := ?_) (by simp only [List.getElem?_toArray, List.getElem?_cons_succ, List.getElem?_cons_zero]; rfl) (by kernel_rfl) (by kernel_rfl) (by kernel_rfl) (by intro _ _ _ h; exact h) (Or.inl ⟨by rfl, ?h6⟩) (by assumption) ?r6
  case h6 => (intro w hSw; (try dsimp only at hSw); go_simp; try with_reducible rfl)
  try simp only [Act.put, List.setIfInBounds_toArray, List.set_cons_zero, List.set_cons_succ]
  refine wpAnyH_take (i := 7) (v := undef) (by simp only [List.getElem?_toArray, List.getElem?_cons_succ, List.getElem?_cons_zero]; rfl) (by kernel_rfl) (by kernel_rfl) (by kernel_rfl) (by intro _ _ _ h; exact h) (Or.inr ⟨by rfl, rfl⟩) (by assumption) ?r7
  try simp only [Act.put, List.setIfInBounds_toArray, List.set_cons_zero, List.set_cons_succ]
  refine wpAnyH_take (i := 8) (v := undef) (by simp only [List.getElem?_toArray, List.getElem?_cons_succ, List.getElem?_cons_zero]; rfl) (by kernel_rfl) (by kernel_rfl) (by kernel_rfl) (by intro _ _ _ h; exact h) (Or.inr ⟨by rfl, rfl⟩) (by assumption) ?r8
  try simp only [Act.put, List.setIfInBounds_toArray, List.set_cons_zero, List.set_cons_succ]
  refine wpAnyH_take (i := 9) (v := undef) (by simp only [List.getElem?_toArray, List.getElem?_cons_succ, List.getElem?_cons_zero]; rfl) (by kernel_rfl) (by kernel_rfl) (by kernel_rfl) (by intro _ _ _ h; exact h) (Or.inr ⟨by rfl, rfl⟩) (by assumption) ?r9
  try simp only [Act.put, List.setIfInBounds_toArray, List.set_cons_zero, List.set_cons_succ]
  refine wpAnyH_take (i := 10) (v := ?_) (by simp only [List.getElem?_toArray, List.getElem?_cons_succ, List.getElem?_cons_zero]; rfl) (by kernel_rfl) (by kernel_rfl) (by kernel_rfl) (by intro _ _ _ h; exact h) (Or.inl ⟨by rfl, ?h10⟩) (by assumption) ?r10
  case h10 => (intro w hSw; (try dsimp only at hSw); go_simp; try with_reducible rfl)
  try simp only [Act.put, List.setIfInBounds_toArray, List.set_cons_zero, List.set_cons_succ]
  refine wpAnyH_take (i := 11) (v := ?_) (by simp only [List.getElem?_toArray, List.getElem?_cons_succ, List.getElem?_cons_zero]; rfl) (by kernel_rfl) (by kernel_rfl) (by kernel_rfl) (by intro _ _ _ h; exact h) (Or.inl ⟨by rfl, ?h11⟩) (by assumption) ?r11
  case h11 => (intro w hSw; (try dsimp only at hSw); go_simp; try with_reducible rfl)
  try simp only [Act.put, List.setIfInBounds_toArray, List.set_cons_zero, List.set_cons_succ]
  refine wpAnyH_take (i := 12) (v := ?_) (by simp only [List.getElem?_toArray, List.getElem?_cons_succ, List.getElem?_cons_zero]; rfl) (by kernel_rfl) (by kernel_rfl) (by kernel_rfl) (by intro _ _ _ h; exact h) (Or.inl ⟨by rfl, ?h12⟩) (by assumption) ?r12
  case h12 => (intro w hSw; (try dsimp only at hSw); go_simp; try with_reducible rfl)
  try simp only [Act.put, List.setIfInBounds_toArray, List.set_cons_zero, List.set_cons_succ]
  refine wpAnyH_take (i := 13) (v := ?_) (by simp only [List.getElem?_toArray, List.getElem?_cons_succ, List.getElem?_cons_zero]; rfl) (by kernel_rfl) (by kernel_rfl) (by kernel_rfl) (by intro _ _ _ h; exact h) (Or.inl ⟨by rfl, ?h13⟩) (by assumption) ?r13
  case h13 => (intro w hSw; (try dsimp only at hSw); go_simp; try with_reducible rfl)
  try simp only [Act.put, List.setIfInBounds_toArray, List.set_cons_zero, List.set_cons_succ]
  refine wpAnyH_take (i := 14) (v := ?_) (by simp only [List.getElem?_toArray, List.getElem?_cons_succ, List.getElem?_cons_zero]; rfl) (by kernel_rfl) (by kernel_rfl) (by kernel_rfl) (by intro _ _ _ h; exact h) (Or.inl ⟨by rfl, ?h14⟩) (by assumption) ?r14
  case h14 => (intro w hSw; (try dsimp only at hSw); go_simp; try with_reducible rfl)
  try simp only [Act.put, List.setIfInBounds_toArray, List.set_cons_zero, List.set_cons_succ]
  refine wpAnyH_take (i := 15) (v := ?_) (by simp only [List.getElem?_toArray, List.getElem?_cons_succ, List.getElem?_cons_zero]; rfl) (by kernel_rfl) (by kernel_rfl) (by kernel_rfl) (by intro _ _ _ h; exact h) (Or.inl ⟨by rfl, ?h15⟩) (by assumption) ?r15
  case h15 => (intro w hSw; (try dsimp only at hSw); go_simp; try with_reducible rfl)
  try simp only [Act.put, List.setIfInBounds_toArray, List.set_cons_zero, List.set_cons_succ]
  refine wpAnyH_take (i := 16) (v := ?_) (by simp only [List.getElem?_toArray, List.getElem?_cons_succ, List.getElem?_cons_zero]; rfl) (by kernel_rfl) (by kernel_rfl) (by kernel_rfl) (by intro _ _ _ h; exact h) (Or.inl ⟨by rfl, ?h16⟩) (by assumption) ?r16
  case h16 => (intro w hSw; (try dsimp only at hSw); go_simp; try with_reducible rfl)
  try simp only [Act.put, List.setIfInBounds_toArray, List.set_cons_zero, List.set_cons_succ]
  refine wpAnyH_ready (rs := [17]) (by kernel_rfl) (by simp) ?_
  refine AllReadyH.cons (by simp only [List.getElem?_toArray, List.getElem?_cons_succ, List.getElem?_cons_zero]; rfl) (fun Kr hKr => ?_) AllReadyH.nil
  go_simp
  go_wp2_with (go_at_call 34; refine (asciiOnly_yes t htz HA.out _).mono ?_; rintro e w9 ⟨rfl, rfl⟩)
  refine hKr.out _ _ ?hS17 (fun hHeld => ?hR17)
  case hS17 => (exact K _ (by (repeat (first | with_reducible exact Below.refl _ _ | with_reducible assumption | with_reducible refine below_drewN ?_ _ | with_reducible refine Below.drew ?_ | with_reducible refine below_row ?_ (by first | omega | (simp; done) | (simp; omega)) _ | with_reducible refine Below.alloc ?_ (by first | omega | (simp; done) | (simp; omega)) _ | with_reducible refine Below.setCell ?_ (by first | omega | (simp; done) | (simp; omega)) _))) (by repeat (first | with_reducible assumption | with_reducible refine Has6.set ?_ _ _ | with_reducible refine Has6.drew ?_ | with_reducible refine Has6.drewN ?_ _)) (by (repeat (first | with_reducible exact Blk.new _ _ _ | with_reducible assumption | with_reducible refine Blk.alloc ?_ _ | with_reducible refine Blk.drewN ?_ _ | with_reducible refine Blk.drew ?_ | with_reducible refine Blk.other ?_ (by first | omega | (simp; done) | (simp; omega)) _))))
  clear hKr Kr
  try simp only [Act.put, List.setIfInBounds_toArray, List.set_cons_zero, List.set_cons_succ]
  refine wpAnyH_take (i := 18) (v := ?_) (by simp only [List.getElem?_toArray, List.getElem?_cons_succ, List.getElem?_cons_zero]; rfl) (by kernel_rfl) (by kernel_rfl) (by kernel_rfl) (by intro _ _ _ h; exact h) (Or.inl ⟨by rfl, ?h18⟩) (by assumption) ?r18
  case h18 => (intro w hSw; (try dsimp only at hSw); go_simp; try with_reducible rfl)
  try simp only [Act.put, List.setIfInBounds_toArray, List.set_cons_zero, List.set_cons_succ]
  refine wpAnyH_take (i := 19) (v := ?_) (by simp only [List.getElem?_toArray, List.getElem?_cons_succ, List.getElem?_cons_zero]; rfl) (by kernel_rfl) (by kernel_rfl) (by kernel_rfl) (by intro _ _ _ h; exact h) (Or.inl ⟨by rfl, ?h19⟩) (by assumption) ?r19
  case h19 => (intro w hSw; (try dsimp only at hSw); go_simp; try with_reducible rfl)
  try simp only [Act.put, List.setIfInBounds_toArray, List.set_cons_zero, List.set_cons_succ]
  refine wpAnyH_ready (rs := [20]) (by kernel_rfl) (by simp) ?_
  refine AllReadyH.cons (by simp only [List.getElem?_toArray, List.getElem?_cons_succ, List.getElem?_cons_zero]; rfl) (fun Kr hKr => ?_) AllReadyH.nil
  go_simp
  refine hKr.out _ _ ?hS20 (fun hHeld => ?hR20)
  case hS20 => (exact K _ (by (repeat (first | with_reducible exact Below.refl _ _ | with_reducible assumption | with_reducible refine below_drewN ?_ _ | with_reducible refine Below.drew ?_ | with_reducible refine below_row ?_ (by first | omega | (simp; done) | (simp; omega)) _ | with_reducible refine Below.alloc ?_ (by first | omega | (simp; done) | (simp; omega)) _ | with_reducible refine Below.setCell ?_ (by first | omega | (simp; done) | (simp; omega)) _))) (by repeat (first | with_reducible assumption | with_reducible refine Has6.set ?_ _ _ | with_reducible refine Has6.drew ?_ | with_reducible refine Has6.drewN ?_ _)) (by (repeat (first | with_reducible exact Blk.new _ _ _ | with_reducible assumption | with_reducible refine Blk.alloc ?_ _ | with_reducible refine Blk.drewN ?_ _ | with_reducible refine Blk.drew ?_ | with_reducible refine Blk.other ?_ (by first | omega | (simp; done) | (simp; omega)) _))))
  clear hKr Kr
  try simp only [Act.put, List.setIfInBounds_toArray, List.set_cons_zero, List.set_cons_succ]
  refine wpAnyH_take (i := 21) (v := ?_) (by simp only [List.getElem?_toArray, List.getElem?_cons_succ, List.getElem?_cons_zero]; rfl) (by kernel_rfl) (by kernel_rfl) (by kernel_rfl) (by intro _ _ _ h; exact h) (Or.inl ⟨by rfl, ?h21⟩) (by assumption) ?r21
  case h21 => (intro w hSw; (try dsimp only at hSw); go_simp; try with_reducible rfl)
  try simp only [Act.put, List.setIfInBounds_toArray, List.set_cons_zero, List.set_cons_succ]
  refine wpAnyH_take (i := 22) (v := ?_) (by simp only [List.getElem?_toArray, List.getElem?_cons_succ, List.getElem?_cons_zero]; rfl) (by kernel_rfl) (by kernel_rfl) (by kernel_rfl) (by intro _ _ _ h; exact h) (Or.inl ⟨by rfl, ?h22⟩) (by assumption) ?r22
  case h22 => (intro w hSw; (try dsimp only at hSw); go_simp; try with_reducible rfl)
  try simp only [Act.put, List.setIfInBounds_toArray, List.set_cons_zero, List.set_cons_succ]
  refine wpAnyH_done (by kernel_rfl) ?_ _
  go_wp2_with fail
  obtain ⟨cs, hBc, hcs⟩ := hH
  refine bodyPost_ret (results_ctt rfl _ _ g6 29 _ _ rfl ((Blk.set6 hBc hcs _ _ _ _ _ _).drew) Tryd.underlying29 rfl (by kernel_rfl)) rfl ⟨rfl, ?_⟩
  exact (((((((hbx.setCell hgw _).setCell hgw _).setCell hgw _).setCell hgw _).setCell hgw _).setCell hgw _)).drew
theorem take_sym (c : Int) (n' : Nat) (hk : Kind c 20 n') (h8 : n' ≤ 8) (h45 : c ≠ 69) (da : Option Addr) (dn dc : Nat) (a : Option Addr) (n cap : Nat) (l : List Int) (lv : Int) (w0 : World) (hv : Vw w0 a n cap l) (hkn : n' ≤ n)
    (u : Nat) (hu : beN (l.take n') = u) (hun : u ≤ n - n') (t : ByteArray) (ht : strOfNums ((l.drop n').take u) = t) (htz : t.size < 9223372036854775807) (hA : Asc t) :
    ∃ a', Vw w0 a' (n - n' - u) (cap - n' - u) ((l.drop n').drop u) ∧ ∀ w, Below w0.heap.size w0 w → Calls Tryd.prog 42 #[ct (.slice da dn dc) c, .slice a n cap, .int .i64 lv] w fun e w' => e = .returned (got (av 20 0 t nilS 0 (.slice da dn dc)) a' (n - n' - u) (cap - n' - u)) ∧ Below w.heap.size w w' :=
  take_symk 20 rfl c n' hk h8 h45 da dn dc a n cap l lv w0 hv hkn u hu hun t ht htz hA
end Go.Proofs.YtkbfppjniaejnaaDoor
