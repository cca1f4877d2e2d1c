/- laws.inSet. -/
import Derived.Test.YtokjgloefafdpaaDoorInS
import Derived.Test.YtokjgloefafdpaaDoorRd
import Derived.ArgAppend
import Derived.Deep.RegionLawGrows
namespace Go.Proofs.YtokjgloefafdpaaDoor
open Go.RowKit
set_option linter.unusedVariables false
set_option linter.unusedSimpArgs false

theorem slice_ii {P : Program} (T E : TypeId) (hT : P.underlying T = some (.slice E)) (hE : ∀ w : World, (sizeOf E).run P w = .ok 1 w) (b n c k : Nat) (hk : k ≤ n) (hc : n ≤ c) (w' : World) :
    (Instr.slice T (.slice (some ⟨b, 0, none⟩) n c) none (some (.int .i64 k)) (some (.int .i64 k))).run P w' = .ok (.slice (some ⟨b, 0, none⟩) k k) w' := by
  have h0 := hE w'
  have h1 := run_sliceBound (P := P) w' .i64 (k : Int) c .slice3Acap (by omega) (by omega)
  have h2 := run_sliceBound (P := P) w' .i64 (k : Int) k .slice3B (by omega) (by omega)
  have h3 : k ≠ 0 → ¬ k = 0 := fun h => h
  simp [Instr.slice, Instr.sliceBounds, run_underlying hT, h1, h2, h0, Sem.run_bind, Result.andThen, Addr.add]

theorem slice_fr {P : Program} (T E : TypeId) (hT : P.underlying T = some (.slice E)) (hE : ∀ w : World, (sizeOf E).run P w = .ok 1 w) (b n c k : Nat) (hk : k ≤ n) (hc : n ≤ c) :
    ∃ a', (∀ w', (Instr.slice T (.slice (some ⟨b, 0, none⟩) n c) (some (.int .i64 k)) none none).run P w' = .ok (.slice a' (n - k) (c - k)) w') ∧ a' = some ⟨b, if c = k then 0 else k, none⟩ := by
  refine ⟨if c = k then some ⟨b, 0, none⟩ else (some ⟨b, 0, none⟩ : Option Addr).map (·.add k), fun w' => ?_, ?_⟩
  · have h0 := hE w'
    have h1 := run_sliceBound (P := P) w' .i64 (k : Int) n .sliceB (by omega) (by omega)
    simp [Instr.slice, Instr.sliceBounds, run_underlying hT, h1, h0, Sem.run_bind, Result.andThen]
  · by_cases h : c = k
    · simp [h]
    · by_cases h2 : k = 0 <;> simp [h, h2, Addr.add]

/-- 'append([]T{x}, out[i:]...)'. -/
theorem step_inner {P : Program} {W : World} {ops : Array Oper} {o : Oper} {act : Act} {K : Act → World → Prop} {Q : Exit → Act → World → Prop} {X : Prop} (hgd : o.guard = none) (s x : Operand) (T E : TypeId) (z : Value) (by_ : Nat)
    (ho : o.op = .call { callee := .builtin .append, args := #[s, x], argTypes := #[T, T] })
    (hT : P.underlying T = some (.slice E)) (i : TypeInfo) (hi : P.info? E = some i) (hz : i.zero = some z) (hs1 : i.size = 1) (hb1 : i.bytes = by_) (hz1 : z.cells.size = 1) (hby : by_ ≤ 64)
    (g : Nat) (v : Value) (hv1 : v.oneCell' = true) (hs : act.eval s = .slice (some ⟨g, 0, none⟩) 1 1) (hb : Blk W g E #[v])
    (b2 o2 m c2 : Nat) (news : List Value) (hx : act.eval x = .slice (some ⟨b2, o2, none⟩) m c2) (hn : news.length = m) (hc : ∀ j u, news[j]? = some u → W.cell? ⟨b2, o2 + j, none⟩ = some u) (h1c : ∀ u ∈ news, u.oneCell' = true) (hsz : m ≤ 1000)
    (h : ∀ g' c' w', w'.ownsRow g E 1 (.slice (some ⟨g', 0, none⟩) (1 + m) c') (1 + m) (v :: news) → W.grownBy w' (some g) → K (act.put o.dst (.slice (some ⟨g', 0, none⟩) (1 + m) c')) w') :
    if Region.wanted o (yielded ops act.tmps) = true then Oper.wp P o act W K Q else X := by
  have hw : Region.wanted o (yielded ops act.tmps) = true := by simp [Region.wanted, hgd]
  rw [if_pos hw]
  have hown : W.ownsRow g E 1 (.slice (some ⟨g, 0, none⟩) 1 1) 1 [v] := ⟨rfl, .inr ⟨g, 1, #[v], rfl, Nat.le_refl _, hb, Nat.le_refl _, by simp [maxLen], rfl, rfl⟩⟩
  have hbb : (1 + m) * by_ ≤ 1001 * 64 := Nat.mul_le_mul (by omega) hby
  obtain ⟨v', w', hrun, r1, r2, r3⟩ := run_append_own (P := P) W g T o.type E i z 1 by_ hT hi hz hs1 hb1 hz1 (by omega) _ 1 [v] hown ⟨b2, o2, none⟩ m c2 news (by simp [hn]) (fun j u hj => by rw [Addr.add_lit]; exact hc j u hj) h1c (by simp only [maxLen]; omega) (by omega) (by have := hb.lt; omega)
  rcases r1.2 with ⟨h1, _⟩ | ⟨g', cap, cur, hv, _⟩
  · have := (r3.1 h1).1; cases this
  · subst hv
    unfold Oper.wp
    simp [execOp, ho, resolve, invoke, builtin, hs, hx, hrun, Result.andThen]
    exact h g' cap w' r1 r2

/-- 'append(out[:i:i], ..)'. -/
theorem step_outer {P : Program} {W : World} {ops : Array Oper} {o : Oper} {act : Act} {K : Act → World → Prop} {Q : Exit → Act → World → Prop} {X : Prop} (hgd : o.guard = none) (s x : Operand) (T E : TypeId) (z : Value) (by_ : Nat)
    (ho : o.op = .call { callee := .builtin .append, args := #[s, x], argTypes := #[T, T] })
    (hT : P.underlying T = some (.slice E)) (i : TypeInfo) (hi : P.info? E = some i) (hz : i.zero = some z) (hs1 : i.size = 1) (hb1 : i.bytes = by_) (hz1 : z.cells.size = 1) (hby : by_ ≤ 64)
    (b k : Nat) (olds : List Value) (hs : act.eval s = .slice (some ⟨b, 0, none⟩) k k) (hlo : olds.length = k) (holds : ∀ j u, olds[j]? = some u → W.cell? ⟨b, j, none⟩ = some u)
    (B g m c2 : Nat) (news : List Value) (hx : act.eval x = .slice (some ⟨g, 0, none⟩) m c2) (hown : W.ownsRow B E 1 (.slice (some ⟨g, 0, none⟩) m c2) m news) (hm : 1 ≤ m) (h1c : ∀ u ∈ news, u.oneCell' = true) (hsz : k + m ≤ 1000)
    (h : ∀ g' c' w', w'.ownsRow W.heap.size E 1 (.slice (some ⟨g', 0, none⟩) (k + m) c') (k + m) (olds ++ news) → W.grownBy w' none → K (act.put o.dst (.slice (some ⟨g', 0, none⟩) (k + m) c')) w') :
    if Region.wanted o (yielded ops act.tmps) = true then Oper.wp P o act W K Q else X := by
  have hbb : (k + m) * by_ ≤ 1000 * 64 := Nat.mul_le_mul (by omega) hby
  refine step_append_grows hgd s x T ho E i z 1 by_ hT hi hz hs1 hb1 hz1 (by omega) (some ⟨b, 0, none⟩) k k olds hs (fun h => by cases h) (by simp [hlo]) (fun b' hb' j u hj => ?_) ⟨g, 0, none⟩ m c2 news hx (by simpa using hown.1) (fun j u hj => hown.cells (g := g) rfl j u hj) h1c (by omega) (by simp only [maxLen]; omega) (by omega) ?_
  · injection hb' with hb'
    subst hb'
    rw [Addr.add_lit, Nat.zero_add]
    exact holds j u hj
  · intro v' w' r1 r2
    rcases r1.2 with ⟨_, h1⟩ | ⟨g', cap, cur, hv, _⟩
    · omega
    · subst hv
      exact h g' cap w' r1 r2

theorem lit_owns {W : World} {g E : Nat} {v : Value} (hb : Blk W g E #[v]) : W.ownsRow g E 1 (.slice (some ⟨g, 0, none⟩) 1 1) 1 [v] := ⟨rfl, .inr ⟨g, 1, #[v], rfl, Nat.le_refl _, hb, Nat.le_refl _, by simp [maxLen], rfl, rfl⟩⟩
theorem owns_mono {w : World} {B B' e size n : Nat} {v : Value} {xs : List Value} (h : w.ownsRow B e size v n xs) (hB : B' ≤ B) : w.ownsRow B' e size v n xs := by
  refine ⟨h.1, ?_⟩
  rcases h.2 with h1 | ⟨g, cap, cur, hv, hg, r⟩
  · exact .inl h1
  · exact .inr ⟨g, cap, cur, hv, Nat.le_trans hB hg, r⟩
theorem cell_b {w w' : World} (hb : Below w.heap.size w w') {b o : Nat} {v : Value} (h : w.cell? ⟨b, o, none⟩ = some v) : w'.cell? ⟨b, o, none⟩ = some v := by
  have := World.block_lt_of_cell? w _ h
  rw [hb.cell (p := ⟨b, o, none⟩) this]; exact h
theorem how_lt {w : World} {B E n c n' ob : Nat} {xs : List Value} (h : w.ownsRow B E 1 (.slice (some ⟨ob, 0, none⟩) n c) n' xs) : ob < w.heap.size := lt_of_owns h _ rfl
theorem belowS_own {g : Nat} {a w w' : World} (h : Below a.heap.size a w) (hg : w.grownBy w' (some g)) (hB : a.heap.size ≤ g) : Below a.heap.size a w' := h.grown hg h.size (fun k hk => by injection hk with hk; omega)
theorem belowS_none {a w w' : World} (h : Below a.heap.size a w) (hg : w.grownBy w' none) : Below a.heap.size a w' := h.grown hg h.size (fun k hk => by cases hk)

/-- The set of a list, in a row. -/
def InSet (F : FuncId) (k : IntKind) : Prop := ∀ (l : List Int) (a : Option Addr) (c : Nat) (w : World), l.length ≤ 100 → Rd w a (l.map (Value.int k)) →
  Calls Tryd.prog F #[.slice a l.length c] w fun e w' => ∃ a' c', e = .returned (.slice a' (inS l).length c') ∧ Rd w' a' ((inS l).map (Value.int k)) ∧ Below w.heap.size w w'
/-- The same, and the row lies in a new block. -/
def InSetO (F : FuncId) (k : IntKind) : Prop := ∀ (l : List Int) (a : Option Addr) (c : Nat) (w : World), l.length ≤ 100 → Rd w a (l.map (Value.int k)) →
  Calls Tryd.prog F #[.slice a l.length c] w fun e w' => ∃ a' c', e = .returned (.slice a' (inS l).length c') ∧ Rd w' a' ((inS l).map (Value.int k)) ∧ Below w.heap.size w w' ∧ ∀ x, a' = some x → w.heap.size ≤ x.block
theorem InSetO.weak {F : FuncId} {k : IntKind} (h : InSetO F k) : InSet F k := fun l a c w hl hr => (h l a c w hl hr).mono (fun e w' ⟨a', c', h1, h2, h3, _⟩ => ⟨a', c', h1, h2, h3⟩)



set_option maxRecDepth 100000 in
set_option maxHeartbeats 4000000 in
theorem inSetO_u16 : InSetO 25 .u16 := by
  intro l a c w hl hr
  obtain ⟨n, hn⟩ : ∃ n, n = l.length := ⟨_, rfl⟩
  have hinfo : (Tryd.prog.info? 53).map (fun i => (i.zero, i.size, i.bytes)) = some (some (.int .u16 0), 1, 2) := by kernel_rfl
  have hsz1 : ∀ w : World, (sizeOf 53).run Tryd.prog w = .ok 1 w := fun w => by kernel_rfl
  obtain ⟨i0, hi0, hz0, hs0, hb0⟩ := info_parts hinfo
  rw [← hn] at hl ⊢
  have HN := Lib.hid hn
  have HR := Lib.hid hr
  have HS1 := Lib.hid hsz1
  have HZ := Lib.hid (And.intro hi0 (And.intro hz0 (And.intro hs0 hb0)))
  clear hn hr hsz1 hi0 hz0 hs0 hb0 hinfo
  go_enter Tryd.func25, Tryd.ntmps25
  go_wp2_with fail
  go_loopw [3, 10] (fun o i wr => ∃ j : Nat, j ≤ n ∧ i = .int .i64 j ∧ ∃ ob on oc, o = .slice (some ⟨ob, 0, none⟩) on oc ∧ on ≤ j ∧ Hid (on = (inS (l.take j)).length) ∧ Hid (wr.ownsRow w.heap.size 53 1 (.slice (some ⟨ob, 0, none⟩) on oc) on ((inS (l.take j)).map (Value.int .u16))) ∧ Hid (Below w.heap.size w wr)) (fun _ i _ => n - (intOf i).toNat)
  case atStart => exact ⟨0, Nat.zero_le _, rfl, w.heap.size, 0, 0, rfl, Nat.zero_le _, Lib.hid (by simp [inS]), Lib.hid (by simpa [inS] using World.ownsRow_made w (e := 53) (size := 1) #[] 0 (Nat.le_refl _) (Nat.zero_le _) rfl), Lib.hid ((Below.refl _ _).alloc (Nat.le_refl _) _)⟩
  case round =>
    obtain ⟨j, hj, rfl, ob, on, oc, rfl, hoj, hon, how, hbr⟩ := hrel
    by_cases hlt : j < n
    · have hli : (j : Int) < n := by omega
      have hjl : j < l.length := by have := HN.out; omega
      obtain ⟨out, hout⟩ : ∃ out, out = inS (l.take j) := ⟨_, rfl⟩
      have how' := how.out
      have hon' := hon.out
      rw [← hout] at how' hon'
      have HON := Lib.hid hon'
      have HOUT := Lib.hid hout
      have HOW := Lib.hid how'
      clear how hon hout hon' how'
      obtain ⟨x, hx⟩ : ∃ x, x = l.getD j 0 := ⟨_, rfl⟩
      have HX := Lib.hid hx
      clear hx
      have hrd := HR.out.below hbr.out (Nat.le_refl _)
      obtain ⟨lb, lo, rfl, hcl⟩ := hrd.at_ (by simp; omega)
      have hcj : wr.cell? ⟨lb, lo + j, none⟩ = some (.int .u16 x) := by
        have := hcl j (by simp; omega)
        rw [this, HX.out]
        simp [List.getD, List.getElem?_eq_getElem hjl]
      have hoc : on ≤ oc := by
        rcases HOW.out.2 with ⟨h, _⟩ | ⟨g, cap, cur, hv, _, _, h, _⟩
        · cases h
        · injection hv with _ _ h3; omega
      have hrow : ∀ i, i < on → wr.cell? ⟨ob, i, none⟩ = some ((out.map (Value.int .u16)).getD i undef) := fun i hi => by
        obtain ⟨b2, o2, e2, hc2⟩ := (Rd.of_owns HOW.out).at_ (by have := HON.out; simp; omega)
        injection e2 with e2
        injection e2 with e3 e4
        subst e3
        subst e4
        have := hc2 i (by have := HON.out; simp; omega)
        rw [Nat.zero_add] at this
        exact this
      have hcell : ∀ i, i < on → wr.cell? ⟨ob, i, none⟩ = some (.int .u16 (out.getD i 0)) := fun i hi => by
        rw [hrow i hi]
        have := HON.out
        simp [List.getD, List.getElem?_eq_getElem (show i < out.length by omega)]
      have HC := Lib.hid hcell
      have hBs := hbr.out.size
      clear hrow hcell hcl hrd
      go_wp2_with fail
      go_loopw [6] (fun i wi => ∃ t : Nat, t ≤ on ∧ i = .int .i64 t ∧ Hid (∀ z, z < t → out.getD z 0 < x) ∧ wi = wr) (fun i _ => on - (intOf i).toNat)
      case atStart => exact ⟨0, Nat.zero_le _, rfl, Lib.hid (fun z hz => absurd hz (by omega)), rfl⟩
      case round =>
        obtain ⟨t, ht, rfl, hlow, rfl⟩ := hrel
        by_cases hto : t < on
        · have hti : (t : Int) < on := by omega
          have hct := HC.out t hto
          obtain ⟨y, hy⟩ : ∃ y, y = out.getD t 0 := ⟨_, rfl⟩
          rw [← hy] at hct
          have HY := Lib.hid hy
          clear hy
          by_cases hyx : y < x
          · go_wp2_with fail
            have hw1 : IntKind.i64.wrap ((t : Int) + 1) = ((t + 1 : Nat) : Int) := by rw [IntKind.wrap_i64]; omega
            go_roundw
            case rel =>
              refine ⟨t + 1, by omega, congrArg (Value.int .i64) (by omega), Lib.hid (fun z hz => ?_), by first | trivial | rfl⟩
              by_cases hzt : z < t
              · exact hlow.out z hzt
              · obtain rfl : z = t := by omega
                rw [← HY.out]; exact hyx
            case measure => first | omega | (rw [hw1]; simp [intOf]; omega) | (simp [intOf]; omega)
          · by_cases hxy : y = x
            · subst hxy
              go_wp2_with fail
              have hw1 : IntKind.i64.wrap ((j : Int) + 1) = ((j + 1 : Nat) : Int) := by rw [IntKind.wrap_i64]; omega
              have hnext : inS (l.take (j + 1)) = out := by
                rw [List.take_add_one, List.getElem?_eq_getElem hjl, Option.toList_some, inS_snoc, ← HOUT.out]
                have e1 : l[j] = y := by rw [HX.out]; simp [List.getD, List.getElem?_eq_getElem hjl]
                rw [e1, insS_at y out t (by have := HON.out; omega) hlow.out (fun _ => by rw [← HY.out]; omega), if_pos ⟨by have := HON.out; omega, HY.out.symm⟩]
              go_roundw
              case rel => exact ⟨j + 1, by omega, congrArg (Value.int .i64) (by omega), ob, on, oc, rfl, by omega, Lib.hid (by rw [hnext]; exact HON.out), Lib.hid (by rw [hnext]; exact HOW.out), hbr⟩
              case measure => first | omega | (rw [hw1]; simp [intOf]; omega) | (simp [intOf]; omega)
            · have hnext : inS (l.take (j + 1)) = out.take t ++ x :: out.drop t := by
                rw [List.take_add_one, List.getElem?_eq_getElem hjl, Option.toList_some, inS_snoc, ← HOUT.out]
                have e1 : l[j] = x := by rw [HX.out]; simp [List.getD, List.getElem?_eq_getElem hjl]
                rw [e1, insS_at x out t (by have := HON.out; omega) hlow.out (fun _ => by rw [← HY.out]; exact hyx), if_neg (fun h => hxy (HY.out.trans h.2))]
              have HNX := Lib.hid hnext
              clear hnext
              have hs1 := slice_ii 50 53 Tryd.underlying50 HS1.out ob on oc t ht hoc
              obtain ⟨a2, hs2, ha2⟩ := slice_fr 50 53 Tryd.underlying50 HS1.out ob on oc t ht hoc
              subst ha2
              have hnl : out.length = on := HON.out.symm
              have hcx : ∀ z u, ((out.drop t).map (Value.int .u16))[z]? = some u → wr.cell? ⟨ob, (if oc = t then 0 else t) + z, none⟩ = some u := by
                intro z u hz
                simp only [List.getElem?_map, List.getElem?_drop, Option.map_eq_some_iff] at hz
                obtain ⟨y, hy, rfl⟩ := hz
                have hlt2 : t + z < out.length := (List.getElem?_eq_some_iff.1 hy).1
                rw [if_neg (by omega), HC.out (t + z) (by omega)]
                simp [List.getD, hy]
              have hcy : ∀ z u, ((out.take t).map (Value.int .u16))[z]? = some u → wr.cell? ⟨ob, z, none⟩ = some u := by
                intro z u hz
                simp only [List.getElem?_map, Option.map_eq_some_iff] at hz
                obtain ⟨y, hy, rfl⟩ := hz
                have hlt2 : z < t := by have := (List.getElem?_eq_some_iff.1 hy).1; simp at this; omega
                rw [List.getElem?_take_of_lt hlt2] at hy
                rw [HC.out z (by omega)]
                simp [List.getD, hy]
              have HCX := Lib.hid hcx
              have HCY := Lib.hid hcy
              have HNL := Lib.hid hnl
              clear hcx hcy hnl
              have hobl : ob < wr.heap.size := (how_lt HOW.out)
              go_wp2_with fail
              go_region_law (first
                | (refine step_inner (by rfl) (.tmp 45) (.tmp 48) 50 53 (.int .u16 0) 2 (by rfl) Tryd.underlying50 i0 HZ.out.1 HZ.out.2.1 HZ.out.2.2.1 HZ.out.2.2.2 rfl (by omega) wr.heap.size (.int .u16 x) rfl (by rfl) (by (repeat (first | with_reducible exact Blk.new _ _ _ | with_reducible assumption | with_reducible refine Blk.newAt (by first | rfl | (simp; done) | (simp; omega)) _ _ | with_reducible refine Blk.alloc ?_ _ | with_reducible refine Blk.drewN ?_ _ | with_reducible refine Blk.drew ?_ | with_reducible refine Blk.other ?_ (by first | omega | (simp; done) | (simp; omega)) _))) ob (if oc = t then 0 else t) (on - t) (oc - t) _ (by rfl) (by have := HNL.out; simp; omega) (fun z u hz => cell_b (by (repeat (first | with_reducible exact Below.refl _ _ | with_reducible assumption | with_reducible refine below_drewN ?_ _ | with_reducible refine Below.drew ?_ | with_reducible refine below_row ?_ (by first | omega | (simp; done) | (simp; omega)) _ | with_reducible refine Below.alloc ?_ (by first | omega | (simp; done) | (simp; omega)) _ | with_reducible refine Below.setCell ?_ (by first | omega | (simp; done) | (simp; omega)) _))) (HCX.out z u hz)) (by intro u hu; obtain ⟨_, _, rfl⟩ := List.mem_map.1 hu; rfl) (by omega) ?_; intro g1 c1 w1 ho1 hg1; have hb1 : Below wr.heap.size wr w1 := belowS_own (by (repeat (first | with_reducible exact Below.refl _ _ | with_reducible assumption | with_reducible refine below_drewN ?_ _ | with_reducible refine Below.drew ?_ | with_reducible refine below_row ?_ (by first | omega | (simp; done) | (simp; omega)) _ | with_reducible refine Below.alloc ?_ (by first | omega | (simp; done) | (simp; omega)) _ | with_reducible refine Below.setCell ?_ (by first | omega | (simp; done) | (simp; omega)) _))) hg1 (by (first | omega | (simp; done) | (simp; omega))))
                | (refine step_outer (by rfl) (.tmp 43) (.tmp 49) 50 53 (.int .u16 0) 2 (by rfl) Tryd.underlying50 i0 HZ.out.1 HZ.out.2.1 HZ.out.2.2.1 HZ.out.2.2.2 rfl (by omega) ob t _ (by rfl) (by have := HNL.out; simp; omega) (fun z u hz => cell_b hb1 (HCY.out z u hz)) _ g1 (1 + (on - t)) c1 _ (by rfl) ho1 (by omega) (by intro u hu; rcases List.mem_cons.1 hu with rfl | hu; rfl; obtain ⟨_, _, rfl⟩ := List.mem_map.1 hu; rfl) (by omega) ?_; intro g2 c2 w2 ho2 hg2; have hb2 : Below wr.heap.size wr w2 := belowS_none hb1 hg2))
              have hbs1 := hb1.size
              clear ho1 hg1 hb1
              have hlen : (inS (l.take (j + 1))).length = t + (1 + (on - t)) := by rw [HNX.out]; have := HNL.out; simp; omega
              have hrow2 : w2.ownsRow w.heap.size 53 1 (.slice (some ⟨g2, 0, none⟩) (t + (1 + (on - t))) c2) (t + (1 + (on - t))) ((inS (l.take (j + 1))).map (Value.int .u16)) := by
                rw [HNX.out, List.map_append, List.map_cons]
                exact owns_mono ho2 (by first | omega | (simp; omega))
              have HO := Lib.hid (And.intro hlen hrow2)
              clear ho2 hg2 hlen hrow2
              have HB2 := Lib.hid (hbr.out.trans (hb2.mono hBs))
              clear hb2
              go_wp2_with fail
              go_roundw
              case rel => exact ⟨j + 1, by omega, congrArg (Value.int .i64) (by omega), g2, _, c2, rfl, by omega, Lib.hid HO.out.1.symm, Lib.hid HO.out.2, HB2⟩
              case measure => first | omega | (simp [intOf]; omega)
        · obtain rfl : t = on := by omega
          have hnext : inS (l.take (j + 1)) = out.take t ++ x :: out.drop t := by
            rw [List.take_add_one, List.getElem?_eq_getElem hjl, Option.toList_some, inS_snoc, ← HOUT.out]
            have e1 : l[j] = x := by rw [HX.out]; simp [List.getD, List.getElem?_eq_getElem hjl]
            rw [e1, insS_at x out t (by have := HON.out; omega) hlow.out (fun h => absurd h (by have := HON.out; omega)), if_neg (fun h => absurd h.1 (by have := HON.out; omega))]
          have HNX := Lib.hid hnext
          clear hnext
          have hs1 := slice_ii 50 53 Tryd.underlying50 HS1.out ob t oc t (Nat.le_refl _) hoc
          obtain ⟨a2, hs2, ha2⟩ := slice_fr 50 53 Tryd.underlying50 HS1.out ob t oc t (Nat.le_refl _) hoc
          subst ha2
          have hnl : out.length = t := HON.out.symm
          have hcy : ∀ z u, ((out.take t).map (Value.int .u16))[z]? = some u → wr.cell? ⟨ob, z, none⟩ = some u := by
            intro z u hz
            simp only [List.getElem?_map, Option.map_eq_some_iff] at hz
            obtain ⟨y, hy, rfl⟩ := hz
            have hlt2 : z < t := by have := (List.getElem?_eq_some_iff.1 hy).1; simp at this; omega
            rw [List.getElem?_take_of_lt hlt2] at hy
            rw [HC.out z (by omega)]
            simp [List.getD, hy]
          have HCY := Lib.hid hcy
          have HNL := Lib.hid hnl
          clear hcy hnl
          have hobl : ob < wr.heap.size := (how_lt HOW.out)
          go_wp2_with fail
          go_region_law (first
            | (refine step_outer (by rfl) (.tmp 43) (.tmp 49) 50 53 (.int .u16 0) 2 (by rfl) Tryd.underlying50 i0 HZ.out.1 HZ.out.2.1 HZ.out.2.2.1 HZ.out.2.2.2 rfl (by omega) ob t _ (by rfl) (by have := HNL.out; simp; omega) (fun z u hz => cell_b (by (repeat (first | with_reducible exact Below.refl _ _ | with_reducible assumption | with_reducible refine below_drewN ?_ _ | with_reducible refine Below.drew ?_ | with_reducible refine below_row ?_ (by first | omega | (simp; done) | (simp; omega)) _ | with_reducible refine Below.alloc ?_ (by first | omega | (simp; done) | (simp; omega)) _ | with_reducible refine Below.setCell ?_ (by first | omega | (simp; done) | (simp; omega)) _))) (HCY.out z u hz)) wr.heap.size wr.heap.size 1 1 [.int .u16 x] (by rfl) (lit_owns (by (repeat (first | with_reducible exact Blk.new _ _ _ | with_reducible assumption | with_reducible refine Blk.newAt (by first | rfl | (simp; done) | (simp; omega)) _ _ | with_reducible refine Blk.alloc ?_ _ | with_reducible refine Blk.drewN ?_ _ | with_reducible refine Blk.drew ?_ | with_reducible refine Blk.other ?_ (by first | omega | (simp; done) | (simp; omega)) _)))) (by omega) (by intro u hu; simp at hu; subst hu; rfl) (by omega) ?_; intro g2 c2 w2 ho2 hg2; have hb2 : Below wr.heap.size wr w2 := belowS_none (by (repeat (first | with_reducible exact Below.refl _ _ | with_reducible assumption | with_reducible refine below_drewN ?_ _ | with_reducible refine Below.drew ?_ | with_reducible refine below_row ?_ (by first | omega | (simp; done) | (simp; omega)) _ | with_reducible refine Below.alloc ?_ (by first | omega | (simp; done) | (simp; omega)) _ | with_reducible refine Below.setCell ?_ (by first | omega | (simp; done) | (simp; omega)) _))) hg2) | fail)
          have hlen : (inS (l.take (j + 1))).length = t + 1 := by rw [HNX.out]; have := HNL.out; simp; omega
          have hrow2 : w2.ownsRow w.heap.size 53 1 (.slice (some ⟨g2, 0, none⟩) (t + 1) c2) (t + 1) ((inS (l.take (j + 1))).map (Value.int .u16)) := by
            rw [HNX.out, List.map_append, List.map_cons, List.drop_eq_nil_of_le (by have := HNL.out; omega)]
            exact owns_mono ho2 (by first | omega | (simp; omega))
          have HO := Lib.hid (And.intro hlen hrow2)
          clear ho2 hg2 hlen hrow2
          have HB2 := Lib.hid (hbr.out.trans (hb2.mono hBs))
          clear hb2
          go_wp2_with fail
          go_roundw
          case rel => exact ⟨j + 1, by omega, congrArg (Value.int .i64) (by omega), g2, _, c2, rfl, by omega, Lib.hid HO.out.1.symm, Lib.hid HO.out.2, HB2⟩
          case measure => first | omega | (simp [intOf]; omega)
    · obtain rfl : j = n := by omega
      go_wp2_with fail
      go_ret
      have e1 : l.take j = l := by rw [HN.out]; simp
      have h1 := hon.out
      have h2 := how.out
      rw [e1] at h1 h2
      subst h1
      exact ⟨_, _, rfl, Rd.of_owns h2, hbr.out, fun x hx => ge_of_owns h2 x hx⟩
theorem inSet_u16 : InSet 25 .u16 := inSetO_u16.weak

set_option maxRecDepth 100000 in
set_option maxHeartbeats 4000000 in
theorem inSetO_u64 : InSetO 22 .u64 := by
  intro l a c w hl hr
  obtain ⟨n, hn⟩ : ∃ n, n = l.length := ⟨_, rfl⟩
  have hinfo : (Tryd.prog.info? 26).map (fun i => (i.zero, i.size, i.bytes)) = some (some (.int .u64 0), 1, 8) := by kernel_rfl
  have hsz1 : ∀ w : World, (sizeOf 26).run Tryd.prog w = .ok 1 w := fun w => by kernel_rfl
  obtain ⟨i0, hi0, hz0, hs0, hb0⟩ := info_parts hinfo
  rw [← hn] at hl ⊢
  have HN := Lib.hid hn
  have HR := Lib.hid hr
  have HS1 := Lib.hid hsz1
  have HZ := Lib.hid (And.intro hi0 (And.intro hz0 (And.intro hs0 hb0)))
  clear hn hr hsz1 hi0 hz0 hs0 hb0 hinfo
  go_enter Tryd.func22, Tryd.ntmps22
  go_wp2_with fail
  go_loopw [3, 10] (fun o i wr => ∃ j : Nat, j ≤ n ∧ i = .int .i64 j ∧ ∃ ob on oc, o = .slice (some ⟨ob, 0, none⟩) on oc ∧ on ≤ j ∧ Hid (on = (inS (l.take j)).length) ∧ Hid (wr.ownsRow w.heap.size 26 1 (.slice (some ⟨ob, 0, none⟩) on oc) on ((inS (l.take j)).map (Value.int .u64))) ∧ Hid (Below w.heap.size w wr)) (fun _ i _ => n - (intOf i).toNat)
  case atStart => exact ⟨0, Nat.zero_le _, rfl, w.heap.size, 0, 0, rfl, Nat.zero_le _, Lib.hid (by simp [inS]), Lib.hid (by simpa [inS] using World.ownsRow_made w (e := 26) (size := 1) #[] 0 (Nat.le_refl _) (Nat.zero_le _) rfl), Lib.hid ((Below.refl _ _).alloc (Nat.le_refl _) _)⟩
  case round =>
    obtain ⟨j, hj, rfl, ob, on, oc, rfl, hoj, hon, how, hbr⟩ := hrel
    by_cases hlt : j < n
    · have hli : (j : Int) < n := by omega
      have hjl : j < l.length := by have := HN.out; omega
      obtain ⟨out, hout⟩ : ∃ out, out = inS (l.take j) := ⟨_, rfl⟩
      have how' := how.out
      have hon' := hon.out
      rw [← hout] at how' hon'
      have HON := Lib.hid hon'
      have HOUT := Lib.hid hout
      have HOW := Lib.hid how'
      clear how hon hout hon' how'
      obtain ⟨x, hx⟩ : ∃ x, x = l.getD j 0 := ⟨_, rfl⟩
      have HX := Lib.hid hx
      clear hx
      have hrd := HR.out.below hbr.out (Nat.le_refl _)
      obtain ⟨lb, lo, rfl, hcl⟩ := hrd.at_ (by simp; omega)
      have hcj : wr.cell? ⟨lb, lo + j, none⟩ = some (.int .u64 x) := by
        have := hcl j (by simp; omega)
        rw [this, HX.out]
        simp [List.getD, List.getElem?_eq_getElem hjl]
      have hoc : on ≤ oc := by
        rcases HOW.out.2 with ⟨h, _⟩ | ⟨g, cap, cur, hv, _, _, h, _⟩
        · cases h
        · injection hv with _ _ h3; omega
      have hrow : ∀ i, i < on → wr.cell? ⟨ob, i, none⟩ = some ((out.map (Value.int .u64)).getD i undef) := fun i hi => by
        obtain ⟨b2, o2, e2, hc2⟩ := (Rd.of_owns HOW.out).at_ (by have := HON.out; simp; omega)
        injection e2 with e2
        injection e2 with e3 e4
        subst e3
        subst e4
        have := hc2 i (by have := HON.out; simp; omega)
        rw [Nat.zero_add] at this
        exact this
      have hcell : ∀ i, i < on → wr.cell? ⟨ob, i, none⟩ = some (.int .u64 (out.getD i 0)) := fun i hi => by
        rw [hrow i hi]
        have := HON.out
        simp [List.getD, List.getElem?_eq_getElem (show i < out.length by omega)]
      have HC := Lib.hid hcell
      have hBs := hbr.out.size
      clear hrow hcell hcl hrd
      go_wp2_with fail
      go_loopw [6] (fun i wi => ∃ t : Nat, t ≤ on ∧ i = .int .i64 t ∧ Hid (∀ z, z < t → out.getD z 0 < x) ∧ wi = wr) (fun i _ => on - (intOf i).toNat)
      case atStart => exact ⟨0, Nat.zero_le _, rfl, Lib.hid (fun z hz => absurd hz (by omega)), rfl⟩
      case round =>
        obtain ⟨t, ht, rfl, hlow, rfl⟩ := hrel
        by_cases hto : t < on
        · have hti : (t : Int) < on := by omega
          have hct := HC.out t hto
          obtain ⟨y, hy⟩ : ∃ y, y = out.getD t 0 := ⟨_, rfl⟩
          rw [← hy] at hct
          have HY := Lib.hid hy
          clear hy
          by_cases hyx : y < x
          · go_wp2_with fail
            have hw1 : IntKind.i64.wrap ((t : Int) + 1) = ((t + 1 : Nat) : Int) := by rw [IntKind.wrap_i64]; omega
            go_roundw
            case rel =>
              refine ⟨t + 1, by omega, congrArg (Value.int .i64) (by omega), Lib.hid (fun z hz => ?_), by first | trivial | rfl⟩
              by_cases hzt : z < t
              · exact hlow.out z hzt
              · obtain rfl : z = t := by omega
                rw [← HY.out]; exact hyx
            case measure => first | omega | (rw [hw1]; simp [intOf]; omega) | (simp [intOf]; omega)
          · by_cases hxy : y = x
            · subst hxy
              go_wp2_with fail
              have hw1 : IntKind.i64.wrap ((j : Int) + 1) = ((j + 1 : Nat) : Int) := by rw [IntKind.wrap_i64]; omega
              have hnext : inS (l.take (j + 1)) = out := by
                rw [List.take_add_one, List.getElem?_eq_getElem hjl, Option.toList_some, inS_snoc, ← HOUT.out]
                have e1 : l[j] = y := by rw [HX.out]; simp [List.getD, List.getElem?_eq_getElem hjl]
                rw [e1, insS_at y out t (by have := HON.out; omega) hlow.out (fun _ => by rw [← HY.out]; omega), if_pos ⟨by have := HON.out; omega, HY.out.symm⟩]
              go_roundw
              case rel => exact ⟨j + 1, by omega, congrArg (Value.int .i64) (by omega), ob, on, oc, rfl, by omega, Lib.hid (by rw [hnext]; exact HON.out), Lib.hid (by rw [hnext]; exact HOW.out), hbr⟩
              case measure => first | omega | (rw [hw1]; simp [intOf]; omega) | (simp [intOf]; omega)
            · have hnext : inS (l.take (j + 1)) = out.take t ++ x :: out.drop t := by
                rw [List.take_add_one, List.getElem?_eq_getElem hjl, Option.toList_some, inS_snoc, ← HOUT.out]
                have e1 : l[j] = x := by rw [HX.out]; simp [List.getD, List.getElem?_eq_getElem hjl]
                rw [e1, insS_at x out t (by have := HON.out; omega) hlow.out (fun _ => by rw [← HY.out]; exact hyx), if_neg (fun h => hxy (HY.out.trans h.2))]
              have HNX := Lib.hid hnext
              clear hnext
              have hs1 := slice_ii 42 26 Tryd.underlying42 HS1.out ob on oc t ht hoc
              obtain ⟨a2, hs2, ha2⟩ := slice_fr 42 26 Tryd.underlying42 HS1.out ob on oc t ht hoc
              subst ha2
              have hnl : out.length = on := HON.out.symm
              have hcx : ∀ z u, ((out.drop t).map (Value.int .u64))[z]? = some u → wr.cell? ⟨ob, (if oc = t then 0 else t) + z, none⟩ = some u := by
                intro z u hz
                simp only [List.getElem?_map, List.getElem?_drop, Option.map_eq_some_iff] at hz
                obtain ⟨y, hy, rfl⟩ := hz
                have hlt2 : t + z < out.length := (List.getElem?_eq_some_iff.1 hy).1
                rw [if_neg (by omega), HC.out (t + z) (by omega)]
                simp [List.getD, hy]
              have hcy : ∀ z u, ((out.take t).map (Value.int .u64))[z]? = some u → wr.cell? ⟨ob, z, none⟩ = some u := by
                intro z u hz
                simp only [List.getElem?_map, Option.map_eq_some_iff] at hz
                obtain ⟨y, hy, rfl⟩ := hz
                have hlt2 : z < t := by have := (List.getElem?_eq_some_iff.1 hy).1; simp at this; omega
                rw [List.getElem?_take_of_lt hlt2] at hy
                rw [HC.out z (by omega)]
                simp [List.getD, hy]
              have HCX := Lib.hid hcx
              have HCY := Lib.hid hcy
              have HNL := Lib.hid hnl
              clear hcx hcy hnl
              have hobl : ob < wr.heap.size := (how_lt HOW.out)
              go_wp2_with fail
              go_region_law (first
                | (refine step_inner (by rfl) (.tmp 45) (.tmp 48) 42 26 (.int .u64 0) 8 (by rfl) Tryd.underlying42 i0 HZ.out.1 HZ.out.2.1 HZ.out.2.2.1 HZ.out.2.2.2 rfl (by omega) wr.heap.size (.int .u64 x) rfl (by rfl) (by (repeat (first | with_reducible exact Blk.new _ _ _ | with_reducible assumption | with_reducible refine Blk.newAt (by first | rfl | (simp; done) | (simp; omega)) _ _ | with_reducible refine Blk.alloc ?_ _ | with_reducible refine Blk.drewN ?_ _ | with_reducible refine Blk.drew ?_ | with_reducible refine Blk.other ?_ (by first | omega | (simp; done) | (simp; omega)) _))) ob (if oc = t then 0 else t) (on - t) (oc - t) _ (by rfl) (by have := HNL.out; simp; omega) (fun z u hz => cell_b (by (repeat (first | with_reducible exact Below.refl _ _ | with_reducible assumption | with_reducible refine below_drewN ?_ _ | with_reducible refine Below.drew ?_ | with_reducible refine below_row ?_ (by first | omega | (simp; done) | (simp; omega)) _ | with_reducible refine Below.alloc ?_ (by first | omega | (simp; done) | (simp; omega)) _ | with_reducible refine Below.setCell ?_ (by first | omega | (simp; done) | (simp; omega)) _))) (HCX.out z u hz)) (by intro u hu; obtain ⟨_, _, rfl⟩ := List.mem_map.1 hu; rfl) (by omega) ?_; intro g1 c1 w1 ho1 hg1; have hb1 : Below wr.heap.size wr w1 := belowS_own (by (repeat (first | with_reducible exact Below.refl _ _ | with_reducible assumption | with_reducible refine below_drewN ?_ _ | with_reducible refine Below.drew ?_ | with_reducible refine below_row ?_ (by first | omega | (simp; done) | (simp; omega)) _ | with_reducible refine Below.alloc ?_ (by first | omega | (simp; done) | (simp; omega)) _ | with_reducible refine Below.setCell ?_ (by first | omega | (simp; done) | (simp; omega)) _))) hg1 (by (first | omega | (simp; done) | (simp; omega))))
                | (refine step_outer (by rfl) (.tmp 43) (.tmp 49) 42 26 (.int .u64 0) 8 (by rfl) Tryd.underlying42 i0 HZ.out.1 HZ.out.2.1 HZ.out.2.2.1 HZ.out.2.2.2 rfl (by omega) ob t _ (by rfl) (by have := HNL.out; simp; omega) (fun z u hz => cell_b hb1 (HCY.out z u hz)) _ g1 (1 + (on - t)) c1 _ (by rfl) ho1 (by omega) (by intro u hu; rcases List.mem_cons.1 hu with rfl | hu; rfl; obtain ⟨_, _, rfl⟩ := List.mem_map.1 hu; rfl) (by omega) ?_; intro g2 c2 w2 ho2 hg2; have hb2 : Below wr.heap.size wr w2 := belowS_none hb1 hg2))
              have hbs1 := hb1.size
              clear ho1 hg1 hb1
              have hlen : (inS (l.take (j + 1))).length = t + (1 + (on - t)) := by rw [HNX.out]; have := HNL.out; simp; omega
              have hrow2 : w2.ownsRow w.heap.size 26 1 (.slice (some ⟨g2, 0, none⟩) (t + (1 + (on - t))) c2) (t + (1 + (on - t))) ((inS (l.take (j + 1))).map (Value.int .u64)) := by
                rw [HNX.out, List.map_append, List.map_cons]
                exact owns_mono ho2 (by first | omega | (simp; omega))
              have HO := Lib.hid (And.intro hlen hrow2)
              clear ho2 hg2 hlen hrow2
              have HB2 := Lib.hid (hbr.out.trans (hb2.mono hBs))
              clear hb2
              go_wp2_with fail
              go_roundw
              case rel => exact ⟨j + 1, by omega, congrArg (Value.int .i64) (by omega), g2, _, c2, rfl, by omega, Lib.hid HO.out.1.symm, Lib.hid HO.out.2, HB2⟩
              case measure => first | omega | (simp [intOf]; omega)
        · obtain rfl : t = on := by omega
          have hnext : inS (l.take (j + 1)) = out.take t ++ x :: out.drop t := by
            rw [List.take_add_one, List.getElem?_eq_getElem hjl, Option.toList_some, inS_snoc, ← HOUT.out]
            have e1 : l[j] = x := by rw [HX.out]; simp [List.getD, List.getElem?_eq_getElem hjl]
            rw [e1, insS_at x out t (by have := HON.out; omega) hlow.out (fun h => absurd h (by have := HON.out; omega)), if_neg (fun h => absurd h.1 (by have := HON.out; omega))]
          have HNX := Lib.hid hnext
          clear hnext
          have hs1 := slice_ii 42 26 Tryd.underlying42 HS1.out ob t oc t (Nat.le_refl _) hoc
          obtain ⟨a2, hs2, ha2⟩ := slice_fr 42 26 Tryd.underlying42 HS1.out ob t oc t (Nat.le_refl _) hoc
          subst ha2
          have hnl : out.length = t := HON.out.symm
          have hcy : ∀ z u, ((out.take t).map (Value.int .u64))[z]? = some u → wr.cell? ⟨ob, z, none⟩ = some u := by
            intro z u hz
            simp only [List.getElem?_map, Option.map_eq_some_iff] at hz
            obtain ⟨y, hy, rfl⟩ := hz
            have hlt2 : z < t := by have := (List.getElem?_eq_some_iff.1 hy).1; simp at this; omega
            rw [List.getElem?_take_of_lt hlt2] at hy
            rw [HC.out z (by omega)]
            simp [List.getD, hy]
          have HCY := Lib.hid hcy
          have HNL := Lib.hid hnl
          clear hcy hnl
          have hobl : ob < wr.heap.size := (how_lt HOW.out)
          go_wp2_with fail
          go_region_law (first
            | (refine step_outer (by rfl) (.tmp 43) (.tmp 49) 42 26 (.int .u64 0) 8 (by rfl) Tryd.underlying42 i0 HZ.out.1 HZ.out.2.1 HZ.out.2.2.1 HZ.out.2.2.2 rfl (by omega) ob t _ (by rfl) (by have := HNL.out; simp; omega) (fun z u hz => cell_b (by (repeat (first | with_reducible exact Below.refl _ _ | with_reducible assumption | with_reducible refine below_drewN ?_ _ | with_reducible refine Below.drew ?_ | with_reducible refine below_row ?_ (by first | omega | (simp; done) | (simp; omega)) _ | with_reducible refine Below.alloc ?_ (by first | omega | (simp; done) | (simp; omega)) _ | with_reducible refine Below.setCell ?_ (by first | omega | (simp; done) | (simp; omega)) _))) (HCY.out z u hz)) wr.heap.size wr.heap.size 1 1 [.int .u64 x] (by rfl) (lit_owns (by (repeat (first | with_reducible exact Blk.new _ _ _ | with_reducible assumption | with_reducible refine Blk.newAt (by first | rfl | (simp; done) | (simp; omega)) _ _ | with_reducible refine Blk.alloc ?_ _ | with_reducible refine Blk.drewN ?_ _ | with_reducible refine Blk.drew ?_ | with_reducible refine Blk.other ?_ (by first | omega | (simp; done) | (simp; omega)) _)))) (by omega) (by intro u hu; simp at hu; subst hu; rfl) (by omega) ?_; intro g2 c2 w2 ho2 hg2; have hb2 : Below wr.heap.size wr w2 := belowS_none (by (repeat (first | with_reducible exact Below.refl _ _ | with_reducible assumption | with_reducible refine below_drewN ?_ _ | with_reducible refine Below.drew ?_ | with_reducible refine below_row ?_ (by first | omega | (simp; done) | (simp; omega)) _ | with_reducible refine Below.alloc ?_ (by first | omega | (simp; done) | (simp; omega)) _ | with_reducible refine Below.setCell ?_ (by first | omega | (simp; done) | (simp; omega)) _))) hg2) | fail)
          have hlen : (inS (l.take (j + 1))).length = t + 1 := by rw [HNX.out]; have := HNL.out; simp; omega
          have hrow2 : w2.ownsRow w.heap.size 26 1 (.slice (some ⟨g2, 0, none⟩) (t + 1) c2) (t + 1) ((inS (l.take (j + 1))).map (Value.int .u64)) := by
            rw [HNX.out, List.map_append, List.map_cons, List.drop_eq_nil_of_le (by have := HNL.out; omega)]
            exact owns_mono ho2 (by first | omega | (simp; omega))
          have HO := Lib.hid (And.intro hlen hrow2)
          clear ho2 hg2 hlen hrow2
          have HB2 := Lib.hid (hbr.out.trans (hb2.mono hBs))
          clear hb2
          go_wp2_with fail
          go_roundw
          case rel => exact ⟨j + 1, by omega, congrArg (Value.int .i64) (by omega), g2, _, c2, rfl, by omega, Lib.hid HO.out.1.symm, Lib.hid HO.out.2, HB2⟩
          case measure => first | omega | (simp [intOf]; omega)
    · obtain rfl : j = n := by omega
      go_wp2_with fail
      go_ret
      have e1 : l.take j = l := by rw [HN.out]; simp
      have h1 := hon.out
      have h2 := how.out
      rw [e1] at h1 h2
      subst h1
      exact ⟨_, _, rfl, Rd.of_owns h2, hbr.out, fun x hx => ge_of_owns h2 x hx⟩
theorem inSet_u64 : InSet 22 .u64 := inSetO_u64.weak

set_option maxRecDepth 100000 in
set_option maxHeartbeats 4000000 in
theorem inSetO_u8 : InSetO 15 .u8 := by
  intro l a c w hl hr
  obtain ⟨n, hn⟩ : ∃ n, n = l.length := ⟨_, rfl⟩
  have hinfo : (Tryd.prog.info? 5).map (fun i => (i.zero, i.size, i.bytes)) = some (some (.int .u8 0), 1, 1) := by kernel_rfl
  have hsz1 : ∀ w : World, (sizeOf 5).run Tryd.prog w = .ok 1 w := fun w => by kernel_rfl
  obtain ⟨i0, hi0, hz0, hs0, hb0⟩ := info_parts hinfo
  rw [← hn] at hl ⊢
  have HN := Lib.hid hn
  have HR := Lib.hid hr
  have HS1 := Lib.hid hsz1
  have HZ := Lib.hid (And.intro hi0 (And.intro hz0 (And.intro hs0 hb0)))
  clear hn hr hsz1 hi0 hz0 hs0 hb0 hinfo
  go_enter Tryd.func15, Tryd.ntmps15
  go_wp2_with fail
  go_loopw [3, 10] (fun o i wr => ∃ j : Nat, j ≤ n ∧ i = .int .i64 j ∧ ∃ ob on oc, o = .slice (some ⟨ob, 0, none⟩) on oc ∧ on ≤ j ∧ Hid (on = (inS (l.take j)).length) ∧ Hid (wr.ownsRow w.heap.size 5 1 (.slice (some ⟨ob, 0, none⟩) on oc) on ((inS (l.take j)).map (Value.int .u8))) ∧ Hid (Below w.heap.size w wr)) (fun _ i _ => n - (intOf i).toNat)
  case atStart => exact ⟨0, Nat.zero_le _, rfl, w.heap.size, 0, 0, rfl, Nat.zero_le _, Lib.hid (by simp [inS]), Lib.hid (by simpa [inS] using World.ownsRow_made w (e := 5) (size := 1) #[] 0 (Nat.le_refl _) (Nat.zero_le _) rfl), Lib.hid ((Below.refl _ _).alloc (Nat.le_refl _) _)⟩
  case round =>
    obtain ⟨j, hj, rfl, ob, on, oc, rfl, hoj, hon, how, hbr⟩ := hrel
    by_cases hlt : j < n
    · have hli : (j : Int) < n := by omega
      have hjl : j < l.length := by have := HN.out; omega
      obtain ⟨out, hout⟩ : ∃ out, out = inS (l.take j) := ⟨_, rfl⟩
      have how' := how.out
      have hon' := hon.out
      rw [← hout] at how' hon'
      have HON := Lib.hid hon'
      have HOUT := Lib.hid hout
      have HOW := Lib.hid how'
      clear how hon hout hon' how'
      obtain ⟨x, hx⟩ : ∃ x, x = l.getD j 0 := ⟨_, rfl⟩
      have HX := Lib.hid hx
      clear hx
      have hrd := HR.out.below hbr.out (Nat.le_refl _)
      obtain ⟨lb, lo, rfl, hcl⟩ := hrd.at_ (by simp; omega)
      have hcj : wr.cell? ⟨lb, lo + j, none⟩ = some (.int .u8 x) := by
        have := hcl j (by simp; omega)
        rw [this, HX.out]
        simp [List.getD, List.getElem?_eq_getElem hjl]
      have hoc : on ≤ oc := by
        rcases HOW.out.2 with ⟨h, _⟩ | ⟨g, cap, cur, hv, _, _, h, _⟩
        · cases h
        · injection hv with _ _ h3; omega
      have hrow : ∀ i, i < on → wr.cell? ⟨ob, i, none⟩ = some ((out.map (Value.int .u8)).getD i undef) := fun i hi => by
        obtain ⟨b2, o2, e2, hc2⟩ := (Rd.of_owns HOW.out).at_ (by have := HON.out; simp; omega)
        injection e2 with e2
        injection e2 with e3 e4
        subst e3
        subst e4
        have := hc2 i (by have := HON.out; simp; omega)
        rw [Nat.zero_add] at this
        exact this
      have hcell : ∀ i, i < on → wr.cell? ⟨ob, i, none⟩ = some (.int .u8 (out.getD i 0)) := fun i hi => by
        rw [hrow i hi]
        have := HON.out
        simp [List.getD, List.getElem?_eq_getElem (show i < out.length by omega)]
      have HC := Lib.hid hcell
      have hBs := hbr.out.size
      clear hrow hcell hcl hrd
      go_wp2_with fail
      go_loopw [6] (fun i wi => ∃ t : Nat, t ≤ on ∧ i = .int .i64 t ∧ Hid (∀ z, z < t → out.getD z 0 < x) ∧ wi = wr) (fun i _ => on - (intOf i).toNat)
      case atStart => exact ⟨0, Nat.zero_le _, rfl, Lib.hid (fun z hz => absurd hz (by omega)), rfl⟩
      case round =>
        obtain ⟨t, ht, rfl, hlow, rfl⟩ := hrel
        by_cases hto : t < on
        · have hti : (t : Int) < on := by omega
          have hct := HC.out t hto
          obtain ⟨y, hy⟩ : ∃ y, y = out.getD t 0 := ⟨_, rfl⟩
          rw [← hy] at hct
          have HY := Lib.hid hy
          clear hy
          by_cases hyx : y < x
          · go_wp2_with fail
            have hw1 : IntKind.i64.wrap ((t : Int) + 1) = ((t + 1 : Nat) : Int) := by rw [IntKind.wrap_i64]; omega
            go_roundw
            case rel =>
              refine ⟨t + 1, by omega, congrArg (Value.int .i64) (by omega), Lib.hid (fun z hz => ?_), by first | trivial | rfl⟩
              by_cases hzt : z < t
              · exact hlow.out z hzt
              · obtain rfl : z = t := by omega
                rw [← HY.out]; exact hyx
            case measure => first | omega | (rw [hw1]; simp [intOf]; omega) | (simp [intOf]; omega)
          · by_cases hxy : y = x
            · subst hxy
              go_wp2_with fail
              have hw1 : IntKind.i64.wrap ((j : Int) + 1) = ((j + 1 : Nat) : Int) := by rw [IntKind.wrap_i64]; omega
              have hnext : inS (l.take (j + 1)) = out := by
                rw [List.take_add_one, List.getElem?_eq_getElem hjl, Option.toList_some, inS_snoc, ← HOUT.out]
                have e1 : l[j] = y := by rw [HX.out]; simp [List.getD, List.getElem?_eq_getElem hjl]
                rw [e1, insS_at y out t (by have := HON.out; omega) hlow.out (fun _ => by rw [← HY.out]; omega), if_pos ⟨by have := HON.out; omega, HY.out.symm⟩]
              go_roundw
              case rel => exact ⟨j + 1, by omega, congrArg (Value.int .i64) (by omega), ob, on, oc, rfl, by omega, Lib.hid (by rw [hnext]; exact HON.out), Lib.hid (by rw [hnext]; exact HOW.out), hbr⟩
              case measure => first | omega | (rw [hw1]; simp [intOf]; omega) | (simp [intOf]; omega)
            · have hnext : inS (l.take (j + 1)) = out.take t ++ x :: out.drop t := by
                rw [List.take_add_one, List.getElem?_eq_getElem hjl, Option.toList_some, inS_snoc, ← HOUT.out]
                have e1 : l[j] = x := by rw [HX.out]; simp [List.getD, List.getElem?_eq_getElem hjl]
                rw [e1, insS_at x out t (by have := HON.out; omega) hlow.out (fun _ => by rw [← HY.out]; exact hyx), if_neg (fun h => hxy (HY.out.trans h.2))]
              have HNX := Lib.hid hnext
              clear hnext
              have hs1 := slice_ii 34 5 Tryd.underlying34 HS1.out ob on oc t ht hoc
              obtain ⟨a2, hs2, ha2⟩ := slice_fr 34 5 Tryd.underlying34 HS1.out ob on oc t ht hoc
              subst ha2
              have hnl : out.length = on := HON.out.symm
              have hcx : ∀ z u, ((out.drop t).map (Value.int .u8))[z]? = some u → wr.cell? ⟨ob, (if oc = t then 0 else t) + z, none⟩ = some u := by
                intro z u hz
                simp only [List.getElem?_map, List.getElem?_drop, Option.map_eq_some_iff] at hz
                obtain ⟨y, hy, rfl⟩ := hz
                have hlt2 : t + z < out.length := (List.getElem?_eq_some_iff.1 hy).1
                rw [if_neg (by omega), HC.out (t + z) (by omega)]
                simp [List.getD, hy]
              have hcy : ∀ z u, ((out.take t).map (Value.int .u8))[z]? = some u → wr.cell? ⟨ob, z, none⟩ = some u := by
                intro z u hz
                simp only [List.getElem?_map, Option.map_eq_some_iff] at hz
                obtain ⟨y, hy, rfl⟩ := hz
                have hlt2 : z < t := by have := (List.getElem?_eq_some_iff.1 hy).1; simp at this; omega
                rw [List.getElem?_take_of_lt hlt2] at hy
                rw [HC.out z (by omega)]
                simp [List.getD, hy]
              have HCX := Lib.hid hcx
              have HCY := Lib.hid hcy
              have HNL := Lib.hid hnl
              clear hcx hcy hnl
              have hobl : ob < wr.heap.size := (how_lt HOW.out)
              go_wp2_with fail
              go_region_law (first
                | (refine step_inner (by rfl) (.tmp 45) (.tmp 48) 34 5 (.int .u8 0) 1 (by rfl) Tryd.underlying34 i0 HZ.out.1 HZ.out.2.1 HZ.out.2.2.1 HZ.out.2.2.2 rfl (by omega) wr.heap.size (.int .u8 x) rfl (by rfl) (by (repeat (first | with_reducible exact Blk.new _ _ _ | with_reducible assumption | with_reducible refine Blk.newAt (by first | rfl | (simp; done) | (simp; omega)) _ _ | with_reducible refine Blk.alloc ?_ _ | with_reducible refine Blk.drewN ?_ _ | with_reducible refine Blk.drew ?_ | with_reducible refine Blk.other ?_ (by first | omega | (simp; done) | (simp; omega)) _))) ob (if oc = t then 0 else t) (on - t) (oc - t) _ (by rfl) (by have := HNL.out; simp; omega) (fun z u hz => cell_b (by (repeat (first | with_reducible exact Below.refl _ _ | with_reducible assumption | with_reducible refine below_drewN ?_ _ | with_reducible refine Below.drew ?_ | with_reducible refine below_row ?_ (by first | omega | (simp; done) | (simp; omega)) _ | with_reducible refine Below.alloc ?_ (by first | omega | (simp; done) | (simp; omega)) _ | with_reducible refine Below.setCell ?_ (by first | omega | (simp; done) | (simp; omega)) _))) (HCX.out z u hz)) (by intro u hu; obtain ⟨_, _, rfl⟩ := List.mem_map.1 hu; rfl) (by omega) ?_; intro g1 c1 w1 ho1 hg1; have hb1 : Below wr.heap.size wr w1 := belowS_own (by (repeat (first | with_reducible exact Below.refl _ _ | with_reducible assumption | with_reducible refine below_drewN ?_ _ | with_reducible refine Below.drew ?_ | with_reducible refine below_row ?_ (by first | omega | (simp; done) | (simp; omega)) _ | with_reducible refine Below.alloc ?_ (by first | omega | (simp; done) | (simp; omega)) _ | with_reducible refine Below.setCell ?_ (by first | omega | (simp; done) | (simp; omega)) _))) hg1 (by (first | omega | (simp; done) | (simp; omega))))
                | (refine step_outer (by rfl) (.tmp 43) (.tmp 49) 34 5 (.int .u8 0) 1 (by rfl) Tryd.underlying34 i0 HZ.out.1 HZ.out.2.1 HZ.out.2.2.1 HZ.out.2.2.2 rfl (by omega) ob t _ (by rfl) (by have := HNL.out; simp; omega) (fun z u hz => cell_b hb1 (HCY.out z u hz)) _ g1 (1 + (on - t)) c1 _ (by rfl) ho1 (by omega) (by intro u hu; rcases List.mem_cons.1 hu with rfl | hu; rfl; obtain ⟨_, _, rfl⟩ := List.mem_map.1 hu; rfl) (by omega) ?_; intro g2 c2 w2 ho2 hg2; have hb2 : Below wr.heap.size wr w2 := belowS_none hb1 hg2))
              have hbs1 := hb1.size
              clear ho1 hg1 hb1
              have hlen : (inS (l.take (j + 1))).length = t + (1 + (on - t)) := by rw [HNX.out]; have := HNL.out; simp; omega
              have hrow2 : w2.ownsRow w.heap.size 5 1 (.slice (some ⟨g2, 0, none⟩) (t + (1 + (on - t))) c2) (t + (1 + (on - t))) ((inS (l.take (j + 1))).map (Value.int .u8)) := by
                rw [HNX.out, List.map_append, List.map_cons]
                exact owns_mono ho2 (by first | omega | (simp; omega))
              have HO := Lib.hid (And.intro hlen hrow2)
              clear ho2 hg2 hlen hrow2
              have HB2 := Lib.hid (hbr.out.trans (hb2.mono hBs))
              clear hb2
              go_wp2_with fail
              go_roundw
              case rel => exact ⟨j + 1, by omega, congrArg (Value.int .i64) (by omega), g2, _, c2, rfl, by omega, Lib.hid HO.out.1.symm, Lib.hid HO.out.2, HB2⟩
              case measure => first | omega | (simp [intOf]; omega)
        · obtain rfl : t = on := by omega
          have hnext : inS (l.take (j + 1)) = out.take t ++ x :: out.drop t := by
            rw [List.take_add_one, List.getElem?_eq_getElem hjl, Option.toList_some, inS_snoc, ← HOUT.out]
            have e1 : l[j] = x := by rw [HX.out]; simp [List.getD, List.getElem?_eq_getElem hjl]
            rw [e1, insS_at x out t (by have := HON.out; omega) hlow.out (fun h => absurd h (by have := HON.out; omega)), if_neg (fun h => absurd h.1 (by have := HON.out; omega))]
          have HNX := Lib.hid hnext
          clear hnext
          have hs1 := slice_ii 34 5 Tryd.underlying34 HS1.out ob t oc t (Nat.le_refl _) hoc
          obtain ⟨a2, hs2, ha2⟩ := slice_fr 34 5 Tryd.underlying34 HS1.out ob t oc t (Nat.le_refl _) hoc
          subst ha2
          have hnl : out.length = t := HON.out.symm
          have hcy : ∀ z u, ((out.take t).map (Value.int .u8))[z]? = some u → wr.cell? ⟨ob, z, none⟩ = some u := by
            intro z u hz
            simp only [List.getElem?_map, Option.map_eq_some_iff] at hz
            obtain ⟨y, hy, rfl⟩ := hz
            have hlt2 : z < t := by have := (List.getElem?_eq_some_iff.1 hy).1; simp at this; omega
            rw [List.getElem?_take_of_lt hlt2] at hy
            rw [HC.out z (by omega)]
            simp [List.getD, hy]
          have HCY := Lib.hid hcy
          have HNL := Lib.hid hnl
          clear hcy hnl
          have hobl : ob < wr.heap.size := (how_lt HOW.out)
          go_wp2_with fail
          go_region_law (first
            | (refine step_outer (by rfl) (.tmp 43) (.tmp 49) 34 5 (.int .u8 0) 1 (by rfl) Tryd.underlying34 i0 HZ.out.1 HZ.out.2.1 HZ.out.2.2.1 HZ.out.2.2.2 rfl (by omega) ob t _ (by rfl) (by have := HNL.out; simp; omega) (fun z u hz => cell_b (by (repeat (first | with_reducible exact Below.refl _ _ | with_reducible assumption | with_reducible refine below_drewN ?_ _ | with_reducible refine Below.drew ?_ | with_reducible refine below_row ?_ (by first | omega | (simp; done) | (simp; omega)) _ | with_reducible refine Below.alloc ?_ (by first | omega | (simp; done) | (simp; omega)) _ | with_reducible refine Below.setCell ?_ (by first | omega | (simp; done) | (simp; omega)) _))) (HCY.out z u hz)) wr.heap.size wr.heap.size 1 1 [.int .u8 x] (by rfl) (lit_owns (by (repeat (first | with_reducible exact Blk.new _ _ _ | with_reducible assumption | with_reducible refine Blk.newAt (by first | rfl | (simp; done) | (simp; omega)) _ _ | with_reducible refine Blk.alloc ?_ _ | with_reducible refine Blk.drewN ?_ _ | with_reducible refine Blk.drew ?_ | with_reducible refine Blk.other ?_ (by first | omega | (simp; done) | (simp; omega)) _)))) (by omega) (by intro u hu; simp at hu; subst hu; rfl) (by omega) ?_; intro g2 c2 w2 ho2 hg2; have hb2 : Below wr.heap.size wr w2 := belowS_none (by (repeat (first | with_reducible exact Below.refl _ _ | with_reducible assumption | with_reducible refine below_drewN ?_ _ | with_reducible refine Below.drew ?_ | with_reducible refine below_row ?_ (by first | omega | (simp; done) | (simp; omega)) _ | with_reducible refine Below.alloc ?_ (by first | omega | (simp; done) | (simp; omega)) _ | with_reducible refine Below.setCell ?_ (by first | omega | (simp; done) | (simp; omega)) _))) hg2) | fail)
          have hlen : (inS (l.take (j + 1))).length = t + 1 := by rw [HNX.out]; have := HNL.out; simp; omega
          have hrow2 : w2.ownsRow w.heap.size 5 1 (.slice (some ⟨g2, 0, none⟩) (t + 1) c2) (t + 1) ((inS (l.take (j + 1))).map (Value.int .u8)) := by
            rw [HNX.out, List.map_append, List.map_cons, List.drop_eq_nil_of_le (by have := HNL.out; omega)]
            exact owns_mono ho2 (by first | omega | (simp; omega))
          have HO := Lib.hid (And.intro hlen hrow2)
          clear ho2 hg2 hlen hrow2
          have HB2 := Lib.hid (hbr.out.trans (hb2.mono hBs))
          clear hb2
          go_wp2_with fail
          go_roundw
          case rel => exact ⟨j + 1, by omega, congrArg (Value.int .i64) (by omega), g2, _, c2, rfl, by omega, Lib.hid HO.out.1.symm, Lib.hid HO.out.2, HB2⟩
          case measure => first | omega | (simp [intOf]; omega)
    · obtain rfl : j = n := by omega
      go_wp2_with fail
      go_ret
      have e1 : l.take j = l := by rw [HN.out]; simp
      have h1 := hon.out
      have h2 := how.out
      rw [e1] at h1 h2
      subst h1
      exact ⟨_, _, rfl, Rd.of_owns h2, hbr.out, fun x hx => ge_of_owns h2 x hx⟩
theorem inSet_u8 : InSet 15 .u8 := inSetO_u8.weak

set_option maxRecDepth 100000 in
set_option maxHeartbeats 4000000 in
theorem inSetO_i64 : InSetO 17 .i64 := by
  intro l a c w hl hr
  obtain ⟨n, hn⟩ : ∃ n, n = l.length := ⟨_, rfl⟩
  have hinfo : (Tryd.prog.info? 2).map (fun i => (i.zero, i.size, i.bytes)) = some (some (.int .i64 0), 1, 8) := by kernel_rfl
  have hsz1 : ∀ w : World, (sizeOf 2).run Tryd.prog w = .ok 1 w := fun w => by kernel_rfl
  obtain ⟨i0, hi0, hz0, hs0, hb0⟩ := info_parts hinfo
  rw [← hn] at hl ⊢
  have HN := Lib.hid hn
  have HR := Lib.hid hr
  have HS1 := Lib.hid hsz1
  have HZ := Lib.hid (And.intro hi0 (And.intro hz0 (And.intro hs0 hb0)))
  clear hn hr hsz1 hi0 hz0 hs0 hb0 hinfo
  go_enter Tryd.func17, Tryd.ntmps17
  go_wp2_with fail
  go_loopw [3, 10] (fun o i wr => ∃ j : Nat, j ≤ n ∧ i = .int .i64 j ∧ ∃ ob on oc, o = .slice (some ⟨ob, 0, none⟩) on oc ∧ on ≤ j ∧ Hid (on = (inS (l.take j)).length) ∧ Hid (wr.ownsRow w.heap.size 2 1 (.slice (some ⟨ob, 0, none⟩) on oc) on ((inS (l.take j)).map (Value.int .i64))) ∧ Hid (Below w.heap.size w wr)) (fun _ i _ => n - (intOf i).toNat)
  case atStart => exact ⟨0, Nat.zero_le _, rfl, w.heap.size, 0, 0, rfl, Nat.zero_le _, Lib.hid (by simp [inS]), Lib.hid (by simpa [inS] using World.ownsRow_made w (e := 2) (size := 1) #[] 0 (Nat.le_refl _) (Nat.zero_le _) rfl), Lib.hid ((Below.refl _ _).alloc (Nat.le_refl _) _)⟩
  case round =>
    obtain ⟨j, hj, rfl, ob, on, oc, rfl, hoj, hon, how, hbr⟩ := hrel
    by_cases hlt : j < n
    · have hli : (j : Int) < n := by omega
      have hjl : j < l.length := by have := HN.out; omega
      obtain ⟨out, hout⟩ : ∃ out, out = inS (l.take j) := ⟨_, rfl⟩
      have how' := how.out
      have hon' := hon.out
      rw [← hout] at how' hon'
      have HON := Lib.hid hon'
      have HOUT := Lib.hid hout
      have HOW := Lib.hid how'
      clear how hon hout hon' how'
      obtain ⟨x, hx⟩ : ∃ x, x = l.getD j 0 := ⟨_, rfl⟩
      have HX := Lib.hid hx
      clear hx
      have hrd := HR.out.below hbr.out (Nat.le_refl _)
      obtain ⟨lb, lo, rfl, hcl⟩ := hrd.at_ (by simp; omega)
      have hcj : wr.cell? ⟨lb, lo + j, none⟩ = some (.int .i64 x) := by
        have := hcl j (by simp; omega)
        rw [this, HX.out]
        simp [List.getD, List.getElem?_eq_getElem hjl]
      have hoc : on ≤ oc := by
        rcases HOW.out.2 with ⟨h, _⟩ | ⟨g, cap, cur, hv, _, _, h, _⟩
        · cases h
        · injection hv with _ _ h3; omega
      have hrow : ∀ i, i < on → wr.cell? ⟨ob, i, none⟩ = some ((out.map (Value.int .i64)).getD i undef) := fun i hi => by
        obtain ⟨b2, o2, e2, hc2⟩ := (Rd.of_owns HOW.out).at_ (by have := HON.out; simp; omega)
        injection e2 with e2
        injection e2 with e3 e4
        subst e3
        subst e4
        have := hc2 i (by have := HON.out; simp; omega)
        rw [Nat.zero_add] at this
        exact this
      have hcell : ∀ i, i < on → wr.cell? ⟨ob, i, none⟩ = some (.int .i64 (out.getD i 0)) := fun i hi => by
        rw [hrow i hi]
        have := HON.out
        simp [List.getD, List.getElem?_eq_getElem (show i < out.length by omega)]
      have HC := Lib.hid hcell
      have hBs := hbr.out.size
      clear hrow hcell hcl hrd
      go_wp2_with fail
      go_loopw [6] (fun i wi => ∃ t : Nat, t ≤ on ∧ i = .int .i64 t ∧ Hid (∀ z, z < t → out.getD z 0 < x) ∧ wi = wr) (fun i _ => on - (intOf i).toNat)
      case atStart => exact ⟨0, Nat.zero_le _, rfl, Lib.hid (fun z hz => absurd hz (by omega)), rfl⟩
      case round =>
        obtain ⟨t, ht, rfl, hlow, rfl⟩ := hrel
        by_cases hto : t < on
        · have hti : (t : Int) < on := by omega
          have hct := HC.out t hto
          obtain ⟨y, hy⟩ : ∃ y, y = out.getD t 0 := ⟨_, rfl⟩
          rw [← hy] at hct
          have HY := Lib.hid hy
          clear hy
          by_cases hyx : y < x
          · go_wp2_with fail
            have hw1 : IntKind.i64.wrap ((t : Int) + 1) = ((t + 1 : Nat) : Int) := by rw [IntKind.wrap_i64]; omega
            go_roundw
            case rel =>
              refine ⟨t + 1, by omega, congrArg (Value.int .i64) (by omega), Lib.hid (fun z hz => ?_), by first | trivial | rfl⟩
              by_cases hzt : z < t
              · exact hlow.out z hzt
              · obtain rfl : z = t := by omega
                rw [← HY.out]; exact hyx
            case measure => first | omega | (rw [hw1]; simp [intOf]; omega) | (simp [intOf]; omega)
          · by_cases hxy : y = x
            · subst hxy
              go_wp2_with fail
              have hw1 : IntKind.i64.wrap ((j : Int) + 1) = ((j + 1 : Nat) : Int) := by rw [IntKind.wrap_i64]; omega
              have hnext : inS (l.take (j + 1)) = out := by
                rw [List.take_add_one, List.getElem?_eq_getElem hjl, Option.toList_some, inS_snoc, ← HOUT.out]
                have e1 : l[j] = y := by rw [HX.out]; simp [List.getD, List.getElem?_eq_getElem hjl]
                rw [e1, insS_at y out t (by have := HON.out; omega) hlow.out (fun _ => by rw [← HY.out]; omega), if_pos ⟨by have := HON.out; omega, HY.out.symm⟩]
              go_roundw
              case rel => exact ⟨j + 1, by omega, congrArg (Value.int .i64) (by omega), ob, on, oc, rfl, by omega, Lib.hid (by rw [hnext]; exact HON.out), Lib.hid (by rw [hnext]; exact HOW.out), hbr⟩
              case measure => first | omega | (rw [hw1]; simp [intOf]; omega) | (simp [intOf]; omega)
            · have hnext : inS (l.take (j + 1)) = out.take t ++ x :: out.drop t := by
                rw [List.take_add_one, List.getElem?_eq_getElem hjl, Option.toList_some, inS_snoc, ← HOUT.out]
                have e1 : l[j] = x := by rw [HX.out]; simp [List.getD, List.getElem?_eq_getElem hjl]
                rw [e1, insS_at x out t (by have := HON.out; omega) hlow.out (fun _ => by rw [← HY.out]; exact hyx), if_neg (fun h => hxy (HY.out.trans h.2))]
              have HNX := Lib.hid hnext
              clear hnext
              have hs1 := slice_ii 38 2 Tryd.underlying38 HS1.out ob on oc t ht hoc
              obtain ⟨a2, hs2, ha2⟩ := slice_fr 38 2 Tryd.underlying38 HS1.out ob on oc t ht hoc
              subst ha2
              have hnl : out.length = on := HON.out.symm
              have hcx : ∀ z u, ((out.drop t).map (Value.int .i64))[z]? = some u → wr.cell? ⟨ob, (if oc = t then 0 else t) + z, none⟩ = some u := by
                intro z u hz
                simp only [List.getElem?_map, List.getElem?_drop, Option.map_eq_some_iff] at hz
                obtain ⟨y, hy, rfl⟩ := hz
                have hlt2 : t + z < out.length := (List.getElem?_eq_some_iff.1 hy).1
                rw [if_neg (by omega), HC.out (t + z) (by omega)]
                simp [List.getD, hy]
              have hcy : ∀ z u, ((out.take t).map (Value.int .i64))[z]? = some u → wr.cell? ⟨ob, z, none⟩ = some u := by
                intro z u hz
                simp only [List.getElem?_map, Option.map_eq_some_iff] at hz
                obtain ⟨y, hy, rfl⟩ := hz
                have hlt2 : z < t := by have := (List.getElem?_eq_some_iff.1 hy).1; simp at this; omega
                rw [List.getElem?_take_of_lt hlt2] at hy
                rw [HC.out z (by omega)]
                simp [List.getD, hy]
              have HCX := Lib.hid hcx
              have HCY := Lib.hid hcy
              have HNL := Lib.hid hnl
              clear hcx hcy hnl
              have hobl : ob < wr.heap.size := (how_lt HOW.out)
              go_wp2_with fail
              go_region_law (first
                | (refine step_inner (by rfl) (.tmp 45) (.tmp 48) 38 2 (.int .i64 0) 8 (by rfl) Tryd.underlying38 i0 HZ.out.1 HZ.out.2.1 HZ.out.2.2.1 HZ.out.2.2.2 rfl (by omega) wr.heap.size (.int .i64 x) rfl (by rfl) (by (repeat (first | with_reducible exact Blk.new _ _ _ | with_reducible assumption | with_reducible refine Blk.newAt (by first | rfl | (simp; done) | (simp; omega)) _ _ | with_reducible refine Blk.alloc ?_ _ | with_reducible refine Blk.drewN ?_ _ | with_reducible refine Blk.drew ?_ | with_reducible refine Blk.other ?_ (by first | omega | (simp; done) | (simp; omega)) _))) ob (if oc = t then 0 else t) (on - t) (oc - t) _ (by rfl) (by have := HNL.out; simp; omega) (fun z u hz => cell_b (by (repeat (first | with_reducible exact Below.refl _ _ | with_reducible assumption | with_reducible refine below_drewN ?_ _ | with_reducible refine Below.drew ?_ | with_reducible refine below_row ?_ (by first | omega | (simp; done) | (simp; omega)) _ | with_reducible refine Below.alloc ?_ (by first | omega | (simp; done) | (simp; omega)) _ | with_reducible refine Below.setCell ?_ (by first | omega | (simp; done) | (simp; omega)) _))) (HCX.out z u hz)) (by intro u hu; obtain ⟨_, _, rfl⟩ := List.mem_map.1 hu; rfl) (by omega) ?_; intro g1 c1 w1 ho1 hg1; have hb1 : Below wr.heap.size wr w1 := belowS_own (by (repeat (first | with_reducible exact Below.refl _ _ | with_reducible assumption | with_reducible refine below_drewN ?_ _ | with_reducible refine Below.drew ?_ | with_reducible refine below_row ?_ (by first | omega | (simp; done) | (simp; omega)) _ | with_reducible refine Below.alloc ?_ (by first | omega | (simp; done) | (simp; omega)) _ | with_reducible refine Below.setCell ?_ (by first | omega | (simp; done) | (simp; omega)) _))) hg1 (by (first | omega | (simp; done) | (simp; omega))))
                | (refine step_outer (by rfl) (.tmp 43) (.tmp 49) 38 2 (.int .i64 0) 8 (by rfl) Tryd.underlying38 i0 HZ.out.1 HZ.out.2.1 HZ.out.2.2.1 HZ.out.2.2.2 rfl (by omega) ob t _ (by rfl) (by have := HNL.out; simp; omega) (fun z u hz => cell_b hb1 (HCY.out z u hz)) _ g1 (1 + (on - t)) c1 _ (by rfl) ho1 (by omega) (by intro u hu; rcases List.mem_cons.1 hu with rfl | hu; rfl; obtain ⟨_, _, rfl⟩ := List.mem_map.1 hu; rfl) (by omega) ?_; intro g2 c2 w2 ho2 hg2; have hb2 : Below wr.heap.size wr w2 := belowS_none hb1 hg2))
              have hbs1 := hb1.size
              clear ho1 hg1 hb1
              have hlen : (inS (l.take (j + 1))).length = t + (1 + (on - t)) := by rw [HNX.out]; have := HNL.out; simp; omega
              have hrow2 : w2.ownsRow w.heap.size 2 1 (.slice (some ⟨g2, 0, none⟩) (t + (1 + (on - t))) c2) (t + (1 + (on - t))) ((inS (l.take (j + 1))).map (Value.int .i64)) := by
                rw [HNX.out, List.map_append, List.map_cons]
                exact owns_mono ho2 (by first | omega | (simp; omega))
              have HO := Lib.hid (And.intro hlen hrow2)
              clear ho2 hg2 hlen hrow2
              have HB2 := Lib.hid (hbr.out.trans (hb2.mono hBs))
              clear hb2
              go_wp2_with fail
              go_roundw
              case rel => exact ⟨j + 1, by omega, congrArg (Value.int .i64) (by omega), g2, _, c2, rfl, by omega, Lib.hid HO.out.1.symm, Lib.hid HO.out.2, HB2⟩
              case measure => first | omega | (simp [intOf]; omega)
        · obtain rfl : t = on := by omega
          have hnext : inS (l.take (j + 1)) = out.take t ++ x :: out.drop t := by
            rw [List.take_add_one, List.getElem?_eq_getElem hjl, Option.toList_some, inS_snoc, ← HOUT.out]
            have e1 : l[j] = x := by rw [HX.out]; simp [List.getD, List.getElem?_eq_getElem hjl]
            rw [e1, insS_at x out t (by have := HON.out; omega) hlow.out (fun h => absurd h (by have := HON.out; omega)), if_neg (fun h => absurd h.1 (by have := HON.out; omega))]
          have HNX := Lib.hid hnext
          clear hnext
          have hs1 := slice_ii 38 2 Tryd.underlying38 HS1.out ob t oc t (Nat.le_refl _) hoc
          obtain ⟨a2, hs2, ha2⟩ := slice_fr 38 2 Tryd.underlying38 HS1.out ob t oc t (Nat.le_refl _) hoc
          subst ha2
          have hnl : out.length = t := HON.out.symm
          have hcy : ∀ z u, ((out.take t).map (Value.int .i64))[z]? = some u → wr.cell? ⟨ob, z, none⟩ = some u := by
            intro z u hz
            simp only [List.getElem?_map, Option.map_eq_some_iff] at hz
            obtain ⟨y, hy, rfl⟩ := hz
            have hlt2 : z < t := by have := (List.getElem?_eq_some_iff.1 hy).1; simp at this; omega
            rw [List.getElem?_take_of_lt hlt2] at hy
            rw [HC.out z (by omega)]
            simp [List.getD, hy]
          have HCY := Lib.hid hcy
          have HNL := Lib.hid hnl
          clear hcy hnl
          have hobl : ob < wr.heap.size := (how_lt HOW.out)
          go_wp2_with fail
          go_region_law (first
            | (refine step_outer (by rfl) (.tmp 43) (.tmp 49) 38 2 (.int .i64 0) 8 (by rfl) Tryd.underlying38 i0 HZ.out.1 HZ.out.2.1 HZ.out.2.2.1 HZ.out.2.2.2 rfl (by omega) ob t _ (by rfl) (by have := HNL.out; simp; omega) (fun z u hz => cell_b (by (repeat (first | with_reducible exact Below.refl _ _ | with_reducible assumption | with_reducible refine below_drewN ?_ _ | with_reducible refine Below.drew ?_ | with_reducible refine below_row ?_ (by first | omega | (simp; done) | (simp; omega)) _ | with_reducible refine Below.alloc ?_ (by first | omega | (simp; done) | (simp; omega)) _ | with_reducible refine Below.setCell ?_ (by first | omega | (simp; done) | (simp; omega)) _))) (HCY.out z u hz)) wr.heap.size wr.heap.size 1 1 [.int .i64 x] (by rfl) (lit_owns (by (repeat (first | with_reducible exact Blk.new _ _ _ | with_reducible assumption | with_reducible refine Blk.newAt (by first | rfl | (simp; done) | (simp; omega)) _ _ | with_reducible refine Blk.alloc ?_ _ | with_reducible refine Blk.drewN ?_ _ | with_reducible refine Blk.drew ?_ | with_reducible refine Blk.other ?_ (by first | omega | (simp; done) | (simp; omega)) _)))) (by omega) (by intro u hu; simp at hu; subst hu; rfl) (by omega) ?_; intro g2 c2 w2 ho2 hg2; have hb2 : Below wr.heap.size wr w2 := belowS_none (by (repeat (first | with_reducible exact Below.refl _ _ | with_reducible assumption | with_reducible refine below_drewN ?_ _ | with_reducible refine Below.drew ?_ | with_reducible refine below_row ?_ (by first | omega | (simp; done) | (simp; omega)) _ | with_reducible refine Below.alloc ?_ (by first | omega | (simp; done) | (simp; omega)) _ | with_reducible refine Below.setCell ?_ (by first | omega | (simp; done) | (simp; omega)) _))) hg2) | fail)
          have hlen : (inS (l.take (j + 1))).length = t + 1 := by rw [HNX.out]; have := HNL.out; simp; omega
          have hrow2 : w2.ownsRow w.heap.size 2 1 (.slice (some ⟨g2, 0, none⟩) (t + 1) c2) (t + 1) ((inS (l.take (j + 1))).map (Value.int .i64)) := by
            rw [HNX.out, List.map_append, List.map_cons, List.drop_eq_nil_of_le (by have := HNL.out; omega)]
            exact owns_mono ho2 (by first | omega | (simp; omega))
          have HO := Lib.hid (And.intro hlen hrow2)
          clear ho2 hg2 hlen hrow2
          have HB2 := Lib.hid (hbr.out.trans (hb2.mono hBs))
          clear hb2
          go_wp2_with fail
          go_roundw
          case rel => exact ⟨j + 1, by omega, congrArg (Value.int .i64) (by omega), g2, _, c2, rfl, by omega, Lib.hid HO.out.1.symm, Lib.hid HO.out.2, HB2⟩
          case measure => first | omega | (simp [intOf]; omega)
    · obtain rfl : j = n := by omega
      go_wp2_with fail
      go_ret
      have e1 : l.take j = l := by rw [HN.out]; simp
      have h1 := hon.out
      have h2 := how.out
      rw [e1] at h1 h2
      subst h1
      exact ⟨_, _, rfl, Rd.of_owns h2, hbr.out, fun x hx => ge_of_owns h2 x hx⟩
theorem inSet_i64 : InSet 17 .i64 := inSetO_i64.weak
end Go.Proofs.YtokjgloefafdpaaDoor
