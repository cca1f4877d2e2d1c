/- encoding.writeArrayHeader; the bytes of an array. -/
import Derived.Test.YtkbfppjniaejnaaDoorSameA
import Derived.Laws.Externs
import Derived.Deep.RegionHeld3
namespace Go.Proofs.YtkbfppjniaejnaaDoor
open Go.RowKit
set_option linter.unusedVariables false
set_option linter.unusedSimpArgs false

/-- 'append(row, v)': one value of one cell, to a row of one's own. -/
theorem app1 {w : World} {ops : Array Oper} {rest : List Oper} {o : Oper} {act : Act} {Q : Exit → Act → World → Prop} (hgd : o.guard = none) (s x : Operand) (T E : TypeId) (z : Value) (by_ : Nat)
    (ho : o.op = .call { callee := .builtin .append, args := #[s, x], argTypes := #[T, T] })
    (hT : Tryd.prog.underlying T = some (.slice E)) (hinfo : (Tryd.prog.info? E).map (fun i => (i.zero, i.size, i.bytes)) = some (some z, 1, by_)) (hz1 : z.cells.size = 1) (hby : by_ ≤ 64)
    (B : Nat) (a : Option Addr) (n c : Nat) (xs : List Value) (hs : act.eval s = .slice a n c) (hown : w.ownsRow B E 1 (.slice a n c) n xs)
    (g : Nat) (v : Value) (hone : v.oneCell' = true) (hx : act.eval x = .slice (some ⟨g, 0, none⟩) 1 1) (hb : Blk w g E #[v]) (hsz : n ≤ 1099511627775) (hB : B ≤ w.heap.size)
    (h : ∀ a' c' w', w'.ownsRow B E 1 (.slice a' (n + 1) c') (n + 1) (xs ++ [v]) → w.grownBy w' (Value.ownBlock (.slice a n c)) → wpList Tryd.prog ops Q rest (act.put o.dst (.slice a' (n + 1) c')) w') : wpList Tryd.prog ops Q (o :: rest) act w := by
  obtain ⟨i, hi, hz, h1, h2⟩ := info_parts hinfo
  have hb2 : (n + 1) * by_ ≤ 1099511627776 * 64 := Nat.mul_le_mul (by omega) hby
  refine wpList_append_own w hgd s x T ho B E i z 1 by_ hT hi hz h1 h2 hz1 (by omega) _ n xs hs hown ⟨g, 0, none⟩ 1 1 [v] hx rfl ?_ (by intro u hu; simp at hu; subst hu; exact hone) (by simp only [maxLen]; omega) (by omega) hB ?_
  · intro j u hj
    have e : (⟨g, 0, none⟩ : Addr).add j = ⟨g, j, none⟩ := by unfold Addr.add; split <;> simp_all
    rw [e]
    refine hb.cell ?_
    cases j with
    | zero => simpa using hj
    | succ j => simp at hj
  · intro v' w' ho2 hg _
    obtain ⟨a', c', rfl⟩ := slice_of_owns ho2
    exact h a' c' w' ho2 hg

/-- appV in a region that draws its order. -/
theorem step_appV {w : World} {ops : Array Oper} {o : Oper} {act : Act} {K : Act → World → Prop} {Q : Exit → Act → World → Prop} {E : Prop} (hgd : o.guard = none) (s x : Operand)
    (ho : o.op = .call { callee := .builtin .append, args := #[s, x], argTypes := #[27, 27] })
    (B : Nat) (a : Option Addr) (n c : Nat) (xs : List Value) (hs : act.eval s = .slice a n c) (hown : w.ownsRow B 29 6 (.slice a n c) n xs)
    (g : Nat) (hx : act.eval x = .slice (some ⟨g, 0, none⟩) 1 1) (news : List Value) (hl : news.length = 6) (h1 : ∀ u ∈ news, u.oneCell' = true) (hb : Blk w g 29 news.toArray) (hsz : n ≤ 1099511627776) (hB : B ≤ w.heap.size)
    (h : ∀ a' c' w', w'.ownsRow B 29 6 (.slice a' (n + 1) c') (n + 1) (xs ++ news) → w.grownBy w' (Value.ownBlock (.slice a n c)) → K (act.put o.dst (.slice a' (n + 1) c')) w') :
    if Region.wanted o (yielded ops act.tmps) = true then Oper.wp Tryd.prog o act w K Q else E := by
  have hw : Region.wanted o (yielded ops act.tmps) = true := by simp [Region.wanted, hgd]
  rw [if_pos hw]
  obtain ⟨i, z, hi, hz, h6, h88, hz6⟩ := infoV
  refine wp_append_own w s x 27 ho B 29 i z 6 88 Tryd.underlying27 hi hz h6 h88 hz6 (by omega) _ n xs hs hown ⟨g, 0, none⟩ 1 1 news hx (by rw [hl]) ?_ h1 (by simp only [maxLen]; omega) (by omega) hB ?_
  · intro j u hj
    have e : (⟨g, 0, none⟩ : Addr).add j = ⟨g, j, none⟩ := by unfold Addr.add; split <;> simp_all
    rw [e]
    exact hb.cell (by simpa using hj)
  · intro v' w' ho2 hg _
    obtain ⟨a', c', rfl⟩ := slice_of_owns ho2
    exact h a' c' w' ho2 hg

theorem Has6.alloc {W : World} {g : Nat} (h : Has6 W g) (o : Obj) : Has6 (W.alloc o) g := by obtain ⟨cs, hb, hs⟩ := h; exact ⟨cs, hb.alloc o, hs⟩

theorem Rd.belowAt {w w' : World} {B : Nat} (hb : Below B w w') {a : Option Addr} {xs : List Value} (h : Rd w a xs) (hlt : ∀ x, a = some x → x.block < B) : Rd w' a xs := by
  rcases h with h | ⟨b, off, ha, hx⟩
  · exact .inl h
  · refine .inr ⟨b, off, ha, fun i v hv => ?_⟩
    rw [hb.cell (p := ⟨b, off + i, none⟩) (hlt ⟨b, off, none⟩ ha)]
    exact hx i v hv
theorem lt_of_owns {w : World} {B e size n c n' : Nat} {a : Option Addr} {xs : List Value} (h : w.ownsRow B e size (.slice a n c) n' xs) : ∀ x, a = some x → x.block < w.heap.size := by
  intro x hx
  rcases h.2 with ⟨h1, _⟩ | ⟨g, cap, cur, hv, hg, hh, _⟩
  · injection h1 with h1; rw [h1] at hx; cases hx
  · injection hv with h1; rw [h1] at hx; injection hx with hx; subst hx; exact (Array.getElem?_eq_some_iff.1 hh).1

theorem rd_of_row {k : IntKind} {w : World} {a : Option Addr} {len cap : Nat} {zs : List Int}
    (h : (a = none ∧ len = 0 ∧ cap = 0 ∧ zs = []) ∨ ∃ x, a = some x ∧ len ≤ cap ∧ cap ≤ maxLen ∧ zs.length = cap ∧ (∀ i, i < zs.length → w.cell? (x.add i) = some (.int k (zs.getD i 0))) ∧ ∀ n ∈ zs, (Lit.int k n).wf = true) :
    Rd w a ((zs.take len).map (Value.int k)) ∧ (zs.take len).length = len ∧ ∀ x ∈ zs.take len, (Lit.int k x).wf = true := by
  rcases h with ⟨rfl, rfl, rfl, rfl⟩ | ⟨x, rfl, hl, hm, hz, hc, hw⟩
  · exact ⟨.inl rfl, rfl, by simp⟩
  · refine ⟨?_, by rw [List.length_take]; omega, fun y hy => hw y (List.mem_of_mem_take hy)⟩
    by_cases h0 : len = 0
    · subst h0; exact .inl (by simp)
    · obtain ⟨b, off, spot⟩ := x
      have h1 := hc 0 (by omega)
      have hsp : spot = none := by simpa [Addr.add] using World.cell?_spot h1
      subst hsp
      refine .inr ⟨b, off, rfl, fun i v hi => ?_⟩
      have hil : i < len := by
        have := (List.getElem?_eq_some_iff.1 hi).1
        simp at this; omega
      have e : (⟨b, off, none⟩ : Addr).add i = ⟨b, off + i, none⟩ := by unfold Addr.add; split <;> simp_all
      rw [← e, hc i (by omega)]
      simp [List.getElem?_take, hil] at hi
      obtain ⟨y, hy, rfl⟩ := hi
      simp [List.getD, hy]

/-- The head of an array of m elements of s bytes in all. -/
def arrHd (z : Int) (m s : Nat) : List Int :=
  if s + 2 ≤ 255 then [224, (s : Int) + 2, (m : Int), z]
  else 240 :: ((s : Int) + 5) / 16777216 :: ((s : Int) + 5) / 65536 % 256 :: ((s : Int) + 5) / 256 % 256 :: ((s : Int) + 5) % 256 :: (m : Int) / 16777216 :: (m : Int) / 65536 % 256 :: (m : Int) / 256 % 256 :: (m : Int) % 256 :: [z]

theorem arrHd_len (z : Int) (m s : Nat) : (arrHd z m s).length ≤ 10 := by unfold arrHd; split <;> simp

theorem whole_arrHd (z k s : Int) (hz : z ≠ 0) (hkz : Kind z k s) (es : Els) (hes : ∀ e ∈ es, Elem z k e) (hm : es.length ≤ 1048576) (hfl : (flat es).length ≤ 1073741824) (hms : es.length ≤ (flat es).length) : WholeA (arrHd z es.length (flat es).length ++ flat es) k es := by
  unfold arrHd
  split
  · exact whole_arr 224 1 ⟨rfl, rfl⟩ (by omega) (by omega) (by omega) (by omega) z k s hz hkz es hes hm [((flat es).length : Int) + 2] [(es.length : Int)] rfl rfl (by simp [beN]; omega) (by simp [beN])
  · exact whole_arr 240 4 ⟨rfl, rfl⟩ (by omega) (by omega) (by omega) (by omega) z k s hz hkz es hes hm
      [(((flat es).length : Int) + 5) / 16777216, (((flat es).length : Int) + 5) / 65536 % 256, (((flat es).length : Int) + 5) / 256 % 256, (((flat es).length : Int) + 5) % 256]
      [(es.length : Int) / 16777216, (es.length : Int) / 65536 % 256, (es.length : Int) / 256 % 256, (es.length : Int) % 256] rfl rfl (by simp [beN]; omega) (by simp [beN]; omega)

theorem Bf.alloc {w : World} {g : Nat} {l : List Int} (h : Bf w g l) (o : Obj) : Bf (w.alloc o) g l := by
  obtain ⟨a, n, c, hB, ho⟩ := h.ex
  exact ⟨a, n, c, hB.alloc o, ho.alloc o⟩
theorem Bf.drewN {w : World} {g : Nat} {l : List Int} (h : Bf w g l) (k : Nat) : Bf (w.drewN k) g l := by
  obtain ⟨a, n, c, hB, ho⟩ := h.ex
  exact ⟨a, n, c, hB.drewN k, ho.drewN k⟩

theorem float_from (n : Int) (w : World) : (callFunc 37 #[.int .u64 n]).run Tryd.prog w = .ok (.value (.float .f64 n.toNat)) w :=
  (run_callFunc_extern (P := Tryd.prog) (e := Extern.MathFloatBits.float64frombits) Tryd.func37 (by kernel_rfl) (by kernel_rfl) (by kernel_rfl) (by kernel_rfl) #[.int .u64 n] w).trans rfl
theorem float_to (n : Nat) (w : World) : (callFunc 51 #[.float .f64 n]).run Tryd.prog w = .ok (.value (.int .u64 n)) w :=
  (run_callFunc_extern (P := Tryd.prog) (e := Extern.MathFloatBits.float64bits) Tryd.func51 (by kernel_rfl) (by kernel_rfl) (by kernel_rfl) (by kernel_rfl) #[.float .f64 n] w).trans rfl

set_option maxRecDepth 100000 in
set_option maxHeartbeats 4000000 in
theorem arrHead_buf (g : Nat) (w : World) (hb : Bf w g []) (m t : Nat) (z : Int) (hm : m ≤ 1000) (ht : t ≤ 16) (ht1 : 1 ≤ t) (hz0 : 0 ≤ z) (hz1 : z < 256) :
    Calls Tryd.prog 49 #[.pointer (some ⟨g, 0, none⟩), .int .i64 m, .int .i64 t, .int .u8 z] w fun e w' => e = .returned (.tuple #[]) ∧ Bf w' g (arrHd z m (m * t)) ∧ Below g w w' := by
  have hmt : m * t ≤ 1000 * 16 := Nat.mul_le_mul hm ht
  have hmm : m ≤ m * t := Nat.le_mul_of_pos_right m ht1
  obtain ⟨s, hs⟩ : ∃ s, s = m * t := ⟨_, rfl⟩
  have hsi : (m : Int) * (t : Int) = (s : Int) := by rw [hs]; simp
  rw [← hs] at hmt hmm ⊢
  clear hs
  have hbl := hb.lt
  unfold arrHd
  by_cases hsm : s + 2 ≤ 255
  · rw [if_pos hsm]
    have w1 : ((s : Int) + 2) % 256 = (s : Int) + 2 := by omega
    have w2 : (m : Int) % 256 = (m : Int) := by omega
    have d1 : decide ((s : Int) + 2 ≤ 255) = true := by simp; omega
    have hl := Own.lit 5 w [224, (s : Int) + 2, (m : Int), z] (by simp; omega) (by simp)
    go_enter Tryd.func49, Tryd.ntmps49
    go_wp2_with fail
    refine (bufAppend g [] _ 4 4 [224, (s : Int) + 2, (m : Int), z] _ (hb.alloc _) hl.vw (by simp)).mono ?_
    rintro e w1 ⟨rfl, hb1, hl1⟩
    go_wp2_with fail
    first | go_end0 | refine bodyPost_ret (results_none rfl _ _ _) rfl ?_
    exact ⟨rfl, hb1, Below.trans ((Below.refl _ _).alloc (by omega) _) hl1⟩
  · rw [if_neg hsm]
    have w1 : ((s : Int) + 5) % 4294967296 = (s : Int) + 5 := by omega
    have w2 : (m : Int) % 4294967296 = (m : Int) := by omega
    have d1 : decide ((s : Int) + 2 ≤ 255) = false := by simp; omega
    go_enter Tryd.func49, Tryd.ntmps49
    go_wp2_with fail
    refine (bufByte g [] 240 _ hb (by omega) (by omega) (by simp)).mono ?_
    rintro e w1 ⟨rfl, hb1, hl1⟩
    go_wp2_with fail
    refine (bufU32 g _ ((s : Int) + 5) _ hb1 (by omega) (by omega) (by simp)).mono ?_
    rintro e w2 ⟨rfl, hb2, hl2⟩
    go_wp2_with fail
    refine (bufU32 g _ (m : Int) _ hb2 (by omega) (by omega) (by simp)).mono ?_
    rintro e w3 ⟨rfl, hb3, hl3⟩
    go_wp2_with fail
    refine (bufByte g _ z _ hb3 hz0 hz1 (by simp)).mono ?_
    rintro e w4 ⟨rfl, hb4, hl4⟩
    go_wp2_with fail
    first | go_end0 | refine bodyPost_ret (results_none rfl _ _ _) rfl ?_
    exact ⟨rfl, by simpa using hb4, hl1.trans (hl2.trans (hl3.trans hl4))⟩
end Go.Proofs.YtkbfppjniaejnaaDoor
