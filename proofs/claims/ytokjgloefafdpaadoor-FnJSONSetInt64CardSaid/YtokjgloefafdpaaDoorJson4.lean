/- spec's reader of JSON: an array of numbers. -/
import Derived.Test.YtokjgloefafdpaaDoorJson3
import Derived.Test.YtokjgloefafdpaaDoorSameJ
import Derived.Deep.RegionLawGrows
namespace Go.Proofs.YtokjgloefafdpaaDoor
open Go.RowKit Go.Lib
set_option linter.unusedVariables false
set_option linter.unusedSimpArgs false

/-- Numbers that stand one behind the other from a place on, up to a bracket. -/
def ElAt (s : ByteArray) : List (Int × Int) → Nat → Nat → Prop
  | [], _, _ => False
  | q :: r, p, e => ∃ n b, NumAt s p n q.1 q.2 ∧ Bt s p b ∧ (b.toNat = 45 ∨ 48 ≤ b.toNat ∧ b.toNat ≤ 57) ∧ ((r = [] ∧ Bt s (p + n) 93 ∧ e = p + n + 1) ∨ (r ≠ [] ∧ Bt s (p + n) 44 ∧ ElAt s r (p + n + 1) e))

theorem owns_jg {w w' : World} {J B e size n : Nat} {v : Value} {xs : List Value} (h : w.ownsRow B e size v n xs) (hg : w.grownBy w' (some J)) (hJ : J < B) : w'.ownsRow B e size v n xs := by
  refine ⟨h.1, ?_⟩
  rcases h.2 with h1 | ⟨g, cap, cur, hv, hge, hh, r⟩
  · exact .inl h1
  · refine .inr ⟨g, cap, cur, hv, hge, ?_, r⟩
    rw [hg.block g (Array.getElem?_eq_some_iff.1 hh).1 (fun e => by injection e with e; omega)]; exact hh
theorem blk_jg {w w' : World} {J g t : Nat} {cs : Array Value} (h : Blk w g t cs) (hg : w.grownBy w' (some J)) (hJ : J < g) : Blk w' g t cs := by
  unfold Blk
  rw [hg.block g h.lt (fun e => by injection e with e; omega)]
  exact h
theorem jg_alloc {a b : World} {J : Nat} (h : a.grownBy b (some J)) (o : Obj) : a.grownBy (b.alloc o) (some J) := h.andThen (World.grownBy_alloc b o none) (fun j hj => by cases hj)
theorem jg_own {a b c : World} {J B n cc : Nat} {x : Option Addr} (h : a.grownBy b (some J)) (hg : b.grownBy c (Value.ownBlock (.slice x n cc))) (hx : ∀ y, x = some y → B ≤ y.block) (hB : a.heap.size ≤ B) : a.grownBy c (some J) :=
  h.andThen hg (fun j hj => by
    cases x with
    | none => cases hj
    | some y => injection hj with hj; exact .inl (by have := hx y rfl; omega))
theorem jg_set2 {a w : World} {J g : Nat} (h : a.grownBy w (some J)) (hg : a.heap.size ≤ g) (o : Nat) (v : Value) : a.grownBy (w.setCell ⟨g, o, none⟩ v) (some J) := h.andThen (jg_set w g o v) (fun j hj => by injection hj with hj; exact .inl (by omega))

set_option maxRecDepth 100000 in
theorem step_appP {w : World} {ops : Array Oper} {o : Oper} {act : Act} {K : Act → World → Prop} {Q : Exit → Act → World → Prop} {X : Prop} (hgd : o.guard = none) (s x : Operand)
    (ho : o.op = .call { callee := .builtin .append, args := #[s, x], argTypes := #[27, 27] })
    (B : Nat) (a : Option Addr) (n c : Nat) (xs : List Value) (hs : act.eval s = .slice a n c) (hown : w.ownsRow B 29 5 (.slice a n c) n xs)
    (g : Nat) (hx : act.eval x = .slice (some ⟨g, 0, none⟩) 1 1) (news : List Value) (hl : news.length = 5) (h1 : ∀ u ∈ news, u.oneCell' = true) (hb : Blk w g 29 news.toArray) (hsz : n ≤ 1099511627775) (hB : B ≤ w.heap.size)
    (h : ∀ a' c' w', w'.ownsRow B 29 5 (.slice a' (n + 1) c') (n + 1) (xs ++ news) → w.grownBy w' (Value.ownBlock (.slice a n c)) → K (act.put o.dst (.slice a' (n + 1) c')) w') :
    if Region.wanted o (yielded ops act.tmps) = true then Oper.wp Tryd.prog o act w K Q else X := by
  have hw : Region.wanted o (yielded ops act.tmps) = true := by simp [Region.wanted, hgd]
  rw [if_pos hw]
  have hinf : ∃ i z, Tryd.prog.info? 29 = some i ∧ i.zero = some z ∧ i.size = 5 ∧ i.bytes = 64 ∧ z.cells.size = 5 := by
    have hinfo := infoPk
    cases hq : Tryd.prog.info? 29 with
    | none => rw [hq] at hinfo; cases hinfo
    | some i =>
      rw [hq] at hinfo
      simp at hinfo
      obtain ⟨⟨z, hz, hz6⟩, h2, h3⟩ := hinfo
      exact ⟨i, z, rfl, hz, h2, h3, hz6⟩
  obtain ⟨i, z, hi, hz, h6, h88, hz6⟩ := hinf
  refine wp_append_own w s x 27 ho B 29 i z 5 64 Tryd.underlying27 hi hz h6 h88 hz6 (by omega) _ n xs hs hown ⟨g, 0, none⟩ 1 1 news hx (by rw [hl, Nat.one_mul]) ?_ h1 (by simp only [maxLen]; omega) (by omega) hB ?_
  · intro j u hj
    have e : (⟨g, 0, none⟩ : Addr).add j = ⟨g, j, none⟩ := by unfold Addr.add; split <;> simp_all
    rw [e]
    exact hb.cell (by simpa using hj)
  · intro v' w' ho2 hg _
    obtain ⟨a', c', rfl⟩ := slice_of_owns ho2
    exact h a' c' w' ho2 hg

set_option maxRecDepth 100000 in
set_option maxHeartbeats 4000000 in
theorem list_nums (s : ByteArray) (ps : List (Int × Int)) (i e0 : Nat) (hE : ElAt s ps (i + 1) e0) (hs : s.size ≤ 1000000) (hm : ps.length ≤ 1000) (J : Nat) (w : World) (hJ : JT w J s i) :
    Calls Tryd.prog 41 #[.pointer (some ⟨J, 0, none⟩), .int .i64 8, .int .u8 93, .int .i64 50] w fun e w' => ∃ ka kc, e = .returned (.agg #[.int .i64 8, .int .u64 0, .string ⟨#[]⟩, .int .i64 0, .slice ka ps.length kc]) ∧ JT w' J s e0 ∧ w.grownBy w' (some J) ∧ Rd w' ka (l5s ps) ∧ (∀ x, ka = some x → w.heap.size ≤ x.block) := by
  have hJl := Blk.lt hJ
  obtain ⟨m, hmm⟩ : ∃ m, m = ps.length := ⟨_, rfl⟩
  have hm0 : 0 < m := by
    cases ps with
    | nil => exact hE.elim
    | cons q r => rw [hmm]; simp
  have hd : ∃ b, Bt s (i + 1) b ∧ (b.toNat = 45 ∨ 48 ≤ b.toNat ∧ b.toNat ≤ 57) := by
    cases ps with
    | nil => exact hE.elim
    | cons q r => obtain ⟨n, b, _, hb, hbv, _⟩ := hE; exact ⟨b, hb, hbv⟩
  obtain ⟨b, hb, hbv⟩ := hd
  rw [← hmm] at hm ⊢
  have HM := Lib.hid hmm
  have HE := Lib.hid hE
  have HJ := Lib.hid hJ
  have HN1 := Lib.hid (fun W (h : JT W J s (i + 1)) => eat_no J s (i + 1) b 93 (by omega) W h hb (by omega) hs)
  have q0 : ∀ o, (w.alloc o).cell? ⟨J, 1, none⟩ = some (.int .i64 i) := fun o => Blk.cell (Blk.alloc hJ o) rfl
  have q1 : ∀ o o2, ((w.alloc o).alloc o2).cell? ⟨J, 1, none⟩ = some (.int .i64 i) := fun o o2 => Blk.cell (Blk.alloc (Blk.alloc hJ o) o2) rfl
  have q2 : ∀ o o2, ((w.alloc o).alloc o2).frozen? ⟨J, 1, none⟩ = false := fun o o2 => Blk.frozen (Blk.alloc (Blk.alloc hJ o) o2) 1
  have hli : i + 1 < s.size := hb.lt
  clear hE hJ hbv hb hmm
  go_enter Tryd.func41, Tryd.ntmps41
  go_wp2_with fail
  obtain ⟨w0, hw0⟩ : ∃ w0 : World, w0 = w.setCell ⟨J, 1, none⟩ (.int .i64 ((i : Int) + 1)) := ⟨_, rfl⟩
  have hs0 : w0.heap.size = w.heap.size := by rw [hw0]; simp
  have hJ0 : JT w0 J s (i + 1) := by rw [hw0]; exact JT.adv HJ.out _ _ (by omega)
  have hg0 : w.grownBy w0 (some J) := by rw [hw0]; exact jg_set _ _ _ _
  rw [← hw0]
  have hJ1 : JT ((w0.alloc (.cells #[.int .i64 0, .int .u64 0, .string ⟨#[]⟩, .int .i64 0, .slice none 0 0] 29)).alloc (.cells #[.int .i64 8, .int .u64 0, .string ⟨#[]⟩, .int .i64 0, .slice none 0 0] 29)) J s (i + 1) := Blk.alloc (Blk.alloc hJ0 _) _
  have hg1 : w.grownBy ((w0.alloc (.cells #[.int .i64 0, .int .u64 0, .string ⟨#[]⟩, .int .i64 0, .slice none 0 0] 29)).alloc (.cells #[.int .i64 8, .int .u64 0, .string ⟨#[]⟩, .int .i64 0, .slice none 0 0] 29)) (some J) := jg_alloc (jg_alloc hg0 _) _
  have hP1 : Blk ((w0.alloc (.cells #[.int .i64 0, .int .u64 0, .string ⟨#[]⟩, .int .i64 0, .slice none 0 0] 29)).alloc (.cells #[.int .i64 8, .int .u64 0, .string ⟨#[]⟩, .int .i64 0, .slice none 0 0] 29)) w.heap.size 29 #[.int .i64 0, .int .u64 0, .string ⟨#[]⟩, .int .i64 0, .slice none 0 0] := Blk.alloc (Blk.newAt hs0.symm _ _) _
  have hV1 : Blk ((w0.alloc (.cells #[.int .i64 0, .int .u64 0, .string ⟨#[]⟩, .int .i64 0, .slice none 0 0] 29)).alloc (.cells #[.int .i64 8, .int .u64 0, .string ⟨#[]⟩, .int .i64 0, .slice none 0 0] 29)) (w.heap.size + 1) 29 #[.int .i64 8, .int .u64 0, .string ⟨#[]⟩, .int .i64 0, .slice none 0 0] := Blk.newAt (by simp [hs0]) _ _
  have hsz1 : w.heap.size + 2 ≤ ((w0.alloc (.cells #[.int .i64 0, .int .u64 0, .string ⟨#[]⟩, .int .i64 0, .slice none 0 0] 29)).alloc (.cells #[.int .i64 8, .int .u64 0, .string ⟨#[]⟩, .int .i64 0, .slice none 0 0] 29)).heap.size := by simp; omega
  clear hw0 hs0 hJ0 hg0 q0 q1 q2
  generalize (w0.alloc (.cells #[.int .i64 0, .int .u64 0, .string ⟨#[]⟩, .int .i64 0, .slice none 0 0] 29)).alloc (.cells #[.int .i64 8, .int .u64 0, .string ⟨#[]⟩, .int .i64 0, .slice none 0 0] 29) = w1 at *
  refine (HN1.out _ hJ1).mono ?_
  rintro e w1 ⟨rfl, q, rfl⟩
  have HK1 := Lib.hid (And.intro (Blk.drewN hJ1 q) (And.intro (Blk.drewN hP1 q) (And.intro (Blk.drewN hV1 q) (jg_trans hg1 (jg_drewN _ q J)))))
  have hsz2 : w.heap.size + 2 ≤ (w1.drewN q).heap.size := by simpa using hsz1
  clear hJ1 hg1 hP1 hV1 hsz1
  generalize w1.drewN q = w2 at *
  go_wp2_with fail
  go_loopw [] (fun wr => ∃ j p : Nat, j < m ∧ Hid (ElAt s (ps.drop j) p e0) ∧ ∃ ka kc, Hid (JT wr J s p) ∧ Hid (Blk wr w.heap.size 29 #[.int .i64 0, .int .u64 0, .string ⟨#[]⟩, .int .i64 0, .slice none 0 0]) ∧ Hid (Blk wr (w.heap.size + 1) 29 #[.int .i64 8, .int .u64 0, .string ⟨#[]⟩, .int .i64 0, .slice ka j kc]) ∧
      Hid (wr.ownsRow (w.heap.size + 2) 29 5 (.slice ka j kc) j (l5s (ps.take j))) ∧ Hid (w.grownBy wr (some J) ∧ w.heap.size + 2 ≤ wr.heap.size)) (fun wr => s.size - posOf wr J)
  case atStart => exact ⟨0, i + 1, hm0, Lib.hid HE.out, none, 0, Lib.hid HK1.out.1, Lib.hid HK1.out.2.1, Lib.hid HK1.out.2.2.1, Lib.hid (World.ownsRow_nil _ _ _ _), Lib.hid ⟨HK1.out.2.2.2, hsz2⟩⟩
  case round =>
    obtain ⟨j, p, hj, hE, ka, kc, hJr, hPr, hVr, how, hbr⟩ := hrel
    have hjp : j < ps.length := by have := HM.out; omega
    have hE2 := hE.out
    rw [List.drop_eq_getElem_cons hjp] at hE2
    obtain ⟨n, b, hN, hb, hbv, hrest⟩ := hE2
    have hlt := hb.lt
    have HV := Lib.hid (fun W (h : JT W J s p) => value_num s p n _ _ hN b hb hbv hs J 49 (by omega) (by omega) W h)
    obtain ⟨x, hx⟩ : ∃ x, x = ps[j] := ⟨_, rfl⟩
    rw [← hx] at HV
    have hsn := l5s_snoc ps j hjp
    rw [← hx] at hsn
    have HS := Lib.hid hsn
    have HR := Lib.hid hrest
    have b0 : wr.cell? ⟨J, 2, none⟩ = some (.bool false) := Blk.cell hJr.out rfl
    have hpos : posOf wr J = p := hJr.out.pos
    have c4 : wr.cell? ⟨w.heap.size + 1, 4, none⟩ = some (.slice ka j kc) := Blk.cell hVr.out rfl
    have HPOS := Lib.hid hpos
    clear hN hb hbv hrest hx hsn hE hpos
    unfold pkN at HV
    go_wp2_with fail
    have hbs := hbr.out.2
    go_region_law (first | (refine step_appP (by rfl) (.tmp 70) (.tmp 75) (by rfl) (w.heap.size + 2) ka j kc _ (by simp [Act.eval, Act.put]) (World.ownsRow.alloc ho3 _) w3.heap.size (by simp [Act.eval, Act.put]) (l5 x) rfl (by intro u hu; simp [l5] at hu; rcases hu with rfl | rfl | rfl | rfl | rfl <;> rfl) (Blk.new _ _ _) (by omega) (by simp at hs3 ⊢; omega) ?_; intro ka5 kc5 w5 ho5 hg5; have hV5 := blk_grown ((blk_jg hVr.out.drew hg3 (by omega)).alloc _) hg5 (ge_of_owns ho3) (by omega); have f5 := hV5.frozen 4; have q5 := Blk.cell hV5 (i := 4) (v := .slice ka j kc) rfl) | (go_simp; refine (HV.out _ (Blk.drew hJr.out)).mono ?_; rintro e w3 ⟨rfl, hJ3, hg3⟩; have ho3 := owns_jg how.out.drew hg3 (by omega); have hs3 := hg3.size; have c43 := Blk.cell (blk_jg hVr.out.drew hg3 (by omega)) (i := 4) (v := .slice ka j kc) rfl; have c43a := fun o => Blk.cell ((blk_jg hVr.out.drew hg3 (by omega)).alloc o) (i := 4) (v := .slice ka j kc) rfl) | fail)
    all_goals
      have hs5 := hg5.size
      have hJ5 : JT w5 J s (p + n) := blk_grown (Blk.alloc hJ3 _) hg5 (ge_of_owns ho3) (by omega)
      have hP5 := blk_grown ((blk_jg hPr.out.drew hg3 (by omega)).alloc _) hg5 (ge_of_owns ho3) (by omega)
      have hgw : w.grownBy w5 (some J) := jg_own (jg_alloc (jg_trans (jg_trans hbr.out.1 (jg_drewN wr 1 J)) hg3) _) hg5 (ge_of_owns ho3) (by omega)
      have hJ6 : JT (w5.setCell ⟨w.heap.size + 1, 4, none⟩ (.slice ka5 (j + 1) kc5)) J s (p + n) := Blk.other hJ5 (p := ⟨w.heap.size + 1, 4, none⟩) (by simp; omega) _
      have hP6 := Blk.other hP5 (p := ⟨w.heap.size + 1, 4, none⟩) (by simp) (.slice ka5 (j + 1) kc5)
      have hV6 := hV5.set 4 (.slice ka5 (j + 1) kc5)
      have hrow := owns_set ho5 (p := ⟨w.heap.size + 1, 4, none⟩) (by simp) (.slice ka5 (j + 1) kc5)
      rw [← HS.out] at hrow
      have hg6 := jg_set2 hgw (by omega : w.heap.size ≤ w.heap.size + 1) 4 (.slice ka5 (j + 1) kc5)
      have hs6 : w.heap.size + 2 ≤ (w5.setCell ⟨w.heap.size + 1, 4, none⟩ (.slice ka5 (j + 1) kc5)).heap.size := by simp at hs3 hs5 ⊢; omega
      have HX := Lib.hid (And.intro hJ6 (And.intro hP6 (And.intro hV6 (And.intro hrow hg6))))
      clear hJ5 hP5 hgw hJ6 hP6 hV6 hrow hg6 hV5 ho5 hg5 f5 q5 hJ3 hg3 ho3 c43 c43a hs3 hs5 b0 c4
      generalize w5.setCell ⟨w.heap.size + 1, 4, none⟩ (.slice ka5 (j + 1) kc5) = w6 at *
      rcases HR.out with ⟨hr, hc, he⟩ | ⟨hr, hc, hE3⟩
      · have hjm : j + 1 = m := by have := HM.out; have := congrArg List.length hr; simp at this; omega
        have HC := Lib.hid (eat_yes J s (p + n) 93 93 (by decide) w6 HX.out.1 hc (by decide) hs)
        have HE3 := Lib.hid he
        have HJM := Lib.hid hjm
        clear hr hc he hjm
        go_wp2_with fail
        refine HC.out.mono ?_
        rintro e w7 ⟨rfl, hJ7, hg7⟩
        have hV7 := blk_jg HX.out.2.2.1 hg7 (by omega)
        have hP7 := blk_jg HX.out.2.1 hg7 (by omega)
        have ho7 := owns_jg HX.out.2.2.2.1 hg7 (by omega)
        have HY := Lib.hid (And.intro hJ7 (And.intro ho7 (jg_trans HX.out.2.2.2.2 hg7)))
        clear hJ7 hg7 ho7
        have d0 : w7.cell? ⟨w.heap.size + 1, 0, none⟩ = some (.int .i64 8) := hV7.cell rfl
        have d1 : w7.cell? ⟨w.heap.size + 1, 1, none⟩ = some (.int .u64 0) := hV7.cell rfl
        have d2 : w7.cell? ⟨w.heap.size + 1, 2, none⟩ = some (.string ⟨#[]⟩) := hV7.cell rfl
        have d3 : w7.cell? ⟨w.heap.size + 1, 3, none⟩ = some (.int .i64 0) := hV7.cell rfl
        have d4 : w7.cell? ⟨w.heap.size + 1, 4, none⟩ = some (.slice ka5 (j + 1) kc5) := hV7.cell rfl
        go_wp2_with (refine wpList_store_row (by rfl) 29 _ _ (by rfl) w.heap.size _ (by rfl) (by rfl) _ _ hP7 (by kernel_rfl) (by rfl) (by simp [Value.oneCell']) ?_)
        refine bodyPost_ret (results_cJ rfl _ _ w.heap.size 29 _ _ rfl (hP7.row _) Tryd.underlying29 rfl (by kernel_rfl)) rfl ⟨ka5, kc5, by rw [HJM.out], ?_, ?_, ?_, ?_⟩
        · rw [HE3.out]; exact jt_row HY.out.1 (by omega) _
        · exact jg_row HY.out.2.2 (Nat.le_refl _) _
        · have ho8 := HY.out.2.1
          rw [HJM.out, HM.out, List.take_length] at ho8
          exact rd_row (Rd.of_owns ho8) _ (fun x hx => by have := ge_of_owns ho8 x hx; omega)
        · intro x hx; have := ge_of_owns HY.out.2.1 x hx; omega
      · have hjm : j + 1 < m := by
          have := HM.out
          rcases Nat.lt_or_ge (j + 1) ps.length with h | h
          · omega
          · exact absurd (List.drop_eq_nil_of_le h) hr
        have HC1 := Lib.hid (eat_no J s (p + n) 44 93 (by decide) w6 HX.out.1 hc (by decide) hs)
        have HC2 := Lib.hid (fun W h => eat_yes J s (p + n) 44 44 (by decide) W h hc (by decide) hs)
        have HE3 := Lib.hid hE3
        clear hr hc hE3
        go_wp2_with fail
        refine HC1.out.mono ?_
        rintro e w7 ⟨rfl, q7, rfl⟩
        have HX7 := Lib.hid (And.intro (Blk.drewN HX.out.1 q7) (And.intro (Blk.drewN HX.out.2.1 q7) (And.intro (Blk.drewN HX.out.2.2.1 q7) (And.intro (owns_jg HX.out.2.2.2.1 (jg_drewN w6 q7 J) (by omega)) (jg_trans HX.out.2.2.2.2 (jg_drewN w6 q7 J))))))
        have hs7 : w.heap.size + 2 ≤ (w6.drewN q7).heap.size := by simpa using hs6
        generalize w6.drewN q7 = w7 at *
        go_wp2_with fail
        refine (HC2.out w7 HX7.out.1).mono ?_
        rintro e w8 ⟨rfl, hJ8, hg8⟩
        have hpos8 := hJ8.pos
        have HX8 := Lib.hid (And.intro hJ8 (And.intro (blk_jg HX7.out.2.1 hg8 (by omega)) (And.intro (blk_jg HX7.out.2.2.1 hg8 (by omega)) (And.intro (owns_jg HX7.out.2.2.2.1 hg8 (by omega)) (jg_trans HX7.out.2.2.2.2 hg8)))))
        have hs8 : w.heap.size + 2 ≤ w8.heap.size := by have := hg8.size; omega
        clear hJ8 hg8
        have HPOS8 := Lib.hid hpos8
        clear hpos8
        go_wp2_with fail
        go_roundw
        case rel => exact ⟨j + 1, p + n + 1, hjm, HE3, ka5, kc5, Lib.hid HX8.out.1, Lib.hid HX8.out.2.1, Lib.hid HX8.out.2.2.1, Lib.hid HX8.out.2.2.2.1, Lib.hid ⟨HX8.out.2.2.2.2, hs8⟩⟩
        case measure => rw [HPOS.out, HPOS8.out]; omega
end Go.Proofs.YtokjgloefafdpaaDoor
