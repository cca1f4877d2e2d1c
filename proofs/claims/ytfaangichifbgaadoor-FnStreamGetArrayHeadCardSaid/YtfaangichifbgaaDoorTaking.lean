/- impl.taking: values read by a Reader, one behind the other; impl.StreamGet... -/
import Derived.Test.YtfaangichifbgaaDoorReading
namespace Go.Proofs.YtfaangichifbgaaDoor
open Go.RowKit
set_option linter.unusedVariables false
set_option linter.unusedSimpArgs false

/-- What an append leaves lies where it lay, or in a new block. -/
theorem run_app_where {P : Program} (w : World) (base : Nat) (t ty e : TypeId) (i : TypeInfo) (z : Value) (size bytes : Nat) (ht : P.underlying t = some (.slice e)) (hi : P.info? e = some i) (hz : i.zero = some z)
    (hsize : i.size = size) (hby : i.bytes = bytes) (hzs : z.cells.size = size) (hsz : 0 < size)
    (v : Value) (n : Nat) (xs : List Value) (hown : w.ownsRow base e size v n xs)
    (a : Addr) (m c : Nat) (news : List Value) (hl : news.length = m * size) (hnews : ∀ j u, news[j]? = some u → w.cell? (a.add j) = some u) (h1 : ∀ u ∈ news, u.oneCell' = true)
    (h63 : n + m ≤ maxLen) (hbytes : (n + m) * bytes ≤ 140737488355328) (hbase : base ≤ w.heap.size) :
    ∃ v' w', (Builtin.append_ #[t, t] ty #[v, .slice (some a) m c]).run P w = .ok v' w' ∧ w'.ownsRow base e size v' (n + m) (xs ++ news) ∧ w.grownBy w' v.ownBlock ∧
      ∀ k, v'.ownBlock = some k → v.ownBlock = some k ∨ w.heap.size ≤ k := by
  obtain ⟨v', w', hr, h2, h3, _⟩ := run_append_own (P := P) w base t ty e i z size bytes ht hi hz hsize hby hzs hsz v n xs hown a m c news hl hnews h1 h63 hbytes hbase
  refine ⟨v', w', hr, h2, h3, ?_⟩
  intro k hk
  rcases hown.2 with ⟨rfl, rfl⟩ | ⟨g, cap, cur, rfl, hbg, hg, hnc, hcm, hcs, htake⟩
  · have hx : xs = [] := List.eq_nil_of_length_eq_zero (by simpa using hown.1)
    subst hx
    obtain ⟨v2, w2, hr2, h22, _, _⟩ := run_append_own (P := P) w w.heap.size t ty e i z size bytes ht hi hz hsize hby hzs hsz _ 0 [] (World.ownsRow_nil w _ e size) a m c news hl hnews h1 h63 hbytes (Nat.le_refl _)
    rw [hr] at hr2
    injection hr2 with e1 e2
    subst e1; subst e2
    exact .inr (h22.lt k hk).1
  · by_cases hroom : n + m ≤ cap
    · obtain ⟨w2, hr2, _, _⟩ := run_append_fits (P := P) w base t ty e i size ht hi hsize g n cap xs hown a m c news hl hnews h1 hroom
      rw [hr] at hr2
      injection hr2 with e1 e2
      subst e1
      exact .inl hk
    · have holds : ∀ j u, xs[j]? = some u → w.cell? ((⟨g, 0, none⟩ : Addr).add j) = some u := hown.cells (g := g) rfl
      subst hsize
      subst hby
      have hr2 := run_append_grow (P := P) w t ty e i z ht hi hz ⟨g, 0, none⟩ n cap xs hown.1 holds a m c news hl hnews (by omega) (by simp only [maxLen] at h63; omega) (growslice_fits (by omega) hbytes)
      rw [hr] at hr2
      injection hr2 with e1 e2
      subst e1
      simp [Value.ownBlock] at hk
      exact .inr (by omega)


/-- An append of one value of one cell, and where it lies. -/
theorem app1w {w : World} {ops : Array Oper} {rest : List Oper} {o : Oper} {act : Act} {Q : Exit → Act → World → Prop} (hgd : o.guard = none) (s x : Operand) (T E : TypeId) (z : Value) (by_ : Nat)
    (ho : o.op = .call { callee := .builtin .append, args := #[s, x], argTypes := #[T, T] })
    (hT : Tryd.prog.underlying T = some (.slice E)) (hinfo : (Tryd.prog.info? E).map (fun i => (i.zero, i.size, i.bytes)) = some (some z, 1, by_)) (hz1 : z.cells.size = 1) (hby : by_ ≤ 64)
    (B : Nat) (a : Option Addr) (n c : Nat) (xs : List Value) (hs : act.eval s = .slice a n c) (hown : w.ownsRow B E 1 (.slice a n c) n xs)
    (g : Nat) (v : Value) (hone : v.oneCell' = true) (hx : act.eval x = .slice (some ⟨g, 0, none⟩) 1 1) (hb : Blk w g E #[v]) (hsz : n ≤ 1099511627775) (hB : B ≤ w.heap.size)
    (h : ∀ a' c' w', w'.ownsRow B E 1 (.slice a' (n + 1) c') (n + 1) (xs ++ [v]) → w.grownBy w' (Value.ownBlock (.slice a n c)) → (∀ k, Value.ownBlock (.slice a' (n + 1) c') = some k → Value.ownBlock (.slice a n c) = some k ∨ w.heap.size ≤ k) → wpList Tryd.prog ops Q rest (act.put o.dst (.slice a' (n + 1) c')) w') : wpList Tryd.prog ops Q (o :: rest) act w := by
  obtain ⟨i, hi, hz, h1, h2⟩ := info_parts hinfo
  have hb2 : (n + 1) * by_ ≤ 1099511627776 * 64 := Nat.mul_le_mul (by omega) hby
  have hcell : ∀ j u, [v][j]? = some u → w.cell? ((⟨g, 0, none⟩ : Addr).add j) = some u := by
    intro j u hj
    have e : (⟨g, 0, none⟩ : Addr).add j = ⟨g, j, none⟩ := by unfold Addr.add; split <;> simp_all
    rw [e]
    refine hb.cell ?_
    cases j with
    | zero => simpa using hj
    | succ j => simp at hj
  obtain ⟨v', w', hr, ho2, hg, hwh⟩ := run_app_where (P := Tryd.prog) w B T o.type E i z 1 by_ hT hi hz h1 h2 hz1 (by omega) _ n xs hown ⟨g, 0, none⟩ 1 1 [v] rfl hcell (by intro u hu; simp at hu; subst hu; exact hone) (by simp only [maxLen]; omega) (by omega) hB
  obtain ⟨a', c', rfl⟩ := slice_of_owns ho2
  refine wpList_plain hgd fun K hK => ?_
  have hgo := hK _ _ (h a' c' w' ho2 hg hwh)
  unfold Oper.wp execOp
  simp only [ho, resolve, invoke, builtin, Sem.run_bind, Sem.run_pure, Result.andThen_ok, List.map_toArray, List.map_cons, List.map_nil, hs, hx, hr]
  exact hgo

theorem owns_frm {w w' : World} {B e n : Nat} {v : Value} {xs : List Value} {K : Nat → Prop} (h : w.ownsRow B e 1 v n xs) (hf : Frm w w' K) (hk : ∀ b, v.ownBlock = some b → ¬ K b) : w'.ownsRow B e 1 v n xs := by
  refine ⟨h.1, ?_⟩
  rcases h.2 with h1 | ⟨g, cap, cur, hv, hg, hh, hr⟩
  · exact .inl h1
  · refine .inr ⟨g, cap, cur, hv, hg, ?_, hr⟩
    have hlt : g < w.heap.size := (Array.getElem?_eq_some_iff.1 hh).1
    rw [hf.2 g hlt (hk g (by rw [hv]; rfl))]
    exact hh
theorem own_ne {w : World} {B e n : Nat} {v : Value} {xs : List Value} (h : w.ownsRow B e 1 v n xs) {R t : Nat} {cs : Array Value} (hR : Blk w R t cs) (ht : t ≠ e) : v.ownBlock ≠ some R := by
  intro hb
  rcases h.2 with ⟨rfl, _⟩ | ⟨g, cap, cur, rfl, hg, hh, hr⟩
  · cases hb
  · simp [Value.ownBlock] at hb; subst hb
    unfold Blk at hR; rw [hR] at hh; injection hh with hh; injection hh with _ hh; exact ht hh
theorem Rdr.blk {w : World} {B : Nat} {K : Nat → Prop} {R : Nat} {tot : List Int} (h : Rdr w B K R tot) : ∃ cs, Blk w R 90 cs := by
  obtain ⟨S, sa, sn, sc, d, mr, me, ms, hR, hn, hS⟩ := h
  exact ⟨_, hR⟩
theorem rdr_frm {w w' : World} {B : Nat} {K : Nat → Prop} {R : Nat} {tot : List Int} {bad : Nat → Prop} (h : Rdr w B K R tot) (hf : Frm w w' bad) (hk : ∀ b, K b → ¬ bad b) (hR : ¬ bad R) : Rdr w' B K R tot := by
  obtain ⟨S, sa, sn, sc, d, mr, me, ms, hR1, hn, D, ra, rn, rc, p, sz, room, da, dn, dc, rest, ch, hs, ht, hp⟩ := h
  refine ⟨S, sa, sn, sc, d, mr, me, ms, hf.blk hR1 hR, hn, D, ra, rn, rc, p, sz, room, da, dn, dc, rest, ch, ?_, ht, hp⟩
  exact { hs with hS := hf.blk hs.hS (hk _ hs.kS), hD := hf.blk hs.hD (hk _ hs.kD), hv := hf.vw hs.hv (fun x hx => hk _ (hs.kA x hx)), hO := hs.hO.kept (fun g cur ha hB => hf.blk hB (hk _ (hs.kO g (by rw [ha]; rfl)))), dne := fun x hx => by have h1 := hs.dne x hx; have := hf.1; exact ⟨h1.1, h1.2.1, h1.2.2.1, by omega⟩ }
theorem own_lt {w : World} {B e n : Nat} {v : Value} {xs : List Value} (h : w.ownsRow B e 1 v n xs) : ∀ b, v.ownBlock = some b → b < w.heap.size := by
  intro b hb
  rcases h.2 with ⟨rfl, _⟩ | ⟨g, cap, cur, rfl, hg, hh, hr⟩
  · cases hb
  · simp [Value.ownBlock] at hb; subst hb; exact (Array.getElem?_eq_some_iff.1 hh).1

def flatE (es : List (List Int)) : List Int := es.flatMap id
theorem flatE_snoc (es : List (List Int)) (j : Nat) (h : j < es.length) : flatE (es.take (j + 1)) = flatE (es.take j) ++ es[j] := by
  unfold flatE
  rw [List.take_succ_eq_append_getElem h, List.flatMap_append]
  simp
theorem flatE_drop (es : List (List Int)) (j : Nat) (h : j < es.length) : flatE (es.drop j) = es[j] ++ flatE (es.drop (j + 1)) := by
  unfold flatE
  rw [List.drop_eq_getElem_cons h, List.flatMap_cons]
  rfl
theorem flatE_len (es : List (List Int)) (M : Nat) (h : ∀ i (hi : i < es.length), es[i].length ≤ M) : ∀ j, j ≤ es.length → (flatE (es.take j)).length ≤ j * M
  | 0, _ => by simp [flatE]
  | j + 1, hj => by
    have := flatE_len es M h j (by omega)
    have h1 := h j (by omega)
    rw [flatE_snoc es j (by omega), List.length_append, Nat.succ_mul]
    omega


/-- What is taken. -/
def Taken (k : IntKind) (m : Nat) (vs : List Int) (w : World) (e : Ending) (w' : World) : Prop :=
  ∃ oa oc, e = .returned (.tuple #[.slice oa m oc, .bool true]) ∧ Rd w' oa (vs.map (Value.int k)) ∧ Below w.heap.size w w'
/-- The reader of what lies where its row does not. -/
def Apart (w : World) (B R : Nat) (o : Value) (tot : List Int) : Prop := ∃ K : Nat → Prop, Rdr w B K R tot ∧ (∀ b, K b → b < w.heap.size) ∧ ∀ b, o.ownBlock = some b → ¬ K b

set_option maxRecDepth 100000 in
set_option maxHeartbeats 4000000 in
theorem taking_i8 (sz : Nat) (h18 : 18 ≤ sz) (hsz : sz ≤ 65536) (ch : Nat) (hch : 1 ≤ ch) (vs : List Int) (es : List (List Int)) (a : Option Addr) (n c : Nat) (w : World) (hl : es.length = vs.length) (hm : vs.length ≤ 1000) (hv : Vw w a n c (flatE es)) (hn : n ≤ 1099511627776)
    (hf : ∀ i (h : i < es.length), Gets 34 (.int .i8 (vs.getD i 0)) es[i]) :
    Calls Tryd.prog 33 #[.slice a n c, .int .i64 (vs.length : Int), .int .i64 sz, .int .i64 ch, .func (.func 34) #[] #[]] w (Taken .i8 vs.length vs w) := by
  obtain ⟨m, hmv⟩ : ∃ m, m = vs.length := ⟨_, rfl⟩
  rw [← hmv] at hl hm ⊢
  have HL := Lib.hid hl
  have HMV := Lib.hid hmv
  have HF := Lib.hid hf
  have HR := Lib.hid (reading_any a n c (flatE es) ch sz h18 hsz hch w hv hn)
  clear hl hmv hf hv
  have hmx : ¬ ((sz : Int) < 0) := by omega
  have hmx2 : ¬ ((65536 : Int) < sz) := by omega
  have hmx3 : ¬ ((65536 : Int) < m) := by omega
  have hinfo : (Tryd.prog.info? 47).map (fun i => (i.zero, i.size, i.bytes)) = some (some (.int .i8 0), 1, 1) := by kernel_rfl
  go_enter Tryd.func33, Tryd.ntmps33
  go_wp2_with fail
  refine HR.out.mono ?_
  rintro e w1 ⟨R, rfl, hr1, hb1⟩
  have HR1 := Lib.hid (And.intro hr1 hb1)
  clear hr1 hb1
  go_wp2_with fail
  go_loopw [13, 24] (fun o i wr => ∃ j : Nat, j ≤ m ∧ i = .int .i64 j ∧ ∃ oa oc, o = .slice oa j oc ∧ Hid (Apart wr w.heap.size R (.slice oa j oc) (flatE (es.drop j))) ∧ Hid (wr.ownsRow w.heap.size 47 1 (.slice oa j oc) j ((vs.take j).map (Value.int .i8))) ∧ Hid (Below w.heap.size w wr)) (fun _ i _ => m - (intOf i).toNat)
  case atStart => exact ⟨0, Nat.zero_le _, rfl, none, 0, rfl, Lib.hid ⟨_, HR1.out.1, fun b hb => hb.2.1, fun b hb => by cases hb⟩, Lib.hid (World.ownsRow_nil _ _ _ _), Lib.hid HR1.out.2⟩
  case round =>
    obtain ⟨j, hj, rfl, oa, oc, rfl, hap, how, hbr⟩ := hrel
    by_cases hlt : j < m
    · have hli : (j : Int) < m := by omega
      have hje : j < es.length := by have := HL.out; omega
      have hjv : j < vs.length := by have := HMV.out; omega
      obtain ⟨K, hr, hK, hKo⟩ := hap.out
      rw [flatE_drop es j hje] at hr
      obtain ⟨v, hv⟩ : ∃ v, v = vs.getD j 0 := ⟨_, rfl⟩
      have hG := HF.out j hje
      rw [← hv] at hG
      have HC := Lib.hid (hG w.heap.size K R _ wr hr)
      have HV := Lib.hid hv
      have HK := Lib.hid (And.intro hK hKo)
      have hBs := hbr.out.size
      clear hG hr hv hK hKo
      go_wp2_with fail
      refine HC.out.mono ?_
      rintro e w2 ⟨rfl, hr2, hf2, hb2⟩
      have hr2' := hr2.within
      have hown2 := owns_frm how.out hf2 HK.out.2
      have hBw2 := hb2.size
      have HR2 := Lib.hid hr2'
      have HO2 := Lib.hid hown2
      have HX2 := Lib.hid (And.intro hf2 hb2)
      clear hr2 hr2' hown2 hf2 hb2
      go_wp2_with (at_builtin; refine app1w (by rfl) _ _ 46 47 (.int .i8 0) 1 (by rfl) Tryd.underlying46 hinfo rfl (by omega) w.heap.size oa j oc _ (by rfl) (owns_below HO2.out ((Below.refl _ _).alloc (Nat.le_refl _) _)) w2.heap.size (.int .i8 v) (by rfl) (by rfl) (Blk.new _ _ _) (by omega) (by simp <;> omega) ?_; intro oa2 oc2 w3 ho3 hg3 hwh3)
      have hba : Below w2.heap.size w2 (w2.alloc (.cells #[.int .i8 v] 47)) := (Below.refl _ _).alloc (Nat.le_refl _) _
      have hlt2 := own_lt HO2.out
      have hfa : Frm w2 w3 (fun b => Value.ownBlock (.slice oa j oc) = some b) := (Frm.below hba _).grown hg3 (fun k hk => hk)
      have hap3 : Apart w3 w.heap.size R (.slice oa2 (j + 1) oc2) (flatE (es.drop (j + 1))) := by
        refine ⟨_, rdr_frm HR2.out hfa (fun b hb => ?_) (fun e => ?_), fun b hb => Nat.lt_of_lt_of_le hb.2 hfa.1, fun b hb hk => ?_⟩
        · intro e
          rcases hb.1 with h | h
          · exact HK.out.2 b e h
          · have := own_lt how.out b e; omega
        · obtain ⟨cs, hc⟩ := HR2.out.blk
          exact own_ne HO2.out hc (by decide) e
        · rcases hwh3 b hb with h | h
          · rcases hk.1 with h2 | h2
            · exact HK.out.2 b h h2
            · have := own_lt how.out b h; omega
          · simp at h; omega
      have hsn : (vs.take (j + 1)).map (Value.int .i8) = (vs.take j).map (Value.int .i8) ++ [.int .i8 v] := by
        rw [List.take_succ_eq_append_getElem hjv, List.map_append, HV.out]
        simp [List.getD, List.getElem?_eq_getElem hjv]
      rw [← hsn] at ho3
      have hbel : Below w.heap.size w w3 := hbr.out.trans (HX2.out.2.trans ((hba.mono (by omega)).trans (below_of_grown hg3 (by simp; omega) (ge_of_owns (owns_below HO2.out hba)))))
      have HA3 := Lib.hid hap3
      have HO3 := Lib.hid ho3
      have HB3 := Lib.hid hbel
      clear hap3 ho3 hbel hsn hfa hba hg3 hwh3 hlt2
      go_roundw
      case rel => exact ⟨j + 1, by omega, by go_num, oa2, oc2, rfl, HA3, HO3, HB3⟩
      case measure => simp [intOf]; omega
    · have hli : ¬ (j : Int) < m := by omega
      obtain rfl : j = m := by omega
      have how2 := how.out
      rw [List.take_of_length_le (by have := HMV.out; omega)] at how2
      have HRD := Lib.hid (Rd.of_owns how2)
      clear how2
      go_wp2_with fail
      go_ret2
      exact ⟨oa, oc, rfl, HRD.out, hbr.out⟩
set_option maxRecDepth 100000 in
set_option maxHeartbeats 4000000 in
theorem taking_u8 (sz : Nat) (h18 : 18 ≤ sz) (hsz : sz ≤ 65536) (ch : Nat) (hch : 1 ≤ ch) (vs : List Int) (es : List (List Int)) (a : Option Addr) (n c : Nat) (w : World) (hl : es.length = vs.length) (hm : vs.length ≤ 1000) (hv : Vw w a n c (flatE es)) (hn : n ≤ 1099511627776)
    (hf : ∀ i (h : i < es.length), Gets 37 (.int .u8 (vs.getD i 0)) es[i]) :
    Calls Tryd.prog 36 #[.slice a n c, .int .i64 (vs.length : Int), .int .i64 sz, .int .i64 ch, .func (.func 37) #[] #[]] w (Taken .u8 vs.length vs w) := by
  obtain ⟨m, hmv⟩ : ∃ m, m = vs.length := ⟨_, rfl⟩
  rw [← hmv] at hl hm ⊢
  have HL := Lib.hid hl
  have HMV := Lib.hid hmv
  have HF := Lib.hid hf
  have HR := Lib.hid (reading_any a n c (flatE es) ch sz h18 hsz hch w hv hn)
  clear hl hmv hf hv
  have hmx : ¬ ((sz : Int) < 0) := by omega
  have hmx2 : ¬ ((65536 : Int) < sz) := by omega
  have hmx3 : ¬ ((65536 : Int) < m) := by omega
  have hinfo : (Tryd.prog.info? 5).map (fun i => (i.zero, i.size, i.bytes)) = some (some (.int .u8 0), 1, 1) := by kernel_rfl
  go_enter Tryd.func36, Tryd.ntmps36
  go_wp2_with fail
  refine HR.out.mono ?_
  rintro e w1 ⟨R, rfl, hr1, hb1⟩
  have HR1 := Lib.hid (And.intro hr1 hb1)
  clear hr1 hb1
  go_wp2_with fail
  go_loopw [13, 24] (fun o i wr => ∃ j : Nat, j ≤ m ∧ i = .int .i64 j ∧ ∃ oa oc, o = .slice oa j oc ∧ Hid (Apart wr w.heap.size R (.slice oa j oc) (flatE (es.drop j))) ∧ Hid (wr.ownsRow w.heap.size 5 1 (.slice oa j oc) j ((vs.take j).map (Value.int .u8))) ∧ Hid (Below w.heap.size w wr)) (fun _ i _ => m - (intOf i).toNat)
  case atStart => exact ⟨0, Nat.zero_le _, rfl, none, 0, rfl, Lib.hid ⟨_, HR1.out.1, fun b hb => hb.2.1, fun b hb => by cases hb⟩, Lib.hid (World.ownsRow_nil _ _ _ _), Lib.hid HR1.out.2⟩
  case round =>
    obtain ⟨j, hj, rfl, oa, oc, rfl, hap, how, hbr⟩ := hrel
    by_cases hlt : j < m
    · have hli : (j : Int) < m := by omega
      have hje : j < es.length := by have := HL.out; omega
      have hjv : j < vs.length := by have := HMV.out; omega
      obtain ⟨K, hr, hK, hKo⟩ := hap.out
      rw [flatE_drop es j hje] at hr
      obtain ⟨v, hv⟩ : ∃ v, v = vs.getD j 0 := ⟨_, rfl⟩
      have hG := HF.out j hje
      rw [← hv] at hG
      have HC := Lib.hid (hG w.heap.size K R _ wr hr)
      have HV := Lib.hid hv
      have HK := Lib.hid (And.intro hK hKo)
      have hBs := hbr.out.size
      clear hG hr hv hK hKo
      go_wp2_with fail
      refine HC.out.mono ?_
      rintro e w2 ⟨rfl, hr2, hf2, hb2⟩
      have hr2' := hr2.within
      have hown2 := owns_frm how.out hf2 HK.out.2
      have hBw2 := hb2.size
      have HR2 := Lib.hid hr2'
      have HO2 := Lib.hid hown2
      have HX2 := Lib.hid (And.intro hf2 hb2)
      clear hr2 hr2' hown2 hf2 hb2
      go_wp2_with (at_builtin; refine app1w (by rfl) _ _ 26 5 (.int .u8 0) 1 (by rfl) Tryd.underlying26 hinfo rfl (by omega) w.heap.size oa j oc _ (by rfl) (owns_below HO2.out ((Below.refl _ _).alloc (Nat.le_refl _) _)) w2.heap.size (.int .u8 v) (by rfl) (by rfl) (Blk.new _ _ _) (by omega) (by simp <;> omega) ?_; intro oa2 oc2 w3 ho3 hg3 hwh3)
      have hba : Below w2.heap.size w2 (w2.alloc (.cells #[.int .u8 v] 5)) := (Below.refl _ _).alloc (Nat.le_refl _) _
      have hlt2 := own_lt HO2.out
      have hfa : Frm w2 w3 (fun b => Value.ownBlock (.slice oa j oc) = some b) := (Frm.below hba _).grown hg3 (fun k hk => hk)
      have hap3 : Apart w3 w.heap.size R (.slice oa2 (j + 1) oc2) (flatE (es.drop (j + 1))) := by
        refine ⟨_, rdr_frm HR2.out hfa (fun b hb => ?_) (fun e => ?_), fun b hb => Nat.lt_of_lt_of_le hb.2 hfa.1, fun b hb hk => ?_⟩
        · intro e
          rcases hb.1 with h | h
          · exact HK.out.2 b e h
          · have := own_lt how.out b e; omega
        · obtain ⟨cs, hc⟩ := HR2.out.blk
          exact own_ne HO2.out hc (by decide) e
        · rcases hwh3 b hb with h | h
          · rcases hk.1 with h2 | h2
            · exact HK.out.2 b h h2
            · have := own_lt how.out b h; omega
          · simp at h; omega
      have hsn : (vs.take (j + 1)).map (Value.int .u8) = (vs.take j).map (Value.int .u8) ++ [.int .u8 v] := by
        rw [List.take_succ_eq_append_getElem hjv, List.map_append, HV.out]
        simp [List.getD, List.getElem?_eq_getElem hjv]
      rw [← hsn] at ho3
      have hbel : Below w.heap.size w w3 := hbr.out.trans (HX2.out.2.trans ((hba.mono (by omega)).trans (below_of_grown hg3 (by simp; omega) (ge_of_owns (owns_below HO2.out hba)))))
      have HA3 := Lib.hid hap3
      have HO3 := Lib.hid ho3
      have HB3 := Lib.hid hbel
      clear hap3 ho3 hbel hsn hfa hba hg3 hwh3 hlt2
      go_roundw
      case rel => exact ⟨j + 1, by omega, by go_num, oa2, oc2, rfl, HA3, HO3, HB3⟩
      case measure => simp [intOf]; omega
    · have hli : ¬ (j : Int) < m := by omega
      obtain rfl : j = m := by omega
      have how2 := how.out
      rw [List.take_of_length_le (by have := HMV.out; omega)] at how2
      have HRD := Lib.hid (Rd.of_owns how2)
      clear how2
      go_wp2_with fail
      go_ret2
      exact ⟨oa, oc, rfl, HRD.out, hbr.out⟩
set_option maxRecDepth 100000 in
set_option maxHeartbeats 4000000 in
theorem taking_i64 (sz : Nat) (h18 : 18 ≤ sz) (hsz : sz ≤ 65536) (ch : Nat) (hch : 1 ≤ ch) (vs : List Int) (es : List (List Int)) (a : Option Addr) (n c : Nat) (w : World) (hl : es.length = vs.length) (hm : vs.length ≤ 1000) (hv : Vw w a n c (flatE es)) (hn : n ≤ 1099511627776)
    (hf : ∀ i (h : i < es.length), Gets 31 (.int .i64 (vs.getD i 0)) es[i]) :
    Calls Tryd.prog 30 #[.slice a n c, .int .i64 (vs.length : Int), .int .i64 sz, .int .i64 ch, .func (.func 31) #[] #[]] w (Taken .i64 vs.length vs w) := by
  obtain ⟨m, hmv⟩ : ∃ m, m = vs.length := ⟨_, rfl⟩
  rw [← hmv] at hl hm ⊢
  have HL := Lib.hid hl
  have HMV := Lib.hid hmv
  have HF := Lib.hid hf
  have HR := Lib.hid (reading_any a n c (flatE es) ch sz h18 hsz hch w hv hn)
  clear hl hmv hf hv
  have hmx : ¬ ((sz : Int) < 0) := by omega
  have hmx2 : ¬ ((65536 : Int) < sz) := by omega
  have hmx3 : ¬ ((65536 : Int) < m) := by omega
  have hinfo : (Tryd.prog.info? 2).map (fun i => (i.zero, i.size, i.bytes)) = some (some (.int .i64 0), 1, 8) := by kernel_rfl
  go_enter Tryd.func30, Tryd.ntmps30
  go_wp2_with fail
  refine HR.out.mono ?_
  rintro e w1 ⟨R, rfl, hr1, hb1⟩
  have HR1 := Lib.hid (And.intro hr1 hb1)
  clear hr1 hb1
  go_wp2_with fail
  go_loopw [13, 24] (fun o i wr => ∃ j : Nat, j ≤ m ∧ i = .int .i64 j ∧ ∃ oa oc, o = .slice oa j oc ∧ Hid (Apart wr w.heap.size R (.slice oa j oc) (flatE (es.drop j))) ∧ Hid (wr.ownsRow w.heap.size 2 1 (.slice oa j oc) j ((vs.take j).map (Value.int .i64))) ∧ Hid (Below w.heap.size w wr)) (fun _ i _ => m - (intOf i).toNat)
  case atStart => exact ⟨0, Nat.zero_le _, rfl, none, 0, rfl, Lib.hid ⟨_, HR1.out.1, fun b hb => hb.2.1, fun b hb => by cases hb⟩, Lib.hid (World.ownsRow_nil _ _ _ _), Lib.hid HR1.out.2⟩
  case round =>
    obtain ⟨j, hj, rfl, oa, oc, rfl, hap, how, hbr⟩ := hrel
    by_cases hlt : j < m
    · have hli : (j : Int) < m := by omega
      have hje : j < es.length := by have := HL.out; omega
      have hjv : j < vs.length := by have := HMV.out; omega
      obtain ⟨K, hr, hK, hKo⟩ := hap.out
      rw [flatE_drop es j hje] at hr
      obtain ⟨v, hv⟩ : ∃ v, v = vs.getD j 0 := ⟨_, rfl⟩
      have hG := HF.out j hje
      rw [← hv] at hG
      have HC := Lib.hid (hG w.heap.size K R _ wr hr)
      have HV := Lib.hid hv
      have HK := Lib.hid (And.intro hK hKo)
      have hBs := hbr.out.size
      clear hG hr hv hK hKo
      go_wp2_with fail
      refine HC.out.mono ?_
      rintro e w2 ⟨rfl, hr2, hf2, hb2⟩
      have hr2' := hr2.within
      have hown2 := owns_frm how.out hf2 HK.out.2
      have hBw2 := hb2.size
      have HR2 := Lib.hid hr2'
      have HO2 := Lib.hid hown2
      have HX2 := Lib.hid (And.intro hf2 hb2)
      clear hr2 hr2' hown2 hf2 hb2
      go_wp2_with (at_builtin; refine app1w (by rfl) _ _ 41 2 (.int .i64 0) 8 (by rfl) Tryd.underlying41 hinfo rfl (by omega) w.heap.size oa j oc _ (by rfl) (owns_below HO2.out ((Below.refl _ _).alloc (Nat.le_refl _) _)) w2.heap.size (.int .i64 v) (by rfl) (by rfl) (Blk.new _ _ _) (by omega) (by simp <;> omega) ?_; intro oa2 oc2 w3 ho3 hg3 hwh3)
      have hba : Below w2.heap.size w2 (w2.alloc (.cells #[.int .i64 v] 2)) := (Below.refl _ _).alloc (Nat.le_refl _) _
      have hlt2 := own_lt HO2.out
      have hfa : Frm w2 w3 (fun b => Value.ownBlock (.slice oa j oc) = some b) := (Frm.below hba _).grown hg3 (fun k hk => hk)
      have hap3 : Apart w3 w.heap.size R (.slice oa2 (j + 1) oc2) (flatE (es.drop (j + 1))) := by
        refine ⟨_, rdr_frm HR2.out hfa (fun b hb => ?_) (fun e => ?_), fun b hb => Nat.lt_of_lt_of_le hb.2 hfa.1, fun b hb hk => ?_⟩
        · intro e
          rcases hb.1 with h | h
          · exact HK.out.2 b e h
          · have := own_lt how.out b e; omega
        · obtain ⟨cs, hc⟩ := HR2.out.blk
          exact own_ne HO2.out hc (by decide) e
        · rcases hwh3 b hb with h | h
          · rcases hk.1 with h2 | h2
            · exact HK.out.2 b h h2
            · have := own_lt how.out b h; omega
          · simp at h; omega
      have hsn : (vs.take (j + 1)).map (Value.int .i64) = (vs.take j).map (Value.int .i64) ++ [.int .i64 v] := by
        rw [List.take_succ_eq_append_getElem hjv, List.map_append, HV.out]
        simp [List.getD, List.getElem?_eq_getElem hjv]
      rw [← hsn] at ho3
      have hbel : Below w.heap.size w w3 := hbr.out.trans (HX2.out.2.trans ((hba.mono (by omega)).trans (below_of_grown hg3 (by simp; omega) (ge_of_owns (owns_below HO2.out hba)))))
      have HA3 := Lib.hid hap3
      have HO3 := Lib.hid ho3
      have HB3 := Lib.hid hbel
      clear hap3 ho3 hbel hsn hfa hba hg3 hwh3 hlt2
      go_roundw
      case rel => exact ⟨j + 1, by omega, by go_num, oa2, oc2, rfl, HA3, HO3, HB3⟩
      case measure => simp [intOf]; omega
    · have hli : ¬ (j : Int) < m := by omega
      obtain rfl : j = m := by omega
      have how2 := how.out
      rw [List.take_of_length_le (by have := HMV.out; omega)] at how2
      have HRD := Lib.hid (Rd.of_owns how2)
      clear how2
      go_wp2_with fail
      go_ret2
      exact ⟨oa, oc, rfl, HRD.out, hbr.out⟩
set_option maxRecDepth 100000 in
set_option maxHeartbeats 4000000 in
theorem taking_u64 (sz : Nat) (h18 : 18 ≤ sz) (hsz : sz ≤ 65536) (ch : Nat) (hch : 1 ≤ ch) (vs : List Int) (es : List (List Int)) (a : Option Addr) (n c : Nat) (w : World) (hl : es.length = vs.length) (hm : vs.length ≤ 1000) (hv : Vw w a n c (flatE es)) (hn : n ≤ 1099511627776)
    (hf : ∀ i (h : i < es.length), Gets 26 (.int .u64 (vs.getD i 0)) es[i]) :
    Calls Tryd.prog 25 #[.slice a n c, .int .i64 (vs.length : Int), .int .i64 sz, .int .i64 ch, .func (.func 26) #[] #[]] w (Taken .u64 vs.length vs w) := by
  obtain ⟨m, hmv⟩ : ∃ m, m = vs.length := ⟨_, rfl⟩
  rw [← hmv] at hl hm ⊢
  have HL := Lib.hid hl
  have HMV := Lib.hid hmv
  have HF := Lib.hid hf
  have HR := Lib.hid (reading_any a n c (flatE es) ch sz h18 hsz hch w hv hn)
  clear hl hmv hf hv
  have hmx : ¬ ((sz : Int) < 0) := by omega
  have hmx2 : ¬ ((65536 : Int) < sz) := by omega
  have hmx3 : ¬ ((65536 : Int) < m) := by omega
  have hinfo : (Tryd.prog.info? 23).map (fun i => (i.zero, i.size, i.bytes)) = some (some (.int .u64 0), 1, 8) := by kernel_rfl
  go_enter Tryd.func25, Tryd.ntmps25
  go_wp2_with fail
  refine HR.out.mono ?_
  rintro e w1 ⟨R, rfl, hr1, hb1⟩
  have HR1 := Lib.hid (And.intro hr1 hb1)
  clear hr1 hb1
  go_wp2_with fail
  go_loopw [13, 24] (fun o i wr => ∃ j : Nat, j ≤ m ∧ i = .int .i64 j ∧ ∃ oa oc, o = .slice oa j oc ∧ Hid (Apart wr w.heap.size R (.slice oa j oc) (flatE (es.drop j))) ∧ Hid (wr.ownsRow w.heap.size 23 1 (.slice oa j oc) j ((vs.take j).map (Value.int .u64))) ∧ Hid (Below w.heap.size w wr)) (fun _ i _ => m - (intOf i).toNat)
  case atStart => exact ⟨0, Nat.zero_le _, rfl, none, 0, rfl, Lib.hid ⟨_, HR1.out.1, fun b hb => hb.2.1, fun b hb => by cases hb⟩, Lib.hid (World.ownsRow_nil _ _ _ _), Lib.hid HR1.out.2⟩
  case round =>
    obtain ⟨j, hj, rfl, oa, oc, rfl, hap, how, hbr⟩ := hrel
    by_cases hlt : j < m
    · have hli : (j : Int) < m := by omega
      have hje : j < es.length := by have := HL.out; omega
      have hjv : j < vs.length := by have := HMV.out; omega
      obtain ⟨K, hr, hK, hKo⟩ := hap.out
      rw [flatE_drop es j hje] at hr
      obtain ⟨v, hv⟩ : ∃ v, v = vs.getD j 0 := ⟨_, rfl⟩
      have hG := HF.out j hje
      rw [← hv] at hG
      have HC := Lib.hid (hG w.heap.size K R _ wr hr)
      have HV := Lib.hid hv
      have HK := Lib.hid (And.intro hK hKo)
      have hBs := hbr.out.size
      clear hG hr hv hK hKo
      go_wp2_with fail
      refine HC.out.mono ?_
      rintro e w2 ⟨rfl, hr2, hf2, hb2⟩
      have hr2' := hr2.within
      have hown2 := owns_frm how.out hf2 HK.out.2
      have hBw2 := hb2.size
      have HR2 := Lib.hid hr2'
      have HO2 := Lib.hid hown2
      have HX2 := Lib.hid (And.intro hf2 hb2)
      clear hr2 hr2' hown2 hf2 hb2
      go_wp2_with (at_builtin; refine app1w (by rfl) _ _ 32 23 (.int .u64 0) 8 (by rfl) Tryd.underlying32 hinfo rfl (by omega) w.heap.size oa j oc _ (by rfl) (owns_below HO2.out ((Below.refl _ _).alloc (Nat.le_refl _) _)) w2.heap.size (.int .u64 v) (by rfl) (by rfl) (Blk.new _ _ _) (by omega) (by simp <;> omega) ?_; intro oa2 oc2 w3 ho3 hg3 hwh3)
      have hba : Below w2.heap.size w2 (w2.alloc (.cells #[.int .u64 v] 23)) := (Below.refl _ _).alloc (Nat.le_refl _) _
      have hlt2 := own_lt HO2.out
      have hfa : Frm w2 w3 (fun b => Value.ownBlock (.slice oa j oc) = some b) := (Frm.below hba _).grown hg3 (fun k hk => hk)
      have hap3 : Apart w3 w.heap.size R (.slice oa2 (j + 1) oc2) (flatE (es.drop (j + 1))) := by
        refine ⟨_, rdr_frm HR2.out hfa (fun b hb => ?_) (fun e => ?_), fun b hb => Nat.lt_of_lt_of_le hb.2 hfa.1, fun b hb hk => ?_⟩
        · intro e
          rcases hb.1 with h | h
          · exact HK.out.2 b e h
          · have := own_lt how.out b e; omega
        · obtain ⟨cs, hc⟩ := HR2.out.blk
          exact own_ne HO2.out hc (by decide) e
        · rcases hwh3 b hb with h | h
          · rcases hk.1 with h2 | h2
            · exact HK.out.2 b h h2
            · have := own_lt how.out b h; omega
          · simp at h; omega
      have hsn : (vs.take (j + 1)).map (Value.int .u64) = (vs.take j).map (Value.int .u64) ++ [.int .u64 v] := by
        rw [List.take_succ_eq_append_getElem hjv, List.map_append, HV.out]
        simp [List.getD, List.getElem?_eq_getElem hjv]
      rw [← hsn] at ho3
      have hbel : Below w.heap.size w w3 := hbr.out.trans (HX2.out.2.trans ((hba.mono (by omega)).trans (below_of_grown hg3 (by simp; omega) (ge_of_owns (owns_below HO2.out hba)))))
      have HA3 := Lib.hid hap3
      have HO3 := Lib.hid ho3
      have HB3 := Lib.hid hbel
      clear hap3 ho3 hbel hsn hfa hba hg3 hwh3 hlt2
      go_roundw
      case rel => exact ⟨j + 1, by omega, by go_num, oa2, oc2, rfl, HA3, HO3, HB3⟩
      case measure => simp [intOf]; omega
    · have hli : ¬ (j : Int) < m := by omega
      obtain rfl : j = m := by omega
      have how2 := how.out
      rw [List.take_of_length_le (by have := HMV.out; omega)] at how2
      have HRD := Lib.hid (Rd.of_owns how2)
      clear how2
      go_wp2_with fail
      go_ret2
      exact ⟨oa, oc, rfl, HRD.out, hbr.out⟩
set_option maxRecDepth 100000 in
set_option maxHeartbeats 4000000 in
theorem taking_u32 (sz : Nat) (h18 : 18 ≤ sz) (hsz : sz ≤ 65536) (ch : Nat) (hch : 1 ≤ ch) (vs : List Int) (es : List (List Int)) (a : Option Addr) (n c : Nat) (w : World) (hl : es.length = vs.length) (hm : vs.length ≤ 1000) (hv : Vw w a n c (flatE es)) (hn : n ≤ 1099511627776)
    (hf : ∀ i (h : i < es.length), Gets 22 (.int .u32 (vs.getD i 0)) es[i]) :
    Calls Tryd.prog 21 #[.slice a n c, .int .i64 (vs.length : Int), .int .i64 sz, .int .i64 ch, .func (.func 22) #[] #[]] w (Taken .u32 vs.length vs w) := by
  obtain ⟨m, hmv⟩ : ∃ m, m = vs.length := ⟨_, rfl⟩
  rw [← hmv] at hl hm ⊢
  have HL := Lib.hid hl
  have HMV := Lib.hid hmv
  have HF := Lib.hid hf
  have HR := Lib.hid (reading_any a n c (flatE es) ch sz h18 hsz hch w hv hn)
  clear hl hmv hf hv
  have hmx : ¬ ((sz : Int) < 0) := by omega
  have hmx2 : ¬ ((65536 : Int) < sz) := by omega
  have hmx3 : ¬ ((65536 : Int) < m) := by omega
  have hinfo : (Tryd.prog.info? 28).map (fun i => (i.zero, i.size, i.bytes)) = some (some (.int .u32 0), 1, 4) := by kernel_rfl
  go_enter Tryd.func21, Tryd.ntmps21
  go_wp2_with fail
  refine HR.out.mono ?_
  rintro e w1 ⟨R, rfl, hr1, hb1⟩
  have HR1 := Lib.hid (And.intro hr1 hb1)
  clear hr1 hb1
  go_wp2_with fail
  go_loopw [13, 24] (fun o i wr => ∃ j : Nat, j ≤ m ∧ i = .int .i64 j ∧ ∃ oa oc, o = .slice oa j oc ∧ Hid (Apart wr w.heap.size R (.slice oa j oc) (flatE (es.drop j))) ∧ Hid (wr.ownsRow w.heap.size 28 1 (.slice oa j oc) j ((vs.take j).map (Value.int .u32))) ∧ Hid (Below w.heap.size w wr)) (fun _ i _ => m - (intOf i).toNat)
  case atStart => exact ⟨0, Nat.zero_le _, rfl, none, 0, rfl, Lib.hid ⟨_, HR1.out.1, fun b hb => hb.2.1, fun b hb => by cases hb⟩, Lib.hid (World.ownsRow_nil _ _ _ _), Lib.hid HR1.out.2⟩
  case round =>
    obtain ⟨j, hj, rfl, oa, oc, rfl, hap, how, hbr⟩ := hrel
    by_cases hlt : j < m
    · have hli : (j : Int) < m := by omega
      have hje : j < es.length := by have := HL.out; omega
      have hjv : j < vs.length := by have := HMV.out; omega
      obtain ⟨K, hr, hK, hKo⟩ := hap.out
      rw [flatE_drop es j hje] at hr
      obtain ⟨v, hv⟩ : ∃ v, v = vs.getD j 0 := ⟨_, rfl⟩
      have hG := HF.out j hje
      rw [← hv] at hG
      have HC := Lib.hid (hG w.heap.size K R _ wr hr)
      have HV := Lib.hid hv
      have HK := Lib.hid (And.intro hK hKo)
      have hBs := hbr.out.size
      clear hG hr hv hK hKo
      go_wp2_with fail
      refine HC.out.mono ?_
      rintro e w2 ⟨rfl, hr2, hf2, hb2⟩
      have hr2' := hr2.within
      have hown2 := owns_frm how.out hf2 HK.out.2
      have hBw2 := hb2.size
      have HR2 := Lib.hid hr2'
      have HO2 := Lib.hid hown2
      have HX2 := Lib.hid (And.intro hf2 hb2)
      clear hr2 hr2' hown2 hf2 hb2
      go_wp2_with (at_builtin; refine app1w (by rfl) _ _ 22 28 (.int .u32 0) 4 (by rfl) Tryd.underlying22 hinfo rfl (by omega) w.heap.size oa j oc _ (by rfl) (owns_below HO2.out ((Below.refl _ _).alloc (Nat.le_refl _) _)) w2.heap.size (.int .u32 v) (by rfl) (by rfl) (Blk.new _ _ _) (by omega) (by simp <;> omega) ?_; intro oa2 oc2 w3 ho3 hg3 hwh3)
      have hba : Below w2.heap.size w2 (w2.alloc (.cells #[.int .u32 v] 28)) := (Below.refl _ _).alloc (Nat.le_refl _) _
      have hlt2 := own_lt HO2.out
      have hfa : Frm w2 w3 (fun b => Value.ownBlock (.slice oa j oc) = some b) := (Frm.below hba _).grown hg3 (fun k hk => hk)
      have hap3 : Apart w3 w.heap.size R (.slice oa2 (j + 1) oc2) (flatE (es.drop (j + 1))) := by
        refine ⟨_, rdr_frm HR2.out hfa (fun b hb => ?_) (fun e => ?_), fun b hb => Nat.lt_of_lt_of_le hb.2 hfa.1, fun b hb hk => ?_⟩
        · intro e
          rcases hb.1 with h | h
          · exact HK.out.2 b e h
          · have := own_lt how.out b e; omega
        · obtain ⟨cs, hc⟩ := HR2.out.blk
          exact own_ne HO2.out hc (by decide) e
        · rcases hwh3 b hb with h | h
          · rcases hk.1 with h2 | h2
            · exact HK.out.2 b h h2
            · have := own_lt how.out b h; omega
          · simp at h; omega
      have hsn : (vs.take (j + 1)).map (Value.int .u32) = (vs.take j).map (Value.int .u32) ++ [.int .u32 v] := by
        rw [List.take_succ_eq_append_getElem hjv, List.map_append, HV.out]
        simp [List.getD, List.getElem?_eq_getElem hjv]
      rw [← hsn] at ho3
      have hbel : Below w.heap.size w w3 := hbr.out.trans (HX2.out.2.trans ((hba.mono (by omega)).trans (below_of_grown hg3 (by simp; omega) (ge_of_owns (owns_below HO2.out hba)))))
      have HA3 := Lib.hid hap3
      have HO3 := Lib.hid ho3
      have HB3 := Lib.hid hbel
      clear hap3 ho3 hbel hsn hfa hba hg3 hwh3 hlt2
      go_roundw
      case rel => exact ⟨j + 1, by omega, by go_num, oa2, oc2, rfl, HA3, HO3, HB3⟩
      case measure => simp [intOf]; omega
    · have hli : ¬ (j : Int) < m := by omega
      obtain rfl : j = m := by omega
      have how2 := how.out
      rw [List.take_of_length_le (by have := HMV.out; omega)] at how2
      have HRD := Lib.hid (Rd.of_owns how2)
      clear how2
      go_wp2_with fail
      go_ret2
      exact ⟨oa, oc, rfl, HRD.out, hbr.out⟩
end Go.Proofs.YtfaangichifbgaaDoor
