/- setof's UnmarshalJSON; impl.SetOfJSON... -/
import Derived.Test.YtokjgloefafdpaaDoorIter
import Derived.Test.YtokjgloefafdpaaDoorAsSlice
import Derived.Laws.IdiomStrings
namespace Go.Proofs.YtokjgloefafdpaaDoor
open Go.RowKit Go.Maps Go.Lib
set_option linter.unusedVariables false
set_option linter.unusedSimpArgs false

theorem jtB_head (bl : Bool) (ts : List (List UInt8)) : (numsD (jtB bl ts)).getD 0 0 = 91 := by
  cases ts <;> simp [jtB, acB, numsD]
theorem jtB_pos (bl : Bool) (ts : List (List UInt8)) : 1 ≤ (jtB bl ts).length := by
  cases ts <;> simp [jtB, acB]
theorem numsD_bd (l : List UInt8) : ∀ x ∈ numsD l, 0 ≤ x ∧ x ≤ 255 := by
  intro x hx
  obtain ⟨b, _, rfl⟩ := List.mem_map.1 hx
  have := b.toNat_lt; omega
theorem cell_of_heapD {W : World} {g i : Nat} {cs : Array Value} {t : TypeId} {f : Nat × Nat} {v : Value} (h : W.heap[g]? = some (.cells cs t f)) (hv : cs[i]? = some v) : W.cell? ⟨g, i, none⟩ = some v := by
  simp [World.cell?, h, hv]
/-- '[]byte(s)': new bytes. -/
theorem conv_newD (L : List UInt8) (ht : L.length ≤ 1000000000) (w : World) : ∃ c W', (convert 9 34 (.string (strD L))).run Tryd.prog w = .ok (.slice (some ⟨w.heap.size, 0, none⟩) L.length c) W' ∧ Vw W' (some ⟨w.heap.size, 0, none⟩) L.length c (numsD L) ∧ Below w.heap.size w W' ∧ w.heap.size < W'.heap.size := by
  have hsz := strD_size L
  have hr := run_bytes_of_string (P := Tryd.prog) w 9 34 5 (strD L) Tryd.underlying9 Tryd.underlying34 Tryd.underlying5
  rw [hsz] at hr
  refine ⟨_, _, hr, ?_, by (repeat (first | with_reducible exact Below.refl _ _ | with_reducible assumption | with_reducible refine below_drewN ?_ _ | with_reducible refine Below.drew ?_ | with_reducible refine below_row ?_ (by first | omega | (simp; done) | (simp; omega)) _ | with_reducible refine Below.alloc ?_ (by first | omega | (simp; done) | (simp; omega)) _ | with_reducible refine Below.setCell ?_ (by first | omega | (simp; done) | (simp; omega)) _)), by simp⟩
  refine ⟨numsD_len L, grownCap_ge _ _ _ _, by have := grownCap_le_maxLen w L.length 0 5 (by simp only [maxLen]; omega); simpa [maxLen] using this, numsD_bd L, fun e => (by cases e), ?_⟩
  by_cases h0 : L.length = 0
  · exact .inl h0
  · refine .inr ⟨w.heap.size, 0, rfl, fun i hi => ?_⟩
    have hb : (w.drew.alloc (.cells (bytesRow (strD L) (grownCap w L.length 0 5)) 5 ((bytesRow (strD L) (grownCap w L.length 0 5)).size, (bytesRow (strD L) (grownCap w L.length 0 5)).size + 1))).heap[w.heap.size]? = some (.cells (bytesRow (strD L) (grownCap w L.length 0 5)) 5 ((bytesRow (strD L) (grownCap w L.length 0 5)).size, (bytesRow (strD L) (grownCap w L.length 0 5)).size + 1)) := heap_alloc_new w.drew _
    have hq : (bytesRow (strD L) (grownCap w L.length 0 5))[i]? = some (.int .u8 ((numsD L).getD i 0)) := by
      have hit : i < (strD L).data.size := by simpa [strD] using hi
      unfold bytesRow
      rw [Array.getElem?_append_left (by simpa using hit), Array.getElem?_map, Array.getElem?_eq_getElem hit, numsD_get L i hi]
      simp [strD]
    rw [Nat.zero_add]
    exact cell_of_heapD hb hq
theorem jg_refl (w : World) (J : Nat) : w.grownBy w (some J) := ⟨rfl, rfl, rfl, Nat.le_refl _, fun _ _ _ => rfl⟩

set_option maxRecDepth 100000 in
set_option maxHeartbeats 4000000 in
theorem unmJ_Uint (bl : Bool) (us : List Nat) (hus : ∀ u ∈ us, u < 2 ^ 64) (hm : us.length ≤ 100) (S : Nat) (a : Option Addr) (n c : Nat) (w : World) (hv : Vw w a n c (numsD (jtB bl (us.map decDigits)))) (hS : Blk w S 79 #[.map none]) (ha : ∀ x, a = some x → x.block < w.heap.size) (hn9 : n ≤ 1000000) :
    Calls Tryd.prog 32 #[.pointer (some ⟨S, 0, none⟩), .slice a n c] w fun e w' => e = .returned .nilIface ∧ ∃ M, Blk w' S 79 #[.map (some M)] ∧ SetM 69 .u64 w' M (us.map fun (u : Nat) => (u : Int)) ∧ w.heap.size ≤ M ∧ M < w'.heap.size ∧ w.grownBy w' (some S) := by
  have hSl := hS.lt
  have HN := Lib.hid (notNull a n c _ w hv (jtB_head _ _) (by have := hv.len; rw [numsD_len] at this; have := jtB_pos bl (us.map decDigits); omega))
  have q0 : w.cell? ⟨S, 0, none⟩ = some (.map none) := Blk.cell hS rfl
  have HV := Lib.hid hv
  have HSS := Lib.hid hS
  have hne : ∀ w : World, (binOp .neq 79 (.map none) (.map none)).run Tryd.prog w = .ok (.bool false) w := fun w => by kernel_rfl
  have hmk := @run_makeMap Tryd.prog
  clear hv hS
  go_enter Tryd.func32, Tryd.ntmps32
  go_wp2_with fail
  refine HN.out.mono ?_
  rintro e w1 ⟨rfl, rfl⟩
  go_wp2_with fail
  have hSM : SetM 69 .u64 ((w1.alloc (.cells #[.map (some (w1.heap.size + 1))] 79)).alloc (.map #[] 0)) (w1.heap.size + 1) [] := by
    have := SetM.made 69 .u64 (w1.alloc (.cells #[.map (some (w1.heap.size + 1))] 79))
    simpa using this
  have hCB : Blk ((w1.alloc (.cells #[.map (some (w1.heap.size + 1))] 79)).alloc (.map #[] 0)) w1.heap.size 79 #[.map (some (w1.heap.size + 1))] := Blk.alloc (Blk.new w1 _ _) _
  have hV2 : Vw ((w1.alloc (.cells #[.map (some (w1.heap.size + 1))] 79)).alloc (.map #[] 0)) a n c _ := (HV.out.alloc _).alloc _
  refine (iter_Uint bl us hus hm w1.heap.size (w1.heap.size + 1) a n c _ hV2 (fun x hx => by have := ha x hx; omega) hCB (by omega) hSM hn9).mono ?_
  rintro e w2 ⟨rfl, hs2, hg2⟩
  have hC2 : w2.cell? ⟨w1.heap.size, 0, none⟩ = some (.map (some (w1.heap.size + 1))) := Blk.cell (blk_jgD hCB hg2 (by omega)) rfl
  have hS2 : Blk w2 S 79 #[.map none] := blk_jgD (Blk.alloc (Blk.alloc HSS.out _) _) hg2 (by omega)
  have f2 := hS2.frozen 0
  have r2 := Blk.cell hS2 (i := 0) (v := .map none) rfl
  have hsz2 : w1.heap.size + 2 ≤ w2.heap.size := by have := hg2.size; simpa using this
  have hgA : w1.grownBy w2 (some S) := ((World.grownBy_alloc w1 _ (some S)).andThen (World.grownBy_alloc _ _ (some S)) (fun j hj => .inr hj)).andThen hg2 (fun j hj => by injection hj with hj; exact .inl (by omega))
  have HX := Lib.hid (And.intro hs2 (And.intro hS2 hgA))
  clear hSM hCB hV2 hs2 hS2 hgA hg2
  go_wp2_with fail
  go_ret
  have hset : (w2.setCell ⟨S, 0, none⟩ (.map (some (w1.heap.size + 1)))).heap.size = w2.heap.size := by simp
  refine ⟨rfl, w1.heap.size + 1, HX.out.2.1.set 0 _, SetM.setCell HX.out.1 (by simp; omega) _, by omega, by rw [hset]; omega, ?_⟩
  exact HX.out.2.2.andThen (⟨rfl, rfl, rfl, by simp, fun k hk hne => Below.heap_setCell _ _ _ _ (fun e => hne (by rw [e]))⟩ : w2.grownBy (w2.setCell ⟨S, 0, none⟩ (.map (some (w1.heap.size + 1)))) (some S)) (fun j hj => .inr hj)
theorem infoS_Uint : (Tryd.prog.info? 26).map (fun i => (i.zero, i.size, i.bytes)) = some (some (.int .u64 0), 1, 8) := by kernel_rfl
set_option maxRecDepth 100000 in
set_option maxHeartbeats 4000000 in
theorem setOf_Uint (bl : Bool) (us : List Nat) (hus : ∀ u ∈ us, u < 2 ^ 64) (hm : us.length ≤ 100) (w : World) :
    Calls Tryd.prog 18 #[.string (strD (jtB bl (us.map decDigits)))] w fun e w' => ∃ a' c', e = .returned (.tuple #[.slice a' (inS (us.map fun (u : Nat) => (u : Int))).length c', .bool true]) ∧ Rd w' a' ((inS (us.map fun (u : Nat) => (u : Int))).map (Value.int .u64)) ∧ Below w.heap.size w w' := by
  obtain ⟨L, hL⟩ : ∃ L, L = jtB bl (us.map decDigits) := ⟨_, rfl⟩
  have hLl : L.length ≤ 10000 := by
    rw [hL]
    have h2 : ∀ t ∈ us.map decDigits, t.length ≤ 20 := fun t ht => by
      obtain ⟨u, hu, rfl⟩ := List.mem_map.1 ht
      exact dec_len u (by have := hus u hu; omega)
    have := acB_len bl (us.map decDigits) h2
    unfold jtB
    rw [List.length_append]
    simp at this ⊢
    omega
  rw [← hL]
  obtain ⟨cc, W2, hcv, hvw, hbw, hltw⟩ := conv_newD L (by omega) (w.alloc (.cells #[.map none] 79))
  have hbw' : Below (w.heap.size + 1) (w.alloc (.cells #[.map none] 79)) W2 := hbw.mono (by simp)
  have hS2 : Blk W2 w.heap.size 79 #[.map none] := Blk.below (Blk.new w _ _) hbw' (by omega)
  have hs1 : (w.alloc (.cells #[.map none] 79)).heap.size = w.heap.size + 1 := by simp
  rw [hs1] at hcv hvw hltw
  have hvw2 : Vw W2 (some ⟨w.heap.size + 1, 0, none⟩) L.length cc (numsD (jtB bl (us.map decDigits))) := by rw [← hL]; exact hvw
  have HU := Lib.hid (unmJ_Uint bl us hus hm w.heap.size (some ⟨w.heap.size + 1, 0, none⟩) L.length cc W2 hvw2 hS2 (fun x hx => by injection hx with hx; subst hx; exact hltw) (by omega))
  have hbB : Below w.heap.size w W2 := ((Below.refl _ _).alloc (Nat.le_refl _) _).trans (hbw.mono (by simp))
  have hzW := hbB.size
  have HBB := Lib.hid hbB
  obtain ⟨xs, hxs⟩ : ∃ xs : List Int, xs = us.map fun (u : Nat) => (u : Int) := ⟨_, rfl⟩
  have hxl : xs.length ≤ 100 := by rw [hxs]; simpa using hm
  have hwf : ∀ x ∈ xs, (Lit.int .u64 x).wf = true := by
    intro x hx
    rw [hxs] at hx
    obtain ⟨u, hu, rfl⟩ := List.mem_map.1 hx
    have := hus u hu
    simp [Lit.wf, IntKind.min, IntKind.max, IntKind.bits, IntKind.signed]; omega
  rw [← hxs] at HU ⊢
  obtain ⟨st, hst⟩ : ∃ st, st = strD L := ⟨_, rfl⟩
  rw [← hst] at hcv ⊢
  have HW := Lib.hid hwf
  have hle := inS_le xs
  obtain ⟨m, hmm⟩ : ∃ m, m = (inS xs).length := ⟨_, rfl⟩
  rw [← hmm] at hle ⊢
  have HMM := Lib.hid hmm
  clear hL hvw hvw2 hbw hbw' hS2 hbB hxs hwf hst hmm hs1
  go_enter Tryd.func18, Tryd.ntmps18
  go_wp2_with fail
  refine HU.out.mono ?_
  rintro e w3 ⟨rfl, M, hS3, hM3, hMl, hMl2, hg3⟩
  have c3 : w3.cell? ⟨w.heap.size, 0, none⟩ = some (.map (some M)) := Blk.cell hS3 rfl
  have hb3 : Below w.heap.size w w3 := HBB.out.grown hg3 hzW (fun k hk => by injection hk with hk; omega)
  have hz3 := hb3.size
  have HAS := Lib.hid (asSlice_Uint M xs w3 hM3 hxl HW.out)
  rw [← HMM.out] at HAS
  have HB3 := Lib.hid hb3
  clear hS3 hM3 hg3 hb3
  go_wp2_with fail
  refine HAS.out.mono ?_
  rintro e w4 ⟨g, c4, rfl, ho4, hb4⟩
  have HR4 := Lib.hid (Rd.of_owns ho4)
  have hb4w := HB3.out.trans (hb4.mono hz3)
  have HB4 := Lib.hid hb4w
  have hz4 := hb4w.size
  clear ho4 hb4 hb4w c3
  go_wp2_with fail
  go_loopw [2, 14] (fun s i wr => ∃ j : Nat, j ≤ m ∧ i = .int .i64 j ∧ ∃ aj cj, s = .slice aj j cj ∧ Hid (wr.ownsRow w4.heap.size 26 1 (.slice aj j cj) j (((inS xs).take j).map (Value.int .u64))) ∧ Hid (Below w4.heap.size w4 wr)) (fun _ i _ => m - (intOf i).toNat)
  case atStart => exact ⟨0, Nat.zero_le _, rfl, none, 0, rfl, Lib.hid (World.ownsRow_nil _ _ _ _), Lib.hid (Below.refl _ _)⟩
  case round =>
    obtain ⟨j, hj, rfl, aj, cj, rfl, how, hbr⟩ := hrel
    have hbs := hbr.out.size
    by_cases hlt : j < m
    · have hli : (j : Int) < m := by omega
      have hjd : j < (inS xs).length := by have := HMM.out; omega
      obtain ⟨bq, oq, e2, hc2⟩ := (HR4.out.below hbr.out (Nat.le_refl _)).at_ (by simp; omega)
      injection e2 with e2
      injection e2 with e3 e4
      subst e3
      subst e4
      obtain ⟨x, hxx⟩ : ∃ x, x = (inS xs)[j] := ⟨_, rfl⟩
      have hcj : wr.cell? ⟨g, j, none⟩ = some (.int .u64 x) := by
        have := hc2 j (by simp; omega)
        rw [Nat.zero_add] at this
        rw [this, hxx]
        simp [List.getD, List.getElem?_eq_getElem hjd]
      have htk : ((inS xs).take (j + 1)).map (Value.int .u64) = ((inS xs).take j).map (Value.int .u64) ++ [.int .u64 x] := by
        rw [List.take_add_one, List.getElem?_eq_getElem hjd, hxx, List.map_append]; rfl
      have HTK := Lib.hid htk
      clear hc2 htk hxx
      go_wp2_with (at_builtin; refine app1 (by rfl) _ _ 42 26 (.int .u64 0) 8 (by rfl) Tryd.underlying42 infoS_Uint rfl (by omega) w4.heap.size aj j cj _ (by rfl) (World.ownsRow.alloc how.out _) wr.heap.size (.int .u64 x) (by rfl) (by rfl) (Blk.new _ _ _) (by omega) (by simp <;> omega) ?_; intro a5 c5 w5 ho5 hg5)
      have hb5 : Below w4.heap.size w4 w5 := Below.trans (b := wr.alloc (.cells #[.int .u64 x] 26)) (hbr.out.alloc hbs _) (below_of_grown hg5 (by simp; omega) (ge_of_owns how.out))
      rw [← HTK.out] at ho5
      have HO5 := Lib.hid ho5
      have HB5 := Lib.hid hb5
      clear ho5 hb5 hg5
      go_wp2_with fail
      go_roundw
      case rel => exact ⟨j + 1, by omega, congrArg (Value.int .i64) (by omega), a5, c5, rfl, HO5, HB5⟩
      case measure => first | omega | (simp [intOf]; omega)
    · obtain rfl : j = m := by omega
      have how2 := how.out
      rw [List.take_of_length_le (by have := HMM.out; omega)] at how2
      have HOW := Lib.hid (Rd.of_owns how2)
      have HBF := Lib.hid (HB4.out.trans (hbr.out.mono hz4))
      clear how2
      go_wp2_with fail
      go_ret2
      exact ⟨aj, cj, rfl, HOW.out, HBF.out⟩

set_option maxRecDepth 100000 in
set_option maxHeartbeats 4000000 in
theorem unmJ_Uint16 (bl : Bool) (us : List Nat) (hus : ∀ u ∈ us, u < 2 ^ 16) (hm : us.length ≤ 100) (S : Nat) (a : Option Addr) (n c : Nat) (w : World) (hv : Vw w a n c (numsD (jtB bl (us.map decDigits)))) (hS : Blk w S 84 #[.map none]) (ha : ∀ x, a = some x → x.block < w.heap.size) (hn9 : n ≤ 1000000) :
    Calls Tryd.prog 34 #[.pointer (some ⟨S, 0, none⟩), .slice a n c] w fun e w' => e = .returned .nilIface ∧ ∃ M, Blk w' S 84 #[.map (some M)] ∧ SetM 53 .u16 w' M (us.map fun (u : Nat) => (u : Int)) ∧ w.heap.size ≤ M ∧ M < w'.heap.size ∧ w.grownBy w' (some S) := by
  have hSl := hS.lt
  have HN := Lib.hid (notNull a n c _ w hv (jtB_head _ _) (by have := hv.len; rw [numsD_len] at this; have := jtB_pos bl (us.map decDigits); omega))
  have q0 : w.cell? ⟨S, 0, none⟩ = some (.map none) := Blk.cell hS rfl
  have HV := Lib.hid hv
  have HSS := Lib.hid hS
  have hne : ∀ w : World, (binOp .neq 84 (.map none) (.map none)).run Tryd.prog w = .ok (.bool false) w := fun w => by kernel_rfl
  have hmk := @run_makeMap Tryd.prog
  clear hv hS
  go_enter Tryd.func34, Tryd.ntmps34
  go_wp2_with fail
  refine HN.out.mono ?_
  rintro e w1 ⟨rfl, rfl⟩
  go_wp2_with fail
  have hSM : SetM 53 .u16 ((w1.alloc (.cells #[.map (some (w1.heap.size + 1))] 84)).alloc (.map #[] 0)) (w1.heap.size + 1) [] := by
    have := SetM.made 53 .u16 (w1.alloc (.cells #[.map (some (w1.heap.size + 1))] 84))
    simpa using this
  have hCB : Blk ((w1.alloc (.cells #[.map (some (w1.heap.size + 1))] 84)).alloc (.map #[] 0)) w1.heap.size 84 #[.map (some (w1.heap.size + 1))] := Blk.alloc (Blk.new w1 _ _) _
  have hV2 : Vw ((w1.alloc (.cells #[.map (some (w1.heap.size + 1))] 84)).alloc (.map #[] 0)) a n c _ := (HV.out.alloc _).alloc _
  refine (iter_Uint16 bl us hus hm w1.heap.size (w1.heap.size + 1) a n c _ hV2 (fun x hx => by have := ha x hx; omega) hCB (by omega) hSM hn9).mono ?_
  rintro e w2 ⟨rfl, hs2, hg2⟩
  have hC2 : w2.cell? ⟨w1.heap.size, 0, none⟩ = some (.map (some (w1.heap.size + 1))) := Blk.cell (blk_jgD hCB hg2 (by omega)) rfl
  have hS2 : Blk w2 S 84 #[.map none] := blk_jgD (Blk.alloc (Blk.alloc HSS.out _) _) hg2 (by omega)
  have f2 := hS2.frozen 0
  have r2 := Blk.cell hS2 (i := 0) (v := .map none) rfl
  have hsz2 : w1.heap.size + 2 ≤ w2.heap.size := by have := hg2.size; simpa using this
  have hgA : w1.grownBy w2 (some S) := ((World.grownBy_alloc w1 _ (some S)).andThen (World.grownBy_alloc _ _ (some S)) (fun j hj => .inr hj)).andThen hg2 (fun j hj => by injection hj with hj; exact .inl (by omega))
  have HX := Lib.hid (And.intro hs2 (And.intro hS2 hgA))
  clear hSM hCB hV2 hs2 hS2 hgA hg2
  go_wp2_with fail
  go_ret
  have hset : (w2.setCell ⟨S, 0, none⟩ (.map (some (w1.heap.size + 1)))).heap.size = w2.heap.size := by simp
  refine ⟨rfl, w1.heap.size + 1, HX.out.2.1.set 0 _, SetM.setCell HX.out.1 (by simp; omega) _, by omega, by rw [hset]; omega, ?_⟩
  exact HX.out.2.2.andThen (⟨rfl, rfl, rfl, by simp, fun k hk hne => Below.heap_setCell _ _ _ _ (fun e => hne (by rw [e]))⟩ : w2.grownBy (w2.setCell ⟨S, 0, none⟩ (.map (some (w1.heap.size + 1)))) (some S)) (fun j hj => .inr hj)
theorem infoS_Uint16 : (Tryd.prog.info? 53).map (fun i => (i.zero, i.size, i.bytes)) = some (some (.int .u16 0), 1, 2) := by kernel_rfl
set_option maxRecDepth 100000 in
set_option maxHeartbeats 4000000 in
theorem setOf_Uint16 (bl : Bool) (us : List Nat) (hus : ∀ u ∈ us, u < 2 ^ 16) (hm : us.length ≤ 100) (w : World) :
    Calls Tryd.prog 23 #[.string (strD (jtB bl (us.map decDigits)))] w fun e w' => ∃ a' c', e = .returned (.tuple #[.slice a' (inS (us.map fun (u : Nat) => (u : Int))).length c', .bool true]) ∧ Rd w' a' ((inS (us.map fun (u : Nat) => (u : Int))).map (Value.int .u16)) ∧ Below w.heap.size w w' := by
  obtain ⟨L, hL⟩ : ∃ L, L = jtB bl (us.map decDigits) := ⟨_, rfl⟩
  have hLl : L.length ≤ 10000 := by
    rw [hL]
    have h2 : ∀ t ∈ us.map decDigits, t.length ≤ 20 := fun t ht => by
      obtain ⟨u, hu, rfl⟩ := List.mem_map.1 ht
      exact dec_len u (by have := hus u hu; omega)
    have := acB_len bl (us.map decDigits) h2
    unfold jtB
    rw [List.length_append]
    simp at this ⊢
    omega
  rw [← hL]
  obtain ⟨cc, W2, hcv, hvw, hbw, hltw⟩ := conv_newD L (by omega) (w.alloc (.cells #[.map none] 84))
  have hbw' : Below (w.heap.size + 1) (w.alloc (.cells #[.map none] 84)) W2 := hbw.mono (by simp)
  have hS2 : Blk W2 w.heap.size 84 #[.map none] := Blk.below (Blk.new w _ _) hbw' (by omega)
  have hs1 : (w.alloc (.cells #[.map none] 84)).heap.size = w.heap.size + 1 := by simp
  rw [hs1] at hcv hvw hltw
  have hvw2 : Vw W2 (some ⟨w.heap.size + 1, 0, none⟩) L.length cc (numsD (jtB bl (us.map decDigits))) := by rw [← hL]; exact hvw
  have HU := Lib.hid (unmJ_Uint16 bl us hus hm w.heap.size (some ⟨w.heap.size + 1, 0, none⟩) L.length cc W2 hvw2 hS2 (fun x hx => by injection hx with hx; subst hx; exact hltw) (by omega))
  have hbB : Below w.heap.size w W2 := ((Below.refl _ _).alloc (Nat.le_refl _) _).trans (hbw.mono (by simp))
  have hzW := hbB.size
  have HBB := Lib.hid hbB
  obtain ⟨xs, hxs⟩ : ∃ xs : List Int, xs = us.map fun (u : Nat) => (u : Int) := ⟨_, rfl⟩
  have hxl : xs.length ≤ 100 := by rw [hxs]; simpa using hm
  have hwf : ∀ x ∈ xs, (Lit.int .u16 x).wf = true := by
    intro x hx
    rw [hxs] at hx
    obtain ⟨u, hu, rfl⟩ := List.mem_map.1 hx
    have := hus u hu
    simp [Lit.wf, IntKind.min, IntKind.max, IntKind.bits, IntKind.signed]; omega
  rw [← hxs] at HU ⊢
  obtain ⟨st, hst⟩ : ∃ st, st = strD L := ⟨_, rfl⟩
  rw [← hst] at hcv ⊢
  have HW := Lib.hid hwf
  have hle := inS_le xs
  obtain ⟨m, hmm⟩ : ∃ m, m = (inS xs).length := ⟨_, rfl⟩
  rw [← hmm] at hle ⊢
  have HMM := Lib.hid hmm
  clear hL hvw hvw2 hbw hbw' hS2 hbB hxs hwf hst hmm hs1
  go_enter Tryd.func23, Tryd.ntmps23
  go_wp2_with fail
  refine HU.out.mono ?_
  rintro e w3 ⟨rfl, M, hS3, hM3, hMl, hMl2, hg3⟩
  have c3 : w3.cell? ⟨w.heap.size, 0, none⟩ = some (.map (some M)) := Blk.cell hS3 rfl
  have hb3 : Below w.heap.size w w3 := HBB.out.grown hg3 hzW (fun k hk => by injection hk with hk; omega)
  have hz3 := hb3.size
  have HAS := Lib.hid (asSlice_Uint16 M xs w3 hM3 hxl HW.out)
  rw [← HMM.out] at HAS
  have HB3 := Lib.hid hb3
  clear hS3 hM3 hg3 hb3
  go_wp2_with fail
  refine HAS.out.mono ?_
  rintro e w4 ⟨g, c4, rfl, ho4, hb4⟩
  have HR4 := Lib.hid (Rd.of_owns ho4)
  have hb4w := HB3.out.trans (hb4.mono hz3)
  have HB4 := Lib.hid hb4w
  have hz4 := hb4w.size
  clear ho4 hb4 hb4w c3
  go_wp2_with fail
  go_loopw [2, 14] (fun s i wr => ∃ j : Nat, j ≤ m ∧ i = .int .i64 j ∧ ∃ aj cj, s = .slice aj j cj ∧ Hid (wr.ownsRow w4.heap.size 53 1 (.slice aj j cj) j (((inS xs).take j).map (Value.int .u16))) ∧ Hid (Below w4.heap.size w4 wr)) (fun _ i _ => m - (intOf i).toNat)
  case atStart => exact ⟨0, Nat.zero_le _, rfl, none, 0, rfl, Lib.hid (World.ownsRow_nil _ _ _ _), Lib.hid (Below.refl _ _)⟩
  case round =>
    obtain ⟨j, hj, rfl, aj, cj, rfl, how, hbr⟩ := hrel
    have hbs := hbr.out.size
    by_cases hlt : j < m
    · have hli : (j : Int) < m := by omega
      have hjd : j < (inS xs).length := by have := HMM.out; omega
      obtain ⟨bq, oq, e2, hc2⟩ := (HR4.out.below hbr.out (Nat.le_refl _)).at_ (by simp; omega)
      injection e2 with e2
      injection e2 with e3 e4
      subst e3
      subst e4
      obtain ⟨x, hxx⟩ : ∃ x, x = (inS xs)[j] := ⟨_, rfl⟩
      have hcj : wr.cell? ⟨g, j, none⟩ = some (.int .u16 x) := by
        have := hc2 j (by simp; omega)
        rw [Nat.zero_add] at this
        rw [this, hxx]
        simp [List.getD, List.getElem?_eq_getElem hjd]
      have htk : ((inS xs).take (j + 1)).map (Value.int .u16) = ((inS xs).take j).map (Value.int .u16) ++ [.int .u16 x] := by
        rw [List.take_add_one, List.getElem?_eq_getElem hjd, hxx, List.map_append]; rfl
      have HTK := Lib.hid htk
      clear hc2 htk hxx
      go_wp2_with (at_builtin; refine app1 (by rfl) _ _ 50 53 (.int .u16 0) 2 (by rfl) Tryd.underlying50 infoS_Uint16 rfl (by omega) w4.heap.size aj j cj _ (by rfl) (World.ownsRow.alloc how.out _) wr.heap.size (.int .u16 x) (by rfl) (by rfl) (Blk.new _ _ _) (by omega) (by simp <;> omega) ?_; intro a5 c5 w5 ho5 hg5)
      have hb5 : Below w4.heap.size w4 w5 := Below.trans (b := wr.alloc (.cells #[.int .u16 x] 53)) (hbr.out.alloc hbs _) (below_of_grown hg5 (by simp; omega) (ge_of_owns how.out))
      rw [← HTK.out] at ho5
      have HO5 := Lib.hid ho5
      have HB5 := Lib.hid hb5
      clear ho5 hb5 hg5
      go_wp2_with fail
      go_roundw
      case rel => exact ⟨j + 1, by omega, congrArg (Value.int .i64) (by omega), a5, c5, rfl, HO5, HB5⟩
      case measure => first | omega | (simp [intOf]; omega)
    · obtain rfl : j = m := by omega
      have how2 := how.out
      rw [List.take_of_length_le (by have := HMM.out; omega)] at how2
      have HOW := Lib.hid (Rd.of_owns how2)
      have HBF := Lib.hid (HB4.out.trans (hbr.out.mono hz4))
      clear how2
      go_wp2_with fail
      go_ret2
      exact ⟨aj, cj, rfl, HOW.out, HBF.out⟩
end Go.Proofs.YtokjgloefafdpaaDoor
