/- The walk of laws.FnJSONSetInt64. -/
import Derived.Test.YtokjgloefafdpaaDoorJSet
import Derived.Test.YtokjgloefafdpaaDoorInSet
import Derived.Test.YtokjgloefafdpaaDoorJson7
import Derived.Lib.ItoaLen
namespace Go.Proofs.YtokjgloefafdpaaDoor
open Go.RowKit Go.Maps Go.Lib
set_option linter.unusedVariables false
set_option linter.unusedSimpArgs false

/-- What is read of the set, and what the law wants. -/
def psJ_Int64 (d : List Int) : List (Int × Int) := d.map fun x => ((if 0 ≤ x then 3 else 2), (x % 18446744073709551616))
def qsJ_Int64 (d : List Int) : List (Int × Int) := d.map fun x => (2, (x % 18446744073709551616))
theorem rangeJ_Int64 (x : Int) (h : (Lit.int .i64 x).wf = true) : -9223372036854775808 ≤ x ∧ x < 9223372036854775808 := by
  simp [Lit.wf, IntKind.min, IntKind.max, IntKind.bits, IntKind.signed] at h; omega
set_option maxRecDepth 100000 in
set_option maxHeartbeats 1000000 in
theorem samePack_posJ (num ext : Int) (text : ByteArray) (w : World) (h0 : 0 ≤ num) (h1 : num < 9223372036854775808) :
    Calls Tryd.prog 13 #[pk 3 num text ext, pk 2 num text ext] w fun e w' => e = .returned (.bool true) ∧ Below w.heap.size w w' := by
  unfold pk
  go_enter Tryd.func13, Tryd.ntmps13
  go_wp2_with fail
  refine wp_loop_once ?_
  go_wp2_with fail
  go_ret
  refine ⟨rfl, ?_⟩
  (repeat (first | with_reducible exact Below.refl _ _ | with_reducible assumption | with_reducible refine below_drewN ?_ _ | with_reducible refine Below.drew ?_ | with_reducible refine below_row ?_ (by first | omega | (simp; done) | (simp; omega)) _ | with_reducible refine Below.alloc ?_ (by first | omega | (simp; done) | (simp; omega)) _ | with_reducible refine Below.setCell ?_ (by first | omega | (simp; done) | (simp; omega)) _))
theorem sameJ_Int64 (d : List Int) (hd : ∀ x ∈ d, -9223372036854775808 ≤ x ∧ x < 9223372036854775808) : SameL (psJ_Int64 d) (qsJ_Int64 d) := by
  refine ⟨by simp [psJ_Int64, qsJ_Int64], fun i h h2 W => ?_⟩
  have hil : i < d.length := by simpa [psJ_Int64] using h
  have hx := hd d[i] (List.getElem_mem hil)
  simp only [psJ_Int64, qsJ_Int64, List.getElem_map]
  by_cases p : 0 ≤ d[i]
  · rw [if_pos p]
    exact samePack_posJ _ 0 ⟨#[]⟩ W (by omega) (by omega)
  · rw [if_neg p]
    exact samePack_neg 2 _ 0 ⟨#[]⟩ W (by omega) (by omega)

theorem toksJ_Int64 (d : List Int) (hd : ∀ x ∈ d, -9223372036854775808 ≤ x ∧ x < 9223372036854775808) : (∀ i (h : i < (d.map (fun x => itoa x)).length) (h2 : i < (psJ_Int64 d).length), Tok (d.map (fun x => itoa x))[i] (psJ_Int64 d)[i]) ∧ ∀ t ∈ d.map (fun x => itoa x), t.length ≤ 21 := by
  refine ⟨fun i h h2 => ?_, fun t ht => ?_⟩
  · have hil : i < d.length := by simpa using h
    have hx := hd d[i] (List.getElem_mem hil)
    simp only [psJ_Int64, List.getElem_map]
    exact tok_int d[i] (by omega) (by omega)
  · obtain ⟨x, hx, rfl⟩ := List.mem_map.1 ht
    have hx := hd x hx
    exact itoa_length_le x (by omega) (by omega)
theorem fiveJ_Int64 : 2 < (strB (jtx ((inS [5]).map (fun x => itoa x)))).size := by
  have e : inS [5] = [5] := by decide
  have h : 1 ≤ ((fun x => itoa x) (5 : Int)).length := (show 1 ≤ (itoa 5).length by rw [show itoa 5 = decDigits 5 from rfl]; exact dec_pos 5)
  rw [strB_size, e]
  simp only [jtx, jn, List.map_cons, List.map_nil, List.flatMap_nil, List.append_nil, List.length_cons, List.length_append, List.length_nil]
  simp only [] at h ⊢
  omega

set_option maxRecDepth 100000 in
set_option maxHeartbeats 4000000 in
theorem fnJSONSetInt64_walk (la : Option Addr) (m lc : Nat) (xs : List Int) (w : World) (hr : Rd w la (xs.map (Value.int .i64))) (hm : m = xs.length) (hwf : ∀ x ∈ xs, (Lit.int .i64 x).wf = true) (htab : Tab10 w.heap.size w) :
    Calls Tryd.prog 5 #[.slice la m lc] w fun e w' => e = .returned (.bool true) ∧ Below w.heap.size w w' := by
  by_cases hbig2 : 2147483647 < m
  · have hb2 : (2147483647 : Int) < m := by omega
    go_enter Tryd.func5, Tryd.ntmps5
    go_wp2_with fail
    go_ret
    exact ⟨rfl, Below.refl _ _⟩
  have hb2 : ¬ ((2147483647 : Int) < m) := by omega
  have HT := Lib.hid htab
  have hr5 := Rd.lit w 2 [.int .i64 5]
  have HP5 := Lib.hid (jset_Int64 [5] (some ⟨w.heap.size, 0, none⟩) 1 (w.alloc (.cells [Value.int .i64 5].toArray 2)) (by simpa using hr5) (by simp) (by simp) (by simp [Lit.wf, IntKind.min, IntKind.max, IntKind.bits, IntKind.signed]) ((HT.out.on ((Below.refl _ _).alloc (Nat.le_refl _) _)).mono (by simp)))
  obtain ⟨st, hst⟩ : ∃ st, st = strB (jtx ((inS [5]).map (fun x => itoa x))) := ⟨_, rfl⟩
  have h52 := fiveJ_Int64
  rw [← hst] at HP5 h52
  have hgt : (2 : Int) < st.size := by omega
  have HR := Lib.hid hr
  have HM := Lib.hid hm
  have HW := Lib.hid hwf
  clear hr hm hwf htab hr5 hst h52
  go_enter Tryd.func5, Tryd.ntmps5
  go_wp2_with fail
  refine HP5.out.mono ?_
  rintro e w1 ⟨rfl, hb1⟩
  have hb1w : Below w.heap.size w w1 := Below.trans (b := w.alloc (.cells [Value.int .i64 5].toArray 2)) ((Below.refl _ _).alloc (Nat.le_refl _) _) (hb1.mono (by simp))
  have HB1 := Lib.hid hb1w
  have hz1 := hb1w.size
  clear hb1 hb1w
  by_cases hm1 : 100 < m
  · have hm2 : (100 : Int) < m := by omega
    go_wp2_with fail
    go_ret
    exact ⟨rfl, HB1.out⟩
  have hm2 : ¬ ((100 : Int) < m) := by omega
  by_cases hm0 : m = 0
  · have hz : ((m : Int) == 0) = true := by simp; omega
    go_wp2_with fail
    go_ret
    exact ⟨rfl, HB1.out⟩
  have hz : ((m : Int) == 0) = false := by simp; omega
  have hb2w : Below w.heap.size w (w1.alloc (.cells #[.int .i64 8, .int .u64 0, .string ⟨#[]⟩, .int .i64 0, .slice none 0 0] 29)) := HB1.out.alloc hz1 _
  have hset := inSetO_i64 xs la lc _ (by have := HM.out; omega) (HR.out.below hb2w (Nat.le_refl _))
  rw [← HM.out] at hset
  have HS := Lib.hid hset
  have HB2 := Lib.hid hb2w
  clear hset hb2w
  go_wp2_with fail
  refine HS.out.mono ?_
  rintro e w3 ⟨a3, c3, rfl, hr3, hb3, hge3⟩
  obtain ⟨d, hd⟩ : ∃ d, d = inS xs := ⟨_, rfl⟩
  have hdl := inS_le xs
  rw [← hd] at hr3 hdl ⊢
  obtain ⟨k, hk⟩ : ∃ k, k = d.length := ⟨_, rfl⟩
  rw [← hk] at hdl ⊢
  have hkm : k ≤ 100 := by have := HM.out; omega
  have hK1 : 1 ≤ k := by
    rcases Nat.eq_zero_or_pos k with h | h
    · exfalso
      have e0 : inS xs = [] := List.eq_nil_of_length_eq_zero (by rw [← hd, ← hk]; exact h)
      obtain ⟨y, hy⟩ := List.exists_mem_of_length_pos (show 0 < xs.length by have := HM.out; omega)
      have := (mem_inS y xs).2 hy
      rw [e0] at this; simp at this
    · exact h
  have HD := Lib.hid hd
  have HK := Lib.hid hk
  have HR3 := Lib.hid hr3
  have HGE3 := Lib.hid (show ∀ x, a3 = some x → w1.heap.size + 1 ≤ x.block from fun x hx => by have := hge3 x hx; simpa using this)
  have HLT3 := Lib.hid (show ∀ x, a3 = some x → x.block < w3.heap.size from fun x hx => by
    obtain ⟨b9, o9, e9, hc9⟩ := hr3.at_ (by simp; omega)
    rw [hx] at e9; injection e9 with e9; subst e9
    exact World.block_lt_of_cell? w3 _ (hc9 0 (by simp; omega)))
  have hs3 : w1.heap.size + 1 ≤ w3.heap.size := by have := hb3.size; simpa using this
  have hG3 : Blk w3 w1.heap.size 29 #[.int .i64 8, .int .u64 0, .string ⟨#[]⟩, .int .i64 0, .slice none 0 0] := Blk.below (Blk.new w1 _ _) hb3 (by simp)
  have hb3w := HB2.out.trans (hb3.mono (by simp; omega))
  have HB3 := Lib.hid hb3w
  have hz3 := hb3w.size
  have HG3 := Lib.hid hG3
  clear hd hk hr3 hb3 hb3w hdl hG3 hge3
  go_wp2_with fail
  go_loopw [29] (fun i wr => ∃ j : Nat, j ≤ k ∧ i = .int .i64 j ∧ ∃ wa wc, Hid (Blk wr w1.heap.size 29 #[.int .i64 8, .int .u64 0, .string ⟨#[]⟩, .int .i64 0, .slice wa j wc]) ∧ Hid (wr.ownsRow w3.heap.size 29 5 (.slice wa j wc) j (l5s ((qsJ_Int64 d).take j))) ∧ Hid (Rd wr a3 (d.map (Value.int .i64))) ∧ Hid (Below w1.heap.size w3 wr)) (fun i _ => k - (intOf i).toNat)
  case atStart => exact ⟨0, Nat.zero_le _, rfl, none, 0, HG3, Lib.hid (World.ownsRow_nil _ _ _ _), HR3, Lib.hid (Below.refl _ _)⟩
  case round =>
    obtain ⟨j, hj, rfl, wa, wc, hG, how, hrd, hbr⟩ := hrel
    have hBs := hbr.out.size
    by_cases hlt : j < k
    · have hli : (j : Int) < k := by omega
      have hjd : j < d.length := by have := HK.out; omega
      obtain ⟨ba, bo, e2, hc⟩ := hrd.out.at_ (by simp; omega)
      subst e2
      obtain ⟨x, hx⟩ : ∃ x, x = d[j] := ⟨_, rfl⟩
      have hck : wr.cell? ⟨ba, bo + j, none⟩ = some (.int .i64 x) := by rw [hc j (by simp; omega), hx]; simp [List.getD, List.getElem?_eq_getElem hjd]
      obtain ⟨hx0, hx1⟩ := rangeJ_Int64 x (HW.out x ((mem_inS x xs).1 (by rw [hx, ← HD.out]; exact List.getElem_mem _)))
      have hsn := l5s_snoc (qsJ_Int64 d) j (by simpa [qsJ_Int64] using hjd)
      have hq : (qsJ_Int64 d)[j]'(by simpa [qsJ_Int64] using hjd) = (2, (x % 18446744073709551616)) := by simp [qsJ_Int64, hx]
      rw [hq] at hsn
      have HSN := Lib.hid hsn
      clear hx hsn hq hc
      have hcv : IntKind.u64.wrap x = (x % 18446744073709551616) := by first | exact IntKind.wrap_u64 x | (rw [IntKind.wrap_u64]; omega)
      have q4 := fun o => Blk.cell (Blk.alloc hG.out o) (i := 4) (v := .slice wa j wc) rfl
      have q4' := Blk.cell hG.out (i := 4) (v := .slice wa j wc) rfl
      go_wp2_with (at_builtin; refine appN (by rfl) _ _ 27 29 5 64 (by rfl) Tryd.underlying27 infoPk (by omega) (by omega) w3.heap.size wa j wc _ (by rfl) (how.out.alloc _) wr.heap.size (by first | rfl | simp [Act.eval]) (l5 (2, (x % 18446744073709551616))) rfl (by intro u hu; simp [l5] at hu; rcases hu with rfl | rfl | rfl | rfl | rfl <;> rfl) (Blk.new _ _ _) (by omega) (by simp <;> omega) ?_; intro wa2 wc2 w5 ho5 hg5; have hG5 := blk_grown (Blk.alloc hG.out _) hg5 (ge_of_owns how.out) (by omega); have f5 := hG5.frozen 4; have q5 := Blk.cell hG5 (i := 4) (v := .slice wa j wc) rfl)
      have hb5 : Below w3.heap.size wr w5 := Below.trans (b := wr.alloc _) ((Below.refl _ _).alloc hBs _) (below_of_grown hg5 (by simp; omega) (ge_of_owns how.out))
      have hG6 := hG5.set 4 (.slice wa2 (j + 1) wc2)
      have ho6 := owns_set ho5 (p := ⟨w1.heap.size, 4, none⟩) (by simp; omega) (.slice wa2 (j + 1) wc2)
      rw [← HSN.out] at ho6
      have hr6 : Rd (w5.setCell ⟨w1.heap.size, 4, none⟩ (.slice wa2 (j + 1) wc2)) (some ⟨ba, bo, none⟩) (d.map (Value.int .i64)) := Rd.setCell (hrd.out.belowAt hb5 (fun y hy => HLT3.out y hy)) _ (fun y hy => by have := HGE3.out y hy; simp; omega)
      have hb6 : Below w1.heap.size w3 (w5.setCell ⟨w1.heap.size, 4, none⟩ (.slice wa2 (j + 1) wc2)) := (hbr.out.trans (hb5.mono (by omega))).setCell (Nat.le_refl _) _
      have HX := Lib.hid (And.intro hG6 (And.intro ho6 (And.intro hr6 hb6)))
      clear hG6 ho6 hr6 hb6 hG5 f5 q5 hg5 ho5 hb5 hcv hck q4 q4'
      go_wp2_with fail
      go_roundw
      case rel => exact ⟨j + 1, by omega, by go_num, wa2, wc2, Lib.hid HX.out.1, Lib.hid HX.out.2.1, Lib.hid HX.out.2.2.1, Lib.hid HX.out.2.2.2⟩
      case measure => simp [intOf]; omega
    · have hli : ¬ (j : Int) < k := by omega
      obtain rfl : j = k := by omega
      have how2 := how.out
      rw [List.take_of_length_le (by simp [qsJ_Int64]; have := HK.out; omega)] at how2
      have hbw : Below w.heap.size w wr := HB3.out.trans (hbr.out.mono hz1)
      have hbws := hbw.size
      have hjs := jset_Int64 xs la lc wr (HR.out.below hbw (Nat.le_refl _)) (by have := HM.out; omega) (by have := HM.out; omega) HW.out ((HT.out.on hbw).mono hbws)
      rw [← HM.out, ← HD.out] at hjs
      obtain ⟨htk, ht21⟩ := toksJ_Int64 d (fun x hx => rangeJ_Int64 x (HW.out x ((mem_inS x xs).1 (by rw [← HD.out]; exact hx))))
      have hpl : (psJ_Int64 d).length = j := by simp [psJ_Int64, HK.out]
      have hrj := fun W => readJSON_toks (d.map (fun x => itoa x)) (psJ_Int64 d) (by intro e; have := congrArg List.length e; simp at this; have := HK.out; rw [‹d = []›] at this; simp at this; omega) (by simp [psJ_Int64]) (by rw [hpl]; omega) htk ht21 W
      rw [hpl] at hrj
      obtain ⟨st2, hst2⟩ : ∃ st2, st2 = strB (jtx (d.map (fun x => itoa x))) := ⟨_, rfl⟩
      rw [← hst2] at hjs hrj
      have HJS := Lib.hid hjs
      have HRJ := Lib.hid hrj
      have HQ := Lib.hid (Rd.of_owns how2)
      have HGW := Lib.hid (ge_of_owns how2)
      have HBW := Lib.hid hbw
      have HPL := Lib.hid hpl
      have hSL := sameJ_Int64 d (fun x hx => rangeJ_Int64 x (HW.out x ((mem_inS x xs).1 (by rw [← HD.out]; exact hx))))
      have HSL := Lib.hid hSL
      clear hjs hrj how2 hbw htk ht21 hst2 hpl hSL
      go_wp2_with fail
      refine HJS.out.mono ?_
      rintro e w5 ⟨rfl, hb5⟩
      have HB5 := Lib.hid hb5
      have hs5 := hb5.size
      clear hb5
      go_wp2_with fail
      refine (HRJ.out w5).mono ?_
      rintro e w6 ⟨ka, kc, rfl, hr6, hka6, hb6⟩
      have hs6 := hb6.size
      have hb56 := HB5.out.trans (hb6.mono hs5)
      have hG6 := Blk.below hG.out hb56 (by omega)
      have hq6 : Rd w6 wa (l5s (qsJ_Int64 d)) := HQ.out.below hb56 (Nat.le_refl _)
      have c0 := fun o => Blk.cell (Blk.alloc hG6 o) (i := 0) (v := .int .i64 8) rfl
      have c1 := fun o => Blk.cell (Blk.alloc hG6 o) (i := 1) (v := .int .u64 0) rfl
      have c2 := fun o => Blk.cell (Blk.alloc hG6 o) (i := 2) (v := .string ⟨#[]⟩) rfl
      have c3 := fun o => Blk.cell (Blk.alloc hG6 o) (i := 3) (v := .int .i64 0) rfl
      have c4 := fun o => Blk.cell (Blk.alloc hG6 o) (i := 4) (v := .slice wa j wc) rfl
      have HSP := Lib.hid (fun W h1 h2 => samePack_arr (psJ_Int64 d) (qsJ_Int64 d) ka wa kc wc W HSL.out h1 h2 (by rw [HPL.out]; omega))
      rw [HPL.out] at HSP
      have HX := Lib.hid (And.intro hr6 (And.intro hq6 (HBW.out.trans (hb56.mono hbws))))
      clear hr6 hka6 hb6 hb56 hG6 hq6
      go_wp2_with fail
      refine (HSP.out _ (Rd.alloc HX.out.1 _) (Rd.alloc HX.out.2.1 _)).mono ?_
      rintro e w7 ⟨rfl, hb7⟩
      have HB7 := Lib.hid (HX.out.2.2.trans (Below.trans (b := w6.alloc _) ((Below.refl _ _).alloc (by omega) _) (hb7.mono (by simp; omega))))
      clear hb7
      go_wp2_with fail
      go_ret
      exact ⟨rfl, HB7.out⟩
end Go.Proofs.YtokjgloefafdpaaDoor
