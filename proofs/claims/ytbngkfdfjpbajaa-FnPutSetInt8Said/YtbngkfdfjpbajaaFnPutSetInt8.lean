/- The walk of laws.FnPutSetInt8. -/
import Derived.Test.YtbngkfdfjpbajaaPutSet
import Derived.Test.YtbngkfdfjpbajaaIsSet
import Derived.Test.YtbngkfdfjpbajaaInSet
import Derived.Test.YtbngkfdfjpbajaaFewL
namespace Go.Proofs.Ytbngkfdfjpbajaa
open Go.RowKit Go.Maps
set_option linter.unusedVariables false
set_option linter.unusedSimpArgs false

set_option maxRecDepth 100000 in
set_option maxHeartbeats 1000000 in
theorem samePack_pos2 (num ext : Int) (text : ByteArray) (w : World) (h0 : 0 ≤ num) (h1 : num < 9223372036854775808) :
    Calls Try.prog 14 #[pk 3 num text ext, pk 2 num text ext] w fun e w' => e = .returned (.bool true) ∧ Below w.heap.size w w' := by
  unfold pk
  go_enter Try.func14, Try.ntmps14
  go_wp2_with fail
  refine wp_loop_once ?_
  go_wp2_with fail
  go_ret
  refine ⟨rfl, ?_⟩
  (repeat (first | with_reducible exact Below.refl _ _ | with_reducible assumption | with_reducible refine below_drewN ?_ _ | with_reducible refine Below.drew ?_ | with_reducible refine below_row ?_ (by first | omega | (simp; done) | (simp; omega)) _ | with_reducible refine Below.alloc ?_ (by first | omega | (simp; done) | (simp; omega)) _ | with_reducible refine Below.setCell ?_ (by first | omega | (simp; done) | (simp; omega)) _))

theorem encs_Int8 (xs : List Int) (hwf : ∀ x ∈ xs, (Lit.int .i8 x).wf = true) : ∃ es, Encs 29 .i8 (fun x => (if 0 ≤ x then 3 else 2)) (fun x => (x % 18446744073709551616)) (inS xs) es := by
  refine encs_of _ _ _ _ _ (fun x hx => ?_)
  have h := wf_i8 x (hwf x ((mem_inS x xs).1 hx))
  exact app_Int8 x (by omega) (by omega)
theorem getD_wf {xs : List Int} {j : Nat} (h : j < xs.length) : xs.getD j 0 ∈ xs := by
  simp [List.getD, List.getElem?_eq_getElem h]
/-- What is written of the set, and what the law wants. -/
def psOf (d : List Int) : List (Int × Int) := d.map fun x => ((if 0 ≤ x then 3 else 2), (x % 18446744073709551616))
def qsOf (d : List Int) : List (Int × Int) := d.map fun x => (2, (x % 18446744073709551616))
theorem rds_Int8 {d : List Int} {es : List (List Int)} (h : Encs 29 .i8 (fun x => (if 0 ≤ x then 3 else 2)) (fun x => (x % 18446744073709551616)) d es) : Rds (psOf d) es := by
  refine ⟨by rw [h.1]; simp [psOf], fun i hi h2 => ?_⟩
  have hd : i < d.length := by rw [← h.1]; exact hi
  have := (h.2 i hi).2.2.1
  simpa [psOf, List.getD, List.getElem?_eq_getElem hd] using this
theorem encs_flat : ∀ {d : List Int} {es : List (List Int)} {f : FuncId} {q : IntKind} {kd num : Int → Int}, Encs f q kd num d es → d.length ≤ es.flatten.length := by
  intro d es f q kd num h
  rw [← h.1]
  have H : ∀ es : List (List Int), (∀ i (h : i < es.length), 1 ≤ es[i].length) → es.length ≤ es.flatten.length := by
    intro es
    induction es with
    | nil => intro _; simp
    | cons e r ih =>
      intro h
      have h1 := h 0 (by simp)
      have h2 := ih (fun i hi => by have := h (i + 1) (by simpa using hi); rwa [List.getElem_cons_succ] at this)
      rw [List.getElem_cons_zero] at h1
      rw [List.flatten_cons, List.length_append, List.length_cons]; omega
  exact H es (fun i hi => (h.2 i hi).1)

theorem sameL_Int8 (d : List Int) (hd : ∀ x ∈ d, -128 ≤ x ∧ x < 128) : SameL (psOf d) (qsOf d) := by
  refine ⟨by simp [psOf, qsOf], fun i h h2 W => ?_⟩
  have hil : i < d.length := by simpa [psOf] using h
  have hx := hd d[i] (List.getElem_mem hil)
  simp only [psOf, qsOf, List.getElem_map]
  by_cases p : 0 ≤ d[i]
  · rw [if_pos p]
    exact samePack_pos2 _ 0 ⟨#[]⟩ W (by omega) (by omega)
  · rw [if_neg p]
    exact samePack_neg 2 _ 0 ⟨#[]⟩ W (by omega) (by omega)

set_option maxRecDepth 100000 in
set_option maxHeartbeats 4000000 in
theorem fnPutSetInt8_walk (a : Option Addr) (n c : Nat) (l : List Int) (la : Option Addr) (m lc : Nat) (xs : List Int) (w : World) (hv : Vw w a n c l) (hr : Rd w la (xs.map (Value.int .i8))) (hm : m = xs.length) (hwf : ∀ x ∈ xs, (Lit.int .i8 x).wf = true) :
    Calls Try.prog 4 #[.slice a n c, .slice la m lc] w fun e w' => e = .returned (.bool true) ∧ Below w.heap.size w w' := by
  by_cases hbig : 2147483647 < n
  · have hb : (2147483647 : Int) < n := by omega
    go_enter Try.func4, Try.ntmps4
    go_wp2_with fail
    go_ret
    exact ⟨rfl, Below.refl _ _⟩
  · have hb : ¬ ((2147483647 : Int) < n) := by omega
    by_cases hbig2 : 2147483647 < m
    · have hb2 : (2147483647 : Int) < m := by omega
      go_enter Try.func4, Try.ntmps4
      go_wp2_with fail
      go_ret
      exact ⟨rfl, Below.refl _ _⟩
    · have hb2 : ¬ ((2147483647 : Int) < m) := by omega
      obtain ⟨es5, he5⟩ := encs_Int8 [5] (by simp [Lit.wf, IntKind.min, IntKind.max, IntKind.bits, IntKind.signed])
      have HP5 := Lib.hid (fun W a2 c2 hr => putSet_Int8 [] none 0 0 [5] a2 c2 es5 W (Vw.nil W) hr (by simp) (by simp) (by simp [Lit.wf, IntKind.min, IntKind.max, IntKind.bits, IntKind.signed]) he5 (by omega))
      have H5 := Lib.hid (encs_flat he5)
      have HV := Lib.hid hv
      have HR := Lib.hid hr
      have HM := Lib.hid hm
      have HW := Lib.hid hwf
      clear hv hr hm hwf he5
      go_enter Try.func4, Try.ntmps4
      go_wp2_with fail
      refine (HP5.out _ _ _ (Rd.lit w 36 [.int .i8 5])).mono ?_
      rintro e w1 ⟨a1, n1, c1, rfl, ho1, hb1⟩
      have hl1 : 2 ≤ n1 := by
        have h1 := ho1.vw.len
        have h2 := H5.out
        have h3 := (hdA_len (inS [5]).length).1
        have h4 : (inS [5]).length = 1 := rfl
        rw [List.length_append, List.length_append] at h1
        simp only [List.length_nil] at h1
        omega
      have hpos : (1 : Int) < n1 := by omega
      have hb1w : Below w.heap.size w w1 := Below.trans (b := w.alloc (.cells #[.int .i8 5] 36)) ((Below.refl _ _).alloc (Nat.le_refl _) _) (hb1.mono (by simp))
      have HB1 := Lib.hid hb1w
      have hz1 := hb1w.size
      clear ho1 hb1 hb1w hl1
      go_wp2_with fail
      by_cases hf : n ≤ 200
      rotate_left
      · refine (few_no _ _ _ _ (by omega)).mono ?_
        rintro e w2 ⟨rfl, rfl⟩
        go_wp2_with fail
        go_ret
        exact ⟨rfl, HB1.out⟩
      refine (few_yes _ _ _ _ hf).mono ?_
      rintro e w2 ⟨rfl, rfl⟩
      by_cases hm1 : 100 < m
      · have hm2 : (100 : Int) < m := by omega
        go_wp2_with fail
        go_ret
        exact ⟨rfl, HB1.out⟩
      have hm2 : ¬ ((100 : Int) < m) := by omega
      have hset := inSet_i8 xs la lc w2 (by have := HM.out; omega) (HR.out.below HB1.out (Nat.le_refl _))
      rw [← HM.out] at hset
      have HS := Lib.hid hset
      clear hset
      go_wp2_with fail
      refine HS.out.mono ?_
      rintro e w3 ⟨a3, c3, rfl, hr3, hb3⟩
      obtain ⟨d, hd⟩ : ∃ d, d = inS xs := ⟨_, rfl⟩
      have hdl := inS_le xs
      rw [← hd] at hr3 hdl ⊢
      obtain ⟨k, hk⟩ : ∃ k, k = d.length := ⟨_, rfl⟩
      rw [← hk] at hdl ⊢
      have hkm : k ≤ 100 := by have := HM.out; omega
      have HD := Lib.hid hd
      have HK := Lib.hid hk
      have HR3 := Lib.hid hr3
      have hb3w := HB1.out.trans (hb3.mono hz1)
      have HB3 := Lib.hid hb3w
      have hz3 := hb3w.size
      clear hd hk hr3 hb3 hb3w hdl
      go_wp2_with fail
      go_loopw [6, 33] (fun o i wr => ∃ j : Nat, j ≤ k ∧ i = .int .i64 j ∧ ∃ wa wc, o = .slice wa j wc ∧ Hid (wr.ownsRow w3.heap.size 31 5 (.slice wa j wc) j (l5s ((qsOf d).take j))) ∧ Hid (Below w3.heap.size w3 wr)) (fun _ i _ => k - (intOf i).toNat)
      case atStart => exact ⟨0, Nat.zero_le _, rfl, none, 0, rfl, Lib.hid (World.ownsRow_nil _ _ _ _), Lib.hid (Below.refl _ _)⟩
      case round =>
        obtain ⟨j, hj, rfl, wa, wc, rfl, how, hbr⟩ := hrel
        have hBs := hbr.out.size
        by_cases hlt : j < k
        · have hli : (j : Int) < k := by omega
          have hjd : j < d.length := by have := HK.out; omega
          obtain ⟨ba, bo, rfl, hc⟩ := (HR3.out.below hbr.out (Nat.le_refl _)).at_ (by simp; omega)
          obtain ⟨x, hx⟩ : ∃ x, x = d[j] := ⟨_, rfl⟩
          have hck : wr.cell? ⟨ba, bo + j, none⟩ = some (.int .i8 x) := by rw [hc j (by simp; omega), hx]; simp [List.getD, List.getElem?_eq_getElem hjd]
          have hxb := wf_i8 x (HW.out x ((mem_inS x xs).1 (by rw [hx, ← HD.out]; exact List.getElem_mem _)))
          obtain ⟨hx0, hx1⟩ := hxb
          have hsn := l5s_snoc (qsOf d) j (by simpa [qsOf] using hjd)
          have hq : (qsOf d)[j]'(by simpa [qsOf] using hjd) = (2, (x % 18446744073709551616)) := by simp [qsOf, hx]
          rw [hq] at hsn
          have HSN := Lib.hid hsn
          clear hc hx hsn hq
          have hcv : IntKind.u64.wrap x = (x % 18446744073709551616) := by first | exact IntKind.wrap_u64 x | (rw [IntKind.wrap_u64]; omega)
          go_wp2_with (at_builtin; refine appN (by rfl) _ _ 27 31 5 64 (by rfl) Try.underlying27 infoPk (by omega) (by omega) w3.heap.size wa j wc _ (by rfl) (how.out.alloc _) wr.heap.size (by rfl) (l5 (2, (x % 18446744073709551616))) rfl (by intro u hu; simp [l5] at hu; rcases hu with rfl | rfl | rfl | rfl | rfl <;> rfl) (Blk.new _ _ _) (by omega) (by simp <;> omega) ?_; intro wa2 wc2 w5 ho2 hg2)
          have hb5 : Below w3.heap.size wr w5 := Below.trans (b := wr.alloc _) ((Below.refl _ _).alloc hBs _) (below_of_grown hg2 (by simp; omega) (ge_of_owns how.out))
          rw [← HSN.out] at ho2
          have HO2 := Lib.hid ho2
          have HB5 := Lib.hid (hbr.out.trans hb5)
          clear ho2 hg2 hcv hb5
          go_roundw
          case rel => exact ⟨j + 1, by omega, by go_num, wa2, wc2, rfl, HO2, HB5⟩
          case measure => simp [intOf]; omega
        · have hli : ¬ (j : Int) < k := by omega
          obtain rfl : j = k := by omega
          by_cases hk0 : j = 0
          · have hz : ((j : Int) == 0) = true := by simp; omega
            go_wp2_with fail
            go_ret
            exact ⟨rfl, HB3.out.trans (hbr.out.mono hz3)⟩
          have hz : ((j : Int) == 0) = false := by simp; omega
          have hql : (qsOf d).length = j := by simp [qsOf, HK.out]
          have how2 := how.out
          rw [List.take_of_length_le (by omega)] at how2
          have hbw : Below w.heap.size w wr := HB3.out.trans (hbr.out.mono hz3)
          have hbws := hbw.size
          have HV1 := Lib.hid (Vw.below hbw (Nat.le_refl _) HV.out)
          have HBW := Lib.hid hbw
          have HQ := Lib.hid (Rd.of_owns how2)
          have HQL := Lib.hid hql
          obtain ⟨es, hes⟩ := encs_Int8 xs HW.out
          have HE := Lib.hid hes
          clear how2 hbw hql hes
          go_wp2_with (at_builtin; refine app8_copy (by rfl) _ _ (by rfl) (by rfl) a n c l (by rfl) HV1.out (by omega) ?_; intro a4 c4 w4 ho4 hb4)
          have hb4s := hb4.size
          have hbw4 : Below w.heap.size w w4 := HBW.out.trans (hb4.mono hbws)
          have hput := putSet_Int8 l a4 n c4 xs la lc es w4 ho4.vw (HR.out.below hbw4 (Nat.le_refl _)) (by
            have := HK.out; have := inS_le xs; rw [← HD.out] at this; omega) (by have := HM.out; omega) HW.out HE.out (by omega)
          rw [← HM.out, ← HD.out] at hput
          have HPU := Lib.hid hput
          have HB4 := Lib.hid (And.intro hb4 hbw4)
          clear hput ho4 hb4 hbw4
          go_wp2_with fail
          refine HPU.out.mono ?_
          rintro e w5 ⟨a5, n5, c5, rfl, ho5, hb5⟩
          have hbw5 : Below w.heap.size w w5 := HB4.out.2.trans (hb5.mono HB4.out.2.size)
          have hbr5 : Below wr.heap.size wr w5 := HB4.out.1.trans (hb5.mono hb4s)
          have hb5s := hbw5.size
          have hpl : (psOf d).length = j := by simp [psOf, HK.out]
          have hdE := HE.out
          rw [← HD.out] at hdE
          have ho5' := ho5.vw
          rw [← HK.out] at ho5'
          have his := isSet_ok (psOf d) (qsOf d) es a n c l a5 n5 c5 wa wc w5 (Vw.below hbw5 (Nat.le_refl _) HV.out) (by rw [hpl]; exact ho5') (rds_Int8 hdE) (by omega) (by rw [hpl]; have := encs_flat hdE; have := HK.out; omega)
            (sameL_Int8 d (fun x hx => wf_i8 x (HW.out x ((mem_inS x xs).1 (by rw [← HD.out]; exact hx))))) (HQ.out.below hbr5 (Nat.le_refl _))
          rw [hpl] at his
          have HIS := Lib.hid his
          have HB5 := Lib.hid hbw5
          clear his hbw5 hbr5 ho5 ho5' hdE hb5
          go_wp2_with fail
          refine HIS.out.mono ?_
          rintro e w6 ⟨rfl, hb6⟩
          go_wp2_with fail
          go_ret
          exact ⟨rfl, HB5.out.trans (hb6.mono hb5s)⟩
end Go.Proofs.Ytbngkfdfjpbajaa
