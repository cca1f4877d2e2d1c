/- The walk of laws.FnGetSetUint16. -/
import Derived.Test.YtbngkfdfjpbajaaDoorSetP
import Derived.Test.YtbngkfdfjpbajaaDoorInSet
namespace Go.Proofs.YtbngkfdfjpbajaaDoor
open Go.RowKit Go.Maps
set_option linter.unusedVariables false
set_option linter.unusedSimpArgs false

theorem pes5 : PEs [5] [[5]] := by
  refine ⟨rfl, fun i h => ?_⟩
  have hi : i = 0 := by simp at h; omega
  subst hi
  exact .inl ⟨by decide, rfl⟩

set_option maxRecDepth 100000 in
set_option maxHeartbeats 8000000 in
theorem fnGetSetUint16_walk (la : Option Addr) (m lc : Nat) (xs : List Int) (s : Int) (h0 : 0 ≤ s) (h1 : s < 18446744073709551616) (a : Option Addr) (n c : Nat) (l : List Int) (w : World) (hr : Rd w la (xs.map (Value.int .u16))) (hm : m = xs.length) (hwf : ∀ x ∈ xs, (Lit.int .u16 x).wf = true) (hv : Vw w a n c l) :
    Calls Tryd.prog 4 #[.slice la m lc, .int .u64 s, .slice a n c] w fun e w' => e = .returned (.bool true) ∧ Below w.heap.size w w' := by
  by_cases hbig : 2147483647 < m
  · have hb : (2147483647 : Int) < m := by omega
    go_enter Tryd.func4, Tryd.ntmps4
    go_wp2_with fail
    go_ret
    exact ⟨rfl, Below.refl _ _⟩
  have hb : ¬ ((2147483647 : Int) < m) := by omega
  by_cases hbig2 : 2147483647 < n
  · have hb2 : (2147483647 : Int) < n := by omega
    go_enter Tryd.func4, Tryd.ntmps4
    go_wp2_with fail
    go_ret
    exact ⟨rfl, Below.refl _ _⟩
  have hb2 : ¬ ((2147483647 : Int) < n) := by omega
  have HG5 := Lib.hid (fun W a2 c2 (hv : Vw W a2 2 c2 [145, 5]) => getSet_Uint16 [145] [5] [[5]] [] a2 2 c2 W (.inl ⟨by decide, by decide, rfl⟩) pes5 (by simp [Lit.wf, IntKind.min, IntKind.max, IntKind.bits, IntKind.signed]) (by simp) (by simpa using hv) (by omega))
  have HV := Lib.hid hv
  have HR := Lib.hid hr
  have HM := Lib.hid hm
  have HW := Lib.hid hwf
  clear hv hr hm hwf
  go_enter Tryd.func4, Tryd.ntmps4
  go_wp2_with fail
  refine (HG5.out _ _ _ (Own.lit 5 w [145, 5] (by simp) (by simp)).vw).mono ?_
  rintro e w1 ⟨ga, gc, ra, rc, rfl, hr1, _, hb1⟩
  have hb1w : Below w.heap.size w w1 := Below.trans (b := w.alloc (.cells #[.int .u8 145, .int .u8 5] 5)) ((Below.refl _ _).alloc (Nat.le_refl _) _) (hb1.mono (by simp))
  obtain ⟨gb, go, rfl, hgc⟩ := hr1.at_ (by decide)
  have hg0 : w1.cell? ⟨gb, go, none⟩ = some (.int .u16 5) := hgc 0 (by decide)
  have hl1 : (inS [5]).length = 1 := rfl
  have HB1 := Lib.hid hb1w
  have hz1 := hb1w.size
  simp only [hl1]
  have hgl := World.block_lt_of_cell? w1 _ hg0
  clear hb1 hb1w hr1 hgc hl1
  by_cases hm1 : 100 < m
  · have hm2 : (100 : Int) < m := by omega
    go_wp2_with fail
    go_ret
    exact ⟨rfl, HB1.out⟩
  have hm2 : ¬ ((100 : Int) < m) := by omega
  by_cases hn1 : 100 < n
  · have hn2 : (100 : Int) < n := by omega
    go_wp2_with fail
    go_ret
    exact ⟨rfl, HB1.out⟩
  have hn2 : ¬ ((100 : Int) < n) := by omega
  go_wp2_with fail
  clear hg0 hgl
  have hblk0 : Blk (w1.alloc (.cells #[.int .i64 8, .int .u64 0, .string ⟨#[]⟩, .int .i64 0, .slice none 0 0] 25)) w1.heap.size 25 #[.int .i64 8, .int .u64 0, .string ⟨#[]⟩, .int .i64 0, .slice none 0 0] := Blk.new _ _ _
  have HB0 := Lib.hid hblk0
  clear hblk0
  go_loopw [55] (fun i wr => ∃ j : Nat, j ≤ m ∧ i = .int .i64 j ∧ ∃ wa wc, Hid (Blk wr w1.heap.size 25 #[.int .i64 8, .int .u64 0, .string ⟨#[]⟩, .int .i64 0, .slice wa j wc]) ∧ Hid (wr.ownsRow (w1.heap.size + 1) 25 5 (.slice wa j wc) j (l5Ns (xs.take j))) ∧ Hid (Below w1.heap.size w1 wr ∧ w1.heap.size + 1 ≤ wr.heap.size)) (fun i _ => m - (intOf i).toNat)
  case atStart => exact ⟨0, Nat.zero_le _, rfl, none, 0, HB0, Lib.hid (World.ownsRow_nil _ _ _ _), Lib.hid ⟨(Below.refl _ _).alloc (Nat.le_refl _) _, by simp⟩⟩
  case round =>
    obtain ⟨j, hj, rfl, wa, wc, hk, how, hbr⟩ := hrel
    have hbs := hbr.out.2
    by_cases hlt : j < m
    · have hli : (j : Int) < m := by omega
      have hjx : j < xs.length := by have := HM.out; omega
      have hb1r : Below w.heap.size w wr := HB1.out.trans (hbr.out.1.mono hz1)
      obtain ⟨lb, lo, rfl, hcl⟩ := (HR.out.below hb1r (Nat.le_refl _)).at_ (by simp; omega)
      obtain ⟨x, hxx⟩ : ∃ x, x = xs[j] := ⟨_, rfl⟩
      have hcj : wr.cell? ⟨lb, lo + j, none⟩ = some (.int .u16 x) := by rw [hcl j (by simp; omega), hxx]; simp [List.getD, List.getElem?_eq_getElem hjx]
      have hxb := wf_u16 x (HW.out x (by rw [hxx]; exact List.getElem_mem _))
      obtain ⟨hx0, hx1⟩ := hxb
      have hsn := l5Ns_snoc xs j hjx
      rw [← hxx] at hsn
      have HSN := Lib.hid hsn
      have hcv : IntKind.u64.wrap x = x := by rw [IntKind.wrap_u64]; omega
      have q4 : wr.cell? ⟨w1.heap.size, 4, none⟩ = some (.slice wa j wc) := hk.out.cell rfl
      have hbl1 := hk.out.lt
      clear hsn hxx hcl
      go_wp2_with (at_builtin; refine appN (by rfl) _ _ 23 25 5 64 (by rfl) Tryd.underlying23 infoPkS (by omega) (by omega) (w1.heap.size + 1) wa j wc _ (by rfl) (how.out.alloc _) wr.heap.size (by rfl) (l5N x) rfl (by intro u hu; simp [l5N] at hu; rcases hu with rfl | rfl | rfl | rfl | rfl <;> rfl) (Blk.new _ _ _) (by omega) (by simp <;> omega) ?_; intro wa5 wc5 w5 ho5 hg5; have hB1 := blkN_grown (hk.out.alloc _) hg5 (ge_of_owns how.out) (by omega); have f5 := hB1.frozen 4; have q5 := Blk.cell hB1 (i := 4) (v := .slice wa j wc) rfl)
      have hb5 : Below w1.heap.size w1 w5 := Below.trans (b := wr.alloc _) (hbr.out.1.alloc (by omega) _) (below_of_grown hg5 (by simp; omega) (fun x hx => by have := ge_of_owns how.out x hx; omega))
      rw [← HSN.out] at ho5
      have HX := Lib.hid (And.intro ho5 (And.intro hB1 (And.intro hb5 hg5.size)))
      clear ho5 hg5 hb5
      go_wp2_with fail
      have hB1' := HX.out.2.1.set 4 (.slice wa5 (j + 1) wc5)
      have hrow := owns_set HX.out.1 (p := ⟨w1.heap.size, 4, none⟩) (by simp) (.slice wa5 (j + 1) wc5)
      have HY := Lib.hid (And.intro hB1' hrow)
      clear hB1' hrow
      have hsz5 : w1.heap.size + 1 ≤ w5.heap.size := by have := HX.out.2.2.2; simp at this; omega
      have hb6 : Below w1.heap.size w1 (w5.setCell ⟨w1.heap.size, 4, none⟩ (.slice wa5 (j + 1) wc5)) := by have := HX.out.2.2.1; (repeat (first | with_reducible exact Below.refl _ _ | with_reducible assumption | with_reducible refine below_drewN ?_ _ | with_reducible refine Below.drew ?_ | with_reducible refine below_row ?_ (by first | omega | (simp; done) | (simp; omega)) _ | with_reducible refine Below.alloc ?_ (by first | omega | (simp; done) | (simp; omega)) _ | with_reducible refine Below.setCell ?_ (by first | omega | (simp; done) | (simp; omega)) _))
      have HB6 := Lib.hid hb6
      clear hb6
      go_roundw
      case rel => exact ⟨j + 1, by omega, by go_num, wa5, wc5, Lib.hid HY.out.1, Lib.hid HY.out.2, Lib.hid ⟨HB6.out, by simp; omega⟩⟩
      case measure => simp [intOf]; omega
    · have hli : ¬ (j : Int) < m := by omega
      obtain rfl : j = m := by omega
      have e1 : xs.take j = xs := by rw [HM.out]; simp
      have how2 := how.out
      rw [e1] at how2
      have hwc : j ≤ wc ∧ wc ≤ 9223372036854775807 := by
        rcases how2.2 with ⟨h, _⟩ | ⟨g, cap, cur, hv, _, _, h5, h6, _⟩
        · injection h with _ h5 h6; omega
        · injection hv with _ _ h7; simp only [maxLen] at h6; omega
      have hat := arrN_at (Rd.of_owns how2) (fun x hx => by have := wf_u16 x (HW.out x hx); omega) (by have := HM.out; omega) hwc.2
      rw [← HM.out] at hat
      have hfit := arrN_fits xs (by have := HM.out; omega)
      have hb1r : Below w.heap.size w wr := HB1.out.trans (hbr.out.1.mono hz1)
      have hzr := hb1r.size
      have HPK := Lib.hid (fun F w' hF hx hB => putPack_any hat hfit.1 hfit.2 F false w' hF hx hB)
      have HBR := Lib.hid hb1r
      have c0 : wr.cell? ⟨w1.heap.size, 0, none⟩ = some (.int .i64 8) := hk.out.cell rfl
      have c1 : wr.cell? ⟨w1.heap.size, 1, none⟩ = some (.int .u64 0) := hk.out.cell rfl
      have c2 : wr.cell? ⟨w1.heap.size, 2, none⟩ = some (.string ⟨#[]⟩) := hk.out.cell rfl
      have c3 : wr.cell? ⟨w1.heap.size, 3, none⟩ = some (.int .i64 0) := hk.out.cell rfl
      have c4 : wr.cell? ⟨w1.heap.size, 4, none⟩ = some (.slice wa j wc) := hk.out.cell rfl
      clear how2 hat hfit hb1r e1
      go_wp2_with fail
      refine (HPK.out wr.heap.size _ (Nat.le_refl _) ((Below.refl _ _).alloc (Nat.le_refl _) _) ⟨s, h0, h1, Blk.new _ _ _⟩).mono ?_
      rintro e w6 ⟨pa, pn, pc, pl, rfl, ho6, hl6, hf6, hk6⟩
      obtain ⟨hd, es, hh, he, rfl⟩ := arrN_enc hl6
      have hb6 : Below wr.heap.size wr w6 := Below.trans (b := wr.alloc _) ((Below.refl _ _).alloc (Nat.le_refl _) _) (hk6.below (by simp) (Nat.le_refl _))
      have hs6 := hb6.size
      have hpn := ho6.vw.len
      have hhd : hd.length ≤ 9 := by
        obtain ⟨z, r, rfl, h9⟩ := headL_hd hh
        rcases h9 with ⟨_, _, _, rfl⟩ | ⟨f, hf, _, _, rfl⟩
        · simp
        · simp [formsA] at hf
          rcases hf with rfl | rfl <;> simp [beL_2, beL_4]
      have hpe := (pes_len es (fun i hi => posL_len (he.2 i hi))).2
      have hpn2 : pn ≤ 1000 := by rw [List.length_append] at hpn; have := he.1; have := HM.out; omega
      have HO6 := Lib.hid ho6
      have HH := Lib.hid hh
      have HE := Lib.hid he
      have HB6 := Lib.hid (HBR.out.trans (hb6.mono hzr))
      have HV6 := Lib.hid (Vw.below HB6.out (Nat.le_refl _) HV.out)
      have hk6s : wr.heap.size + 1 ≤ w6.heap.size := by have := hk6.size; simpa using this
      clear ho6 hl6 hf6 hk6 hb6 hh he hpn hhd hpe c0 c1 c2 c3 c4
      go_wp2_with (at_builtin; refine app8 (by rfl) _ _ (by rfl) wr.heap.size _ pn pc _ (by rfl) (HO6.out.mono (by simp)) _ n c l (by rfl) HV6.out (by omega) (by omega) ?_; intro a7 c7 w7 ho7 hg7)
      have hb7 : Below wr.heap.size w6 w7 := below_of_grown hg7 hs6 (fun x hx => by have := HO6.out.ge x hx; simp at this; omega)
      have hb7w : Below w.heap.size w w7 := HB6.out.trans (hb7.mono hzr)
      have hs7 := hb7w.size
      have hvd := ho7.vw
      rw [List.append_assoc] at hvd
      have HG := Lib.hid (getSet_Uint16 hd xs es l a7 (pn + n) c7 w7 (by have := HH.out; exact this) HE.out HW.out (by have := HM.out; omega) hvd (by omega))
      have HB7 := Lib.hid hb7w
      clear ho7 hg7 hb7 hb7w hvd
      go_wp2_with fail
      refine HG.out.mono ?_
      rintro e w8 ⟨g8, gc8, r8, rc8, rfl, hr8, hv8, hb8⟩
      have hb8w := HB7.out.trans (hb8.mono hs7)
      have hs8 := hb8w.size
      have hnl : l.length = n := HV.out.len
      rw [hnl] at hv8
      have HR8 := Lib.hid hr8
      have HV8 := Lib.hid hv8
      have HB8 := Lib.hid hb8w
      have hset := inSet_u16 xs la lc w8 (by have := HM.out; omega) (HR.out.below hb8w (Nat.le_refl _))
      rw [← HM.out] at hset
      have HS := Lib.hid hset
      rw [hnl]
      clear hr8 hv8 hb8 hb8w hset hnl
      go_wp2_with fail
      refine HS.out.mono ?_
      rintro e w9 ⟨a9, c9, rfl, hr9, hb9⟩
      have hb9w := HB8.out.trans (hb9.mono hs8)
      have hs9 := hb9w.size
      have hil := inS_le xs
      have hsm := same_u16 (inS xs) g8 a9 gc8 c9 w9 (by have := HM.out; omega) (HR8.out.below hb9 (Nat.le_refl _)) hr9
      have HSM := Lib.hid hsm
      have HV9 := Lib.hid (Vw.below hb9 (Nat.le_refl _) HV8.out)
      have HB9 := Lib.hid hb9w
      clear hr9 hb9 hb9w hsm
      go_wp2_with fail
      refine HSM.out.mono ?_
      rintro e w10 ⟨rfl, hb10⟩
      have hb10w := HB9.out.trans (hb10.mono hs9)
      have HL := Lib.hid (leftS_any l r8 n rc8 a n c w10 (Vw.below hb10 (Nat.le_refl _) HV9.out) (Vw.below hb10w (Nat.le_refl _) HV.out))
      have HB10 := Lib.hid hb10w
      clear hb10 hb10w
      go_wp2_with fail
      refine HL.out.mono ?_
      rintro e w11 ⟨rfl, rfl⟩
      go_wp2_with fail
      go_ret
      exact ⟨rfl, HB10.out⟩
end Go.Proofs.YtbngkfdfjpbajaaDoor
