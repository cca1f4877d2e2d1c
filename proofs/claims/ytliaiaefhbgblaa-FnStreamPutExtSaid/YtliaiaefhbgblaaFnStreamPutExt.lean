/- The walk of laws.FnStreamPutExt. -/
import Derived.Test.YtliaiaefhbgblaaSPut
import Derived.Test.YtliaiaefhbgblaaWritX
import Derived.Test.YtliaiaefhbgblaaFitE
namespace Go.Proofs.Ytliaiaefhbgblaa
open Go.RowKit
set_option linter.unusedVariables false
set_option linter.unusedSimpArgs false

def OkX (p : Px) : Prop := p.k = 10 ∧ p.num = 0 ∧ p.kn = 0 ∧ -128 ≤ p.ext ∧ p.ext ≤ 127 ∧ p.text.size ≤ 65536

def AllX (ps : List Px) : Prop := ∀ i (h : i < ps.length), OkX ps[i]

theorem encExt (p : Px) (h : OkX p) : ∃ enc : List Int, enc.length ≤ 1000000 ∧ RdX p enc ∧ WrtsX 26 p.val enc := by
  obtain ⟨k, num, t, ext, ka, kn, kc⟩ := p
  obtain ⟨h1, h2, h3, h4, h5, h6⟩ := h
  simp only at h1 h2 h3 h4 h5 h6
  subst h1; subst h2; subst h3
  obtain ⟨hdr, l1, l2, hh, hr⟩ := hdr_any t ext h4 h5 h6
  exact ⟨hdr ++ ints t, by simp [ints_length]; omega, ⟨⟨10, 0, t, ext⟩, hr, fun w' => samePack_x 10 0 ext t ka kc w' rfl⟩, clo_ext t h6 10 0 ext h4 h5 ka 0 kc hdr l1 hh⟩
theorem encExt2 (p : Px) : ∃ enc : List Int, OkX p → enc.length ≤ 1000000 ∧ RdX p enc ∧ WrtsX 26 p.val enc := by
  by_cases h : OkX p
  · obtain ⟨enc, he⟩ := encExt p h
    exact ⟨enc, fun _ => he⟩
  · exact ⟨[], fun h2 => absurd h2 h⟩
theorem enc5 : ∃ enc : List Int, enc.length = 3 ∧ WrtsX 26 (Px.val ⟨10, 0, ⟨#[97]⟩, 10, none, 0, 0⟩) enc :=
  ⟨[212, 10 % 256] ++ ints ⟨#[97]⟩, rfl, clo_ext ⟨#[97]⟩ (by decide) 10 0 10 (by omega) (by omega) none 0 0 [212, 10 % 256] (by simp) (fun B K W sz wl tot w h hn => hdr_f1 B K W sz wl tot 10 (by omega) (by omega) w h hn)⟩

set_option maxRecDepth 100000 in
set_option maxHeartbeats 8000000 in
theorem fnStreamPutExt_walk (bf : Int) (a : Option Addr) (c : Nat) (ps : List Px) (ts : List Pk) (w : World) (htl : ts.length = ps.length) (hr : Rd w a (pxCells ps)) (hpk : ∀ i (h1 : i < ps.length) (h2 : i < ts.length), PkAt w ts[i] ps[i].val) (hsz : ∀ p ∈ ps, p.text.size ≤ 9223372036854775807) :
    Calls Try.prog 6 #[.int .i64 bf, .slice a ps.length c] w fun e w' => e = .returned (.bool true) ∧ Below w.heap.size w w' := by
  by_cases hbig : 2147483647 < ps.length
  · have hb : (2147483647 : Int) < ps.length := by omega
    go_enter Try.func6, Try.ntmps6
    go_wp2_with fail
    go_ret
    exact ⟨rfl, Below.refl _ _⟩
  have hb : ¬ ((2147483647 : Int) < ps.length) := by omega
  obtain ⟨enc5, l5, wr5⟩ := enc5
  have H5 := fun (w0 : World) (a0 : Option Addr) (hr0 : Rd w0 a0 (pxCells [⟨10, 0, ⟨#[97]⟩, 10, none, 0, 0⟩])) => Lib.hid (put_pk 100 (by omega) (by omega) [⟨10, 0, ⟨#[97]⟩, 10, none, 0, 0⟩] [enc5] a0 1 w0 rfl (by simp) hr0 (by intro i hi; simp at hi; subst hi; exact wr5) (by intro i hi; simp at hi; subst hi; simp [l5]))
  have hf5 : (flatE [enc5]).length = 3 := by simp [flatE, l5]
  have HF5 := Lib.hid hf5
  clear hf5 wr5 l5
  have HB := fun w0 => Lib.hid (buffers_any bf 1 (by omega) w0)
  obtain ⟨n, hn⟩ : ∃ n, n = ps.length := ⟨_, rfl⟩
  rw [← hn] at hb hbig ⊢
  have HNL := Lib.hid hn
  by_cases hgo : (18 ≤ bf ∧ bf ≤ 65536) ∧ n ≤ 100
  · obtain ⟨⟨hg1, hg2⟩, hg3⟩ := hgo
    have hd : decide (18 ≤ bf ∧ bf ≤ 65536) = true := by simp; omega
    rw [hd] at HB
    have hd3 : decide ((100 : Int) < n) = false := by simp; omega
    obtain ⟨es, hel, hes⟩ := list_ex ps (fun x _ => encExt2 x)
    obtain ⟨sz, rfl⟩ : ∃ sz : Nat, bf = sz := ⟨bf.toNat, by omega⟩
    have HP := fun (hall : AllX ps) (w0 : World) (hr0 : Rd w0 a (pxCells ps)) => Lib.hid (put_pk sz (by omega) (by omega) ps es a c w0 hel (by omega) hr0 (by
      intro i hi
      have h := (hes i (by omega) hi (hall i (by omega))).2.2
      simpa [List.getD, List.getElem?_eq_getElem (show i < ps.length by omega)] using h) (by intro i hi; exact (hes i (by omega) hi (hall i (by omega))).1))
    rw [← hn] at HP
    have HO := fun (hall : AllX ps) (w0 : World) (a0 : Option Addr) (n0 c0 : Nat) (hv : Vw w0 a0 n0 c0 (flatE es)) (hr0 : Rd w0 a (pxCells ps)) => Lib.hid (inOrderX_ok ps es a0 n0 c0 a c w0 hel (by omega) hv hr0 (by
      intro i hi hj
      exact (hes i hi hj (hall i hi)).2.1))
    rw [← hn] at HO
    have HR := Lib.hid hr
    have HK := Lib.hid hpk
    have HTL := Lib.hid htl
    have HSZ := Lib.hid hsz
    clear hes hel hr hpk hn hd htl hsz
    go_enter Try.func6, Try.ntmps6
    go_wp2_with fail
    refine (H5 _ _ (Rd.lit w 30 (pxCells [⟨10, 0, ⟨#[97]⟩, 10, none, 0, 0⟩]))).out.mono ?_
    rintro e w1 ⟨a1, n1, c1, rfl, hv1, hb1⟩
    have hn1 : n1 = 3 := by rw [← hv1.len]; exact HF5.out
    subst hn1
    have hb1w : Below w.heap.size w w1 := Below.trans (b := w.alloc _) ((Below.refl _ _).alloc (Nat.le_refl _) _) (hb1.mono (by simp))
    have HB1 := Lib.hid hb1w
    clear hb1 hv1 hb1w
    go_wp2_with fail
    refine (HB _).out.mono ?_
    rintro e w1 ⟨rfl, rfl⟩
    go_wp2_with fail
    go_loopw [38] (fun i wr => ∃ k : Nat, k ≤ n ∧ i = .int .i64 k ∧ Hid (Below w.heap.size w wr) ∧ Hid (∀ i (h : i < ps.length), i < k → OkX ps[i])) (fun i _ => n - (intOf i).toNat)
    case atStart => exact ⟨0, Nat.zero_le _, rfl, HB1, Lib.hid (fun i h h2 => absurd h2 (Nat.not_lt_zero _))⟩
    case round =>
      obtain ⟨k, hk, rfl, hbr, hup⟩ := hrel
      by_cases hlt : k < n
      · have hli : (k : Int) < n := by omega
        have hkl : k < ps.length := by have := HNL.out; omega
        obtain ⟨p, hp⟩ : ∃ p, p = ps[k] := ⟨_, rfl⟩
        obtain ⟨ba, bo, rfl, p0, p1, p2, p3, p4⟩ := (HR.out.below hbr.out (Nat.le_refl _)).px_at k hkl p hp
        have hpa := HK.out k hkl (by have := HTL.out; omega)
        rw [← hp] at hpa
        have hts := HSZ.out p (by rw [hp]; exact List.getElem_mem _)
        obtain ⟨pk, pnum, pt, pext, pka, pkn, pkc⟩ := p
        simp only [Px.val] at p0 p1 p2 p3 p4 hpa hts
        have hbl := World.block_lt_of_cell? wr _ p0
        have HPA := Lib.hid hpa
        have HPP := Lib.hid hp
        have hBs := hbr.out.size
        clear hpa hp
        by_cases hk10 : pk = 10
        · subst hk10
          go_wp2_with fail
          refine (packFitE_any HPA.out _ (hbr.out.trans ((by (repeat (first | with_reducible exact Below.refl _ _ | with_reducible assumption | with_reducible refine below_drewN ?_ _ | with_reducible refine Below.drew ?_ | with_reducible refine below_row ?_ (by first | omega | (simp; done) | (simp; omega)) _ | with_reducible refine Below.alloc ?_ (by first | omega | (simp; done) | (simp; omega)) _ | with_reducible refine Below.setCell ?_ (by first | omega | (simp; done) | (simp; omega)) _)) : Below wr.heap.size wr _).mono hBs))).mono ?_
          rintro e w2 ⟨b, rfl, hbb, hb2⟩
          have hB : Blk w2 wr.heap.size 30 #[.int .i64 10, .int .u64 pnum, .string pt, .int .i64 pext, .slice pka pkn pkc] := Blk.below (by (repeat (first | with_reducible exact Blk.new _ _ _ | with_reducible assumption | with_reducible refine Blk.alloc ?_ _ | with_reducible refine Blk.drewN ?_ _ | with_reducible refine Blk.drew ?_ | with_reducible refine Blk.other ?_ (by first | omega | (simp; done) | (simp; omega)) _))) hb2 (by simp <;> omega)
          have r2 := hB.cell (i := 2) rfl
          have hbw : Below w.heap.size w w2 := hbr.out.trans (Below.trans (b := _) ((by (repeat (first | with_reducible exact Below.refl _ _ | with_reducible assumption | with_reducible refine below_drewN ?_ _ | with_reducible refine Below.drew ?_ | with_reducible refine below_row ?_ (by first | omega | (simp; done) | (simp; omega)) _ | with_reducible refine Below.alloc ?_ (by first | omega | (simp; done) | (simp; omega)) _ | with_reducible refine Below.setCell ?_ (by first | omega | (simp; done) | (simp; omega)) _)) : Below wr.heap.size wr _).mono hBs) (hb2.mono (by simp; omega)))
          have HBB := Lib.hid hbb
          clear hbb
          cases b with
          | false =>
            go_wp2_with fail
            go_ret
            exact ⟨rfl, hbw⟩
          | true =>
            obtain ⟨f1, f2, f3, f4⟩ := HBB.out rfl
            have HF1 := Lib.hid (And.intro f1 f2)
            clear f1 f2
            by_cases hxs : 65536 < pt.size
            · have hxs2 : (65536 : Int) < pt.size := by omega
              go_wp2_with fail
              go_ret
              exact ⟨rfl, hbw⟩
            have hxs2 : ¬ (65536 : Int) < pt.size := by omega
            go_wp2_with fail
            go_roundw
            case rel => exact ⟨k + 1, by omega, by go_num, Lib.hid hbw, Lib.hid (fun i h h2 => by
              by_cases e : i < k
              · exact hup.out i h e
              · obtain rfl : i = k := by omega
                rw [← HPP.out]
                exact ⟨rfl, HF1.out.1, HF1.out.2, f3, f4, by simp only; omega⟩)⟩
            case measure => simp [intOf]; omega
        · have hk10' : (pk == 10) = false := by simpa using hk10
          have hk10'' : (pk != 10) = true := by simpa using hk10
          go_wp2_with fail
          go_ret
          exact ⟨rfl, hbr.out.trans ((by (repeat (first | with_reducible exact Below.refl _ _ | with_reducible assumption | with_reducible refine below_drewN ?_ _ | with_reducible refine Below.drew ?_ | with_reducible refine below_row ?_ (by first | omega | (simp; done) | (simp; omega)) _ | with_reducible refine Below.alloc ?_ (by first | omega | (simp; done) | (simp; omega)) _ | with_reducible refine Below.setCell ?_ (by first | omega | (simp; done) | (simp; omega)) _)) : Below wr.heap.size wr _).mono hBs)⟩
      · have hli : ¬ (k : Int) < n := by omega
        obtain rfl : k = n := by omega
        have HA : Hid (AllX ps) := Lib.hid (fun i h => hup.out i h (by have := HNL.out; omega))
        have hbs := hbr.out.size
        go_wp2_with fail
        refine (HP HA.out _ (HR.out.below hbr.out (Nat.le_refl _))).out.mono ?_
        rintro e w2 ⟨a2, n2, c2, rfl, hv2, hb2⟩
        have hb2w := hbr.out.trans (hb2.mono hbs)
        have HV2 := Lib.hid hv2
        clear hv2
        go_wp2_with fail
        refine (HO HA.out w2 a2 n2 c2 HV2.out (HR.out.below hb2w (Nat.le_refl _))).out.mono ?_
        rintro e w3 ⟨rfl, hb3⟩
        go_wp2_with fail
        go_ret
        exact ⟨rfl, hb2w.trans (hb3.mono hb2w.size)⟩
  · clear hr hn hpk htl hsz
    obtain ⟨bb, hbb⟩ : ∃ bb, bb = decide (18 ≤ bf ∧ bf ≤ 65536) := ⟨_, rfl⟩
    rw [← hbb] at HB
    cases bb with
    | true =>
      have h2 : 18 ≤ bf ∧ bf ≤ 65536 := by simpa using hbb.symm
      have hd3 : decide ((100 : Int) < n) = true := by simp; omega
      clear hbb
      go_enter Try.func6, Try.ntmps6
      go_wp2_with fail
      refine (H5 _ _ (Rd.lit w 30 (pxCells [⟨10, 0, ⟨#[97]⟩, 10, none, 0, 0⟩]))).out.mono ?_
      rintro e w1 ⟨a1, n1, c1, rfl, hv1, hb1⟩
      have hn1 : n1 = 3 := by rw [← hv1.len]; exact HF5.out
      subst hn1
      have hb1w : Below w.heap.size w w1 := Below.trans (b := w.alloc _) ((Below.refl _ _).alloc (Nat.le_refl _) _) (hb1.mono (by simp))
      clear hb1 hv1
      go_wp2_with fail
      refine (HB _).out.mono ?_
      rintro e w1 ⟨rfl, rfl⟩
      go_wp2_with fail
      go_ret
      exact ⟨rfl, hb1w⟩
    | false =>
      clear hbb
      go_enter Try.func6, Try.ntmps6
      go_wp2_with fail
      refine (H5 _ _ (Rd.lit w 30 (pxCells [⟨10, 0, ⟨#[97]⟩, 10, none, 0, 0⟩]))).out.mono ?_
      rintro e w1 ⟨a1, n1, c1, rfl, hv1, hb1⟩
      have hn1 : n1 = 3 := by rw [← hv1.len]; exact HF5.out
      subst hn1
      have hb1w : Below w.heap.size w w1 := Below.trans (b := w.alloc _) ((Below.refl _ _).alloc (Nat.le_refl _) _) (hb1.mono (by simp))
      clear hb1 hv1
      go_wp2_with fail
      refine (HB _).out.mono ?_
      rintro e w1 ⟨rfl, rfl⟩
      go_wp2_with fail
      go_ret
      exact ⟨rfl, hb1w⟩
#print axioms fnStreamPutExt_walk
end Go.Proofs.Ytliaiaefhbgblaa
