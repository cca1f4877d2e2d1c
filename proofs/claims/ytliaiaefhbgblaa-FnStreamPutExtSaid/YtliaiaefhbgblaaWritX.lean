/- impl.written at packs: values written by a Writer, one behind the other. -/
import Derived.Test.YtliaiaefhbgblaaWritten
import Derived.Test.YtliaiaefhbgblaaWrF
import Derived.Test.YtliaiaefhbgblaaOrdX
namespace Go.Proofs.Ytliaiaefhbgblaa
open Go.RowKit
set_option linter.unusedVariables false
set_option linter.unusedSimpArgs false

set_option maxRecDepth 100000 in
set_option maxHeartbeats 2000000 in
theorem written_pk (sz : Nat) (h18 : 18 ≤ sz) (hsz : sz ≤ 65536) (ps : List Px) (es : List (List Int)) (a : Option Addr) (c : Nat) (w : World) (hl : es.length = ps.length) (hn : ps.length ≤ 1000) (hr : Rd w a (pxCells ps))
    (hw : ∀ i (h : i < es.length), WrtsX 26 (ps.getD i ⟨0, 0, ⟨#[]⟩, 0, none, 0, 0⟩).val es[i]) (hM : ∀ i (h : i < es.length), es[i].length ≤ 1000000) :
    Calls Try.prog 25 #[.int .i64 sz, .slice a ps.length c, .func (.func 26) #[] #[]] w (Wrote es w) := by
  obtain ⟨n, hvn⟩ : ∃ n, n = ps.length := ⟨_, rfl⟩
  rw [← hvn] at hl hn ⊢
  have HL := Lib.hid hl
  have HV := Lib.hid hvn
  have HW := Lib.hid hw
  have HM := Lib.hid (flatE_len es 1000000 hM)
  have HR := Lib.hid hr
  clear hl hvn hw hM hr
  have hmx : ¬ ((sz : Int) < 0) := by omega
  have hmx2 : ¬ ((65536 : Int) < sz) := by omega
  have HT := fun w0 => Lib.hid (newWriter_any w.heap.size sz h18 hsz w0)
  go_enter Try.func25, Try.ntmps25
  go_wp2_with fail
  refine ((HT (w.alloc (.cells #[.slice none 0 0] 66))).out (Blk.new _ _ _)).mono ?_
  rintro e w1 ⟨W, rfl, hw1, hb1⟩
  have hb1w : Below w.heap.size w w1 := Below.trans (b := w.alloc _) ((Below.refl _ _).alloc (Nat.le_refl _) _) (hb1.mono (by simp))
  clear hb1
  have HW1 := Lib.hid hw1
  clear hw1
  go_wp2_with fail
  go_loopw [19] (fun i wr => ∃ k : Nat, k ≤ n ∧ i = .int .i64 k ∧ Hid (∃ sz wl, Wr wr w.heap.size (fun b => b < wr.heap.size) W sz wl (flatE (es.take k))) ∧ Hid (Below w.heap.size w wr)) (fun i _ => n - (intOf i).toNat)
  case atStart => exact ⟨0, Nat.zero_le _, rfl, ⟨sz, 0, HW1.out⟩, hb1w⟩
  case round =>
    obtain ⟨k, hk, rfl, hwr, hbr⟩ := hrel
    by_cases hlt : k < n
    · have hli : (k : Int) < n := by omega
      have hke : k < es.length := by have := HL.out; omega
      have hkp : k < ps.length := by have := HV.out; omega
      obtain ⟨p, hp⟩ : ∃ p, p = ps[k] := ⟨_, rfl⟩
      obtain ⟨ba, bo, rfl, p0, p1, p2, p3, p4⟩ := (HR.out.below hbr.out (Nat.le_refl _)).px_at k hkp p hp
      have hbl := World.block_lt_of_cell? wr _ p0
      have hgp : ps.getD k ⟨0, 0, ⟨#[]⟩, 0, none, 0, 0⟩ = p := by rw [hp]; simp [List.getD, List.getElem?_eq_getElem hkp]
      obtain ⟨szk, wl, hwk⟩ := hwr.out
      have hWk := HW.out k hke
      rw [hgp] at hWk
      have HC := fun (U : World) (hU : Below wr.heap.size wr U) => Lib.hid (hWk w.heap.size (fun b => b < wr.heap.size) W szk wl _ U (hwk.below hU) (by have := HM.out k (by omega); omega))
      have HP2 := Lib.hid hp
      have hBw := hbr.out.size
      clear hp hgp hwr hWk
      go_wp2_with fail
      refine (HC _ (by (repeat (first | with_reducible exact Below.refl _ _ | with_reducible assumption | with_reducible refine below_drewN ?_ _ | with_reducible refine Below.drew ?_ | with_reducible refine below_row ?_ (by first | omega | (simp; done) | (simp; omega)) _ | with_reducible refine Below.alloc ?_ (by first | omega | (simp; done) | (simp; omega)) _ | with_reducible refine Below.setCell ?_ (by first | omega | (simp; done) | (simp; omega)) _)))).out.mono ?_
      rintro e w2 ⟨rfl, ⟨sz2, wl2, hw2⟩, hf2, hb2⟩
      have hw2 := (⟨sz2, wl2, hw2.top⟩ : ∃ sz wl, Wr w2 w.heap.size (fun b => b < w2.heap.size) W sz wl _)
      have HW2 := Lib.hid hw2
      clear hw2 HC
      go_wp2_with fail
      go_roundw
      case rel => exact ⟨k + 1, by omega, by go_num, Lib.hid (by rw [flatE_snoc es k hke]; exact HW2.out), Lib.hid (hbr.out.trans (Below.trans (b := wr.alloc _) ((Below.refl _ _).alloc hBw _) hb2))⟩
      case measure => simp [intOf]; omega
    · have hli : ¬ (k : Int) < n := by omega
      obtain rfl : k = n := by omega
      obtain ⟨szk, wl, G, ta, tn, tc, out, cs, pre, hw, ht⟩ := hwr.out
      have hte : es.take k = es := List.take_of_length_le (by have := HL.out; omega)
      rw [hte] at ht
      have hML := HM.out es.length (Nat.le_refl _)
      rw [List.take_length, ht] at hML
      have HF := Lib.hid (flush_any _ _ _ _ _ _ _ _ _ _ _ _ _ wr hw (by have := HL.out; omega))
      have HE := Lib.hid ht
      clear ht hte hML hw hwr
      go_wp2_with (go_at_call 31; go_in)
      refine HF.out.mono ?_
      rintro e w2 ⟨rfl, ⟨ta', tn', tc', hw2⟩, hf2, hb2⟩
      have ht0 := hw2.hT.cell (i := 0) rfl
      have htl := hw2.hT.lt
      go_wp2_with fail
      go_ret2
      exact ⟨ta', tn', tc', rfl, by rw [HE.out]; exact hw2.hO.vw, hbr.out.trans hb2⟩

set_option maxHeartbeats 1000000 in
theorem put_pk (sz : Nat) (h18 : 18 ≤ sz) (hsz : sz ≤ 65536) (ps : List Px) (es : List (List Int)) (a : Option Addr) (c : Nat) (w : World) (hl : es.length = ps.length) (hn : ps.length ≤ 1000) (hr : Rd w a (pxCells ps))
    (hw : ∀ i (h : i < es.length), WrtsX 26 (ps.getD i ⟨0, 0, ⟨#[]⟩, 0, none, 0, 0⟩).val es[i]) (hM : ∀ i (h : i < es.length), es[i].length ≤ 1000000) :
    Calls Try.prog 12 #[.int .i64 sz, .slice a ps.length c] w (Wrote es w) := by
  have H := Lib.hid (written_pk sz h18 hsz ps es a c w hl hn hr hw hM)
  clear hl hn hr hw hM
  go_enter Try.func12, Try.ntmps12
  go_wp2_with fail
  refine H.out.mono ?_
  rintro e w1 ⟨a1, n1, c1, rfl, h1, h2⟩
  go_wp2_with fail
  go_ret2
  exact ⟨a1, n1, c1, rfl, h1, h2⟩
end Go.Proofs.Ytliaiaefhbgblaa
