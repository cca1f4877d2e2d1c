/- (*msgp.Writer).WriteStringFromBytes, and impl.StreamPutTextBytes's closure: a text behind what a Writer holds. -/
import Derived.Test.YtliaiaefhbgblaaWrT
import Derived.Test.YtliaiaefhbgblaaInts
import Derived.Laws.IdiomStrings
namespace Go.Proofs.Ytliaiaefhbgblaa
open Go.RowKit
set_option linter.unusedVariables false
set_option linter.unusedSimpArgs false

theorem cell_of_heap {W : World} {g i : Nat} {cs : Array Value} {t : TypeId} {f : Nat × Nat} {v : Value} (h : W.heap[g]? = some (.cells cs t f)) (hv : cs[i]? = some v) : W.cell? ⟨g, i, none⟩ = some v := by
  simp [World.cell?, h, hv]
theorem conv_ints (t : ByteArray) (ht : t.size ≤ 1000000000) (w : World) : ∃ c W', (convert 9 23 (.string t)).run Try.prog w = .ok (.slice (some ⟨w.heap.size, 0, none⟩) t.size c) W' ∧ Vw W' (some ⟨w.heap.size, 0, none⟩) t.size c (ints t) ∧ Below w.heap.size w W' ∧ w.heap.size < W'.heap.size := by
  refine ⟨_, _, run_bytes_of_string (P := Try.prog) w 9 23 5 t Try.underlying9 Try.underlying23 Try.underlying5, ?_, by (repeat (first | with_reducible exact Below.refl _ _ | with_reducible assumption | with_reducible refine below_drewN ?_ _ | with_reducible refine Below.drew ?_ | with_reducible refine below_row ?_ (by first | omega | (simp; done) | (simp; omega)) _ | with_reducible refine Below.alloc ?_ (by first | omega | (simp; done) | (simp; omega)) _ | with_reducible refine Below.setCell ?_ (by first | omega | (simp; done) | (simp; omega)) _)), by simp⟩
  refine ⟨ints_length t, grownCap_ge _ _ _ _, by have := grownCap_le_maxLen w t.size 0 5 (by simp only [maxLen]; omega); simpa [maxLen] using this, ints_bytes t, fun e => (by cases e), ?_⟩
  by_cases h0 : t.size = 0
  · exact .inl h0
  · refine .inr ⟨w.heap.size, 0, rfl, fun i hi => ?_⟩
    have hb : (w.drew.alloc (.cells (bytesRow t (grownCap w t.size 0 5)) 5 ((bytesRow t (grownCap w t.size 0 5)).size, (bytesRow t (grownCap w t.size 0 5)).size + 1))).heap[w.heap.size]? = some (.cells (bytesRow t (grownCap w t.size 0 5)) 5 ((bytesRow t (grownCap w t.size 0 5)).size, (bytesRow t (grownCap w t.size 0 5)).size + 1)) := heap_alloc_new w.drew _
    have hq : (bytesRow t (grownCap w t.size 0 5))[i]? = some (.int .u8 ((ints t).getD i 0)) := by
      have hit : i < t.data.size := hi
      unfold bytesRow
      rw [Array.getElem?_append_left (by simpa using hit), Array.getElem?_map, Array.getElem?_eq_getElem hit]
      simp [ints, List.getD, hit]
      rw [Array.getElem?_eq_getElem hit]
      rfl
    rw [Nat.zero_add]
    exact cell_of_heap hb hq

theorem u8_and31 (x : Int) (h0 : 0 ≤ x) (h1 : x < 32) : bits .and .u8 x 31 = x := by
  rw [u8_and x 31 h0 (by omega) (by omega) (by omega)]
  have := nat_mask5 x.toNat
  simp only [show (31 : Int).toNat = 31 from rfl, this]
  omega
theorem u8_fixstr (x : Int) (h0 : 0 ≤ x) (h1 : x < 32) : bits .or .u8 x 160 = 160 + x := by
  rw [u8_or _ 160 (by omega) (by omega) (by omega) (by omega), show (160 : Int).toNat = 160 from rfl, Nat.or_comm, nat_join 5 160 x.toNat (by decide) (by omega)]
  omega

theorem Wr.mono {w : World} {B : Nat} {K K' : Nat → Prop} {W sz wl : Nat} {tot : List Int} (h : Wr w B K W sz wl tot) (hk : ∀ b, K b → K' b) : Wr w B K' W sz wl tot := by
  obtain ⟨G, ta, tn, tc, out, cs, pre, hw, ht⟩ := h
  exact ⟨G, ta, tn, tc, out, cs, pre, hw.mono hk, ht⟩
theorem Frm.trans2 {w w1 w2 : World} {K : Nat → Prop} (h : Frm w w1 K) (k : Frm w1 w2 (fun b => K b ∨ w.heap.size ≤ b)) : Frm w w2 K :=
  ⟨Nat.le_trans h.1 k.1, fun b hb hn => (k.2 b (Nat.lt_of_lt_of_le hb h.1) (by rintro (e | e); exact hn e; omega)).trans (h.2 b hb hn)⟩

theorem Wr.within {w : World} {B : Nat} {K : Nat → Prop} {W sz wl : Nat} {tot : List Int} (h : Wr w B K W sz wl tot) : Wr w B (fun b => K b ∧ b < w.heap.size) W sz wl tot := by
  obtain ⟨G, ta, tn, tc, out, cs, pre, hw, ht⟩ := h
  exact ⟨G, ta, tn, tc, out, cs, pre, { hw with kT := ⟨hw.kT, hw.hT.lt⟩, kW := ⟨hw.kW, hw.hW.lt⟩, kG := ⟨hw.kG, hw.hG.lt⟩, kO := fun b hb => ⟨hw.kO b hb, hw.hO.lt8 b hb⟩ }, ht⟩

end Go.Proofs.Ytliaiaefhbgblaa
