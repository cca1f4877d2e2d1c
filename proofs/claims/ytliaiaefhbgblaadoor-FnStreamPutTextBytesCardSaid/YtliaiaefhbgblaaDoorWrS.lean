/- (*msgp.Writer).WriteStringFromBytes, and impl.StreamPutTextBytes's closure: a text behind what a Writer holds. -/
import Derived.Test.YtliaiaefhbgblaaDoorWrT
import Derived.Test.YtliaiaefhbgblaaDoorInts
import Derived.Laws.IdiomStrings
namespace Go.Proofs.YtliaiaefhbgblaaDoor
open Go.RowKit
set_option linter.unusedVariables false
set_option linter.unusedSimpArgs false

theorem cell_of_heap {W : World} {g i : Nat} {cs : Array Value} {t : TypeId} {f : Nat × Nat} {v : Value} (h : W.heap[g]? = some (.cells cs t f)) (hv : cs[i]? = some v) : W.cell? ⟨g, i, none⟩ = some v := by
  simp [World.cell?, h, hv]
theorem conv_ints (t : ByteArray) (ht : t.size ≤ 1000000000) (w : World) : ∃ c W', (convert 9 37 (.string t)).run Tryd.prog w = .ok (.slice (some ⟨w.heap.size, 0, none⟩) t.size c) W' ∧ Vw W' (some ⟨w.heap.size, 0, none⟩) t.size c (ints t) ∧ Below w.heap.size w W' ∧ w.heap.size < W'.heap.size := by
  refine ⟨_, _, run_bytes_of_string (P := Tryd.prog) w 9 37 5 t Tryd.underlying9 Tryd.underlying37 Tryd.underlying5, ?_, by (repeat (first | with_reducible exact Below.refl _ _ | with_reducible assumption | with_reducible refine below_drewN ?_ _ | with_reducible refine Below.drew ?_ | with_reducible refine below_row ?_ (by first | omega | (simp; done) | (simp; omega)) _ | with_reducible refine Below.alloc ?_ (by first | omega | (simp; done) | (simp; omega)) _ | with_reducible refine Below.setCell ?_ (by first | omega | (simp; done) | (simp; omega)) _)), by simp⟩
  refine ⟨ints_length t, grownCap_ge _ _ _ _, by have := grownCap_le_maxLen w t.size 0 5 (by simp only [maxLen]; omega); simpa [maxLen] using this, ints_bytes t, fun e => (by cases e), ?_⟩
  by_cases h0 : t.size = 0
  · exact .inl h0
  · refine .inr ⟨w.heap.size, 0, rfl, fun i hi => ?_⟩
    have hb : (w.drew.alloc (.cells (bytesRow t (grownCap w t.size 0 5)) 5 ((bytesRow t (grownCap w t.size 0 5)).size, (bytesRow t (grownCap w t.size 0 5)).size + 1))).heap[w.heap.size]? = some (.cells (bytesRow t (grownCap w t.size 0 5)) 5 ((bytesRow t (grownCap w t.size 0 5)).size, (bytesRow t (grownCap w t.size 0 5)).size + 1)) := heap_alloc_new w.drew _
    have hq : (bytesRow t (grownCap w t.size 0 5))[i]? = some (.int .u8 ((ints t).getD i 0)) := by
      have hit : i < t.data.size := hi
      unfold bytesRow
      rw [Array.getElem?_append_left (by simpa using hit), Array.getElem?_map, Array.getElem?_eq_getElem hit]
      simp [ints, List.getD, hit]
      rw [Array.getElem?_eq_getElem hit]
      rfl
    rw [Nat.zero_add]
    exact cell_of_heap hb hq

theorem u8_and31 (x : Int) (h0 : 0 ≤ x) (h1 : x < 32) : bits .and .u8 x 31 = x := by
  rw [u8_and x 31 h0 (by omega) (by omega) (by omega)]
  have := nat_mask5 x.toNat
  simp only [show (31 : Int).toNat = 31 from rfl, this]
  omega
theorem u8_fixstr (x : Int) (h0 : 0 ≤ x) (h1 : x < 32) : bits .or .u8 x 160 = 160 + x := by
  rw [u8_or _ 160 (by omega) (by omega) (by omega) (by omega), show (160 : Int).toNat = 160 from rfl, Nat.or_comm, nat_join 5 160 x.toNat (by decide) (by omega)]
  omega

theorem Wr.mono {w : World} {B : Nat} {K K' : Nat → Prop} {W sz wl : Nat} {tot : List Int} (h : Wr w B K W sz wl tot) (hk : ∀ b, K b → K' b) : Wr w B K' W sz wl tot := by
  obtain ⟨G, ta, tn, tc, out, cs, pre, hw, ht⟩ := h
  exact ⟨G, ta, tn, tc, out, cs, pre, hw.mono hk, ht⟩
theorem Frm.trans2 {w w1 w2 : World} {K : Nat → Prop} (h : Frm w w1 K) (k : Frm w1 w2 (fun b => K b ∨ w.heap.size ≤ b)) : Frm w w2 K :=
  ⟨Nat.le_trans h.1 k.1, fun b hb hn => (k.2 b (Nat.lt_of_lt_of_le hb h.1) (by rintro (e | e); exact hn e; omega)).trans (h.2 b hb hn)⟩

set_option maxRecDepth 100000 in
set_option maxHeartbeats 2000000 in
theorem wstr_fix (pa : Option Addr) (pn pc : Nat) (pl : List Int) (B : Nat) (K : Nat → Prop) (W sz wl : Nat) (tot : List Int) (w : World) (h : Wr w B K W sz wl tot) (hn : tot.length ≤ 1000000000000) (hp : Vw w pa pn pc pl) (hpk : ∀ x, pa = some x → ¬ K x.block ∧ x.block < w.heap.size) (hlo : 0 ≤ pn) (hpn : pn < 32) :
    Calls Tryd.prog 19 #[.pointer (some ⟨W, 0, none⟩), .slice pa pn pc] w (WrRes B K W sz (tot ++ ([160 + (pn : Int)] ++ pl)) w) := by
  have h1 := u8_and31 pn (by omega) (by omega)
  have h2 := u8_fixstr pn (by omega) (by omega)
  have hb2 : ((pn : Int) ≤ 31) := by omega
  have HP := Lib.hid (push_any B K W sz wl tot (160 + pn) (by omega) w h (by omega))
  have HW := fun (w2 : World) (wl2 : Nat) (h2 : Wr w2 B (fun b => K b ∨ w.heap.size ≤ b) W sz wl2 (tot ++ [160 + (pn : Int)])) (hp2 : Vw w2 pa pn pc pl) (hs : w.heap.size ≤ w2.heap.size) => Lib.hid (write_any B _ W sz wl2 (tot ++ [160 + (pn : Int)]) pa pn pc pl w2 h2 (by simp; omega) hp2 (by omega) (fun x hx => by have := hpk x hx; rintro (e | e); exact this.1 e; omega))
  have hb1 : ¬ ((4294967295 : Int) < pn) := by omega
  go_enter Tryd.func19, Tryd.ntmps19
  go_wp2_with (go_at_call 30; go_in)
  refine HP.out.mono ?_
  rintro e w1 ⟨rfl, ⟨wl1, hw1⟩, hf1, hb1⟩
  go_wp2_with fail
  refine (HW w1 wl1 hw1 (hf1.vw hp (fun x hx => (hpk x hx).1)) hf1.1).out.mono ?_
  rintro e w2 ⟨rfl, ⟨wl2, hw2⟩, hf2, hb2⟩
  go_wp2_with fail
  go_ret
  have hf12 := hf1.trans2 hf2
  exact ⟨rfl, ⟨wl2, by have hq := hw2.mono (K' := fun b => K b ∨ w.heap.size ≤ b) (fun b h => by rcases h with h | h; exact h; exact .inr (Nat.le_trans hf1.1 h)); simpa using hq⟩, hf12, hb1.trans hb2⟩

set_option maxRecDepth 100000 in
set_option maxHeartbeats 2000000 in
theorem wstr_8 (pa : Option Addr) (pn pc : Nat) (pl : List Int) (B : Nat) (K : Nat → Prop) (W sz wl : Nat) (tot : List Int) (w : World) (h : Wr w B K W sz wl tot) (hn : tot.length ≤ 1000000000000) (hp : Vw w pa pn pc pl) (hpk : ∀ x, pa = some x → ¬ K x.block ∧ x.block < w.heap.size) (hlo : 32 ≤ pn) (hpn : pn < 256) :
    Calls Tryd.prog 19 #[.pointer (some ⟨W, 0, none⟩), .slice pa pn pc] w (WrRes B K W sz (tot ++ ([217, (pn : Int)] ++ pl)) w) := by
  have hn0 : ¬ ((pn : Int) ≤ 31) := by omega
  have hb2 : ((pn : Int) ≤ 255) := by omega
  have HP := Lib.hid (prefix8_any B K W sz wl tot 217 pn (by omega) (by omega) (by omega) w h (by omega))
  have HW := fun (w2 : World) (wl2 : Nat) (h2 : Wr w2 B (fun b => K b ∨ w.heap.size ≤ b) W sz wl2 (tot ++ [217, (pn : Int)])) (hp2 : Vw w2 pa pn pc pl) (hs : w.heap.size ≤ w2.heap.size) => Lib.hid (write_any B _ W sz wl2 (tot ++ [217, (pn : Int)]) pa pn pc pl w2 h2 (by simp; omega) hp2 (by omega) (fun x hx => by have := hpk x hx; rintro (e | e); exact this.1 e; omega))
  have hb1 : ¬ ((4294967295 : Int) < pn) := by omega
  go_enter Tryd.func19, Tryd.ntmps19
  go_wp2_with fail
  refine HP.out.mono ?_
  rintro e w1 ⟨rfl, ⟨wl1, hw1⟩, hf1, hb1⟩
  go_wp2_with fail
  refine (HW w1 wl1 hw1 (hf1.vw hp (fun x hx => (hpk x hx).1)) hf1.1).out.mono ?_
  rintro e w2 ⟨rfl, ⟨wl2, hw2⟩, hf2, hb2⟩
  go_wp2_with fail
  go_ret
  have hf12 := hf1.trans2 hf2
  exact ⟨rfl, ⟨wl2, by have hq := hw2.mono (K' := fun b => K b ∨ w.heap.size ≤ b) (fun b h => by rcases h with h | h; exact h; exact .inr (Nat.le_trans hf1.1 h)); simpa using hq⟩, hf12, hb1.trans hb2⟩

set_option maxRecDepth 100000 in
set_option maxHeartbeats 2000000 in
theorem wstr_16 (pa : Option Addr) (pn pc : Nat) (pl : List Int) (B : Nat) (K : Nat → Prop) (W sz wl : Nat) (tot : List Int) (w : World) (h : Wr w B K W sz wl tot) (hn : tot.length ≤ 1000000000000) (hp : Vw w pa pn pc pl) (hpk : ∀ x, pa = some x → ¬ K x.block ∧ x.block < w.heap.size) (hlo : 256 ≤ pn) (hpn : pn < 65536) :
    Calls Tryd.prog 19 #[.pointer (some ⟨W, 0, none⟩), .slice pa pn pc] w (WrRes B K W sz (tot ++ ([218, (pn : Int) / 256, (pn : Int) % 256] ++ pl)) w) := by
  have hn0 : ¬ ((pn : Int) ≤ 31) := by omega
  have hn1 : ¬ ((pn : Int) ≤ 255) := by omega
  have hb2 : ((pn : Int) ≤ 65535) := by omega
  have HP := Lib.hid (prefix16_any B K W sz wl tot 218 pn (by omega) (by omega) (by omega) w h (by omega))
  have HW := fun (w2 : World) (wl2 : Nat) (h2 : Wr w2 B (fun b => K b ∨ w.heap.size ≤ b) W sz wl2 (tot ++ [218, (pn : Int) / 256, (pn : Int) % 256])) (hp2 : Vw w2 pa pn pc pl) (hs : w.heap.size ≤ w2.heap.size) => Lib.hid (write_any B _ W sz wl2 (tot ++ [218, (pn : Int) / 256, (pn : Int) % 256]) pa pn pc pl w2 h2 (by simp; omega) hp2 (by omega) (fun x hx => by have := hpk x hx; rintro (e | e); exact this.1 e; omega))
  have hb1 : ¬ ((4294967295 : Int) < pn) := by omega
  go_enter Tryd.func19, Tryd.ntmps19
  go_wp2_with fail
  refine HP.out.mono ?_
  rintro e w1 ⟨rfl, ⟨wl1, hw1⟩, hf1, hb1⟩
  go_wp2_with fail
  refine (HW w1 wl1 hw1 (hf1.vw hp (fun x hx => (hpk x hx).1)) hf1.1).out.mono ?_
  rintro e w2 ⟨rfl, ⟨wl2, hw2⟩, hf2, hb2⟩
  go_wp2_with fail
  go_ret
  have hf12 := hf1.trans2 hf2
  exact ⟨rfl, ⟨wl2, by have hq := hw2.mono (K' := fun b => K b ∨ w.heap.size ≤ b) (fun b h => by rcases h with h | h; exact h; exact .inr (Nat.le_trans hf1.1 h)); simpa using hq⟩, hf12, hb1.trans hb2⟩

set_option maxRecDepth 100000 in
set_option maxHeartbeats 2000000 in
theorem wstr_32 (pa : Option Addr) (pn pc : Nat) (pl : List Int) (B : Nat) (K : Nat → Prop) (W sz wl : Nat) (tot : List Int) (w : World) (h : Wr w B K W sz wl tot) (hn : tot.length ≤ 1000000000000) (hp : Vw w pa pn pc pl) (hpk : ∀ x, pa = some x → ¬ K x.block ∧ x.block < w.heap.size) (hlo : 65536 ≤ pn) (hpn : pn < 1000000) :
    Calls Tryd.prog 19 #[.pointer (some ⟨W, 0, none⟩), .slice pa pn pc] w (WrRes B K W sz (tot ++ ([219, (pn : Int) / 16777216, (pn : Int) / 65536 % 256, (pn : Int) / 256 % 256, (pn : Int) % 256] ++ pl)) w) := by
  have hn0 : ¬ ((pn : Int) ≤ 31) := by omega
  have hn1 : ¬ ((pn : Int) ≤ 255) := by omega
  have hn2 : ¬ ((pn : Int) ≤ 65535) := by omega
  have HP := Lib.hid (prefix32_any B K W sz wl tot 219 pn (by omega) (by omega) (by omega) w h (by omega))
  have HW := fun (w2 : World) (wl2 : Nat) (h2 : Wr w2 B (fun b => K b ∨ w.heap.size ≤ b) W sz wl2 (tot ++ [219, (pn : Int) / 16777216, (pn : Int) / 65536 % 256, (pn : Int) / 256 % 256, (pn : Int) % 256])) (hp2 : Vw w2 pa pn pc pl) (hs : w.heap.size ≤ w2.heap.size) => Lib.hid (write_any B _ W sz wl2 (tot ++ [219, (pn : Int) / 16777216, (pn : Int) / 65536 % 256, (pn : Int) / 256 % 256, (pn : Int) % 256]) pa pn pc pl w2 h2 (by simp; omega) hp2 (by omega) (fun x hx => by have := hpk x hx; rintro (e | e); exact this.1 e; omega))
  have hb1 : ¬ ((4294967295 : Int) < pn) := by omega
  go_enter Tryd.func19, Tryd.ntmps19
  go_wp2_with fail
  refine HP.out.mono ?_
  rintro e w1 ⟨rfl, ⟨wl1, hw1⟩, hf1, hb1⟩
  go_wp2_with fail
  refine (HW w1 wl1 hw1 (hf1.vw hp (fun x hx => (hpk x hx).1)) hf1.1).out.mono ?_
  rintro e w2 ⟨rfl, ⟨wl2, hw2⟩, hf2, hb2⟩
  go_wp2_with fail
  go_ret
  have hf12 := hf1.trans2 hf2
  exact ⟨rfl, ⟨wl2, by have hq := hw2.mono (K' := fun b => K b ∨ w.heap.size ≤ b) (fun b h => by rcases h with h | h; exact h; exact .inr (Nat.le_trans hf1.1 h)); simpa using hq⟩, hf12, hb1.trans hb2⟩

theorem Wr.within {w : World} {B : Nat} {K : Nat → Prop} {W sz wl : Nat} {tot : List Int} (h : Wr w B K W sz wl tot) : Wr w B (fun b => K b ∧ b < w.heap.size) W sz wl tot := by
  obtain ⟨G, ta, tn, tc, out, cs, pre, hw, ht⟩ := h
  exact ⟨G, ta, tn, tc, out, cs, pre, { hw with kT := ⟨hw.kT, hw.hT.lt⟩, kW := ⟨hw.kW, hw.hW.lt⟩, kG := ⟨hw.kG, hw.hG.lt⟩, kO := fun b hb => ⟨hw.kO b hb, hw.hO.lt8 b hb⟩ }, ht⟩

/-- A text's bytes behind what a Writer holds. -/
def WStr (s : ByteArray) (enc : List Int) : Prop := ∀ (pa : Option Addr) (pc : Nat) (B : Nat) (K : Nat → Prop) (W sz wl : Nat) (tot : List Int) (w : World), Wr w B K W sz wl tot → tot.length ≤ 1000000000000 → Vw w pa s.size pc (ints s) → (∀ x, pa = some x → ¬ K x.block ∧ x.block < w.heap.size) →
    Calls Tryd.prog 19 #[.pointer (some ⟨W, 0, none⟩), .slice pa s.size pc] w (WrRes B K W sz (tot ++ enc) w)

theorem wstr_any (s : ByteArray) (hs : s.size ≤ 65536) : ∃ enc, 1 ≤ enc.length ∧ enc.length ≤ 1000000 ∧ Reads enc 6 0 s 0 ∧ WStr s enc := by
  have hi := ints_length s
  have ht := strOfNums_ints s
  by_cases c1 : s.size < 32
  · refine ⟨[160 + (s.size : Int)] ++ ints s, by simp, by simp [hi]; omega, ?_, fun pa pc B K W sz wl tot w h1 h2 h3 h4 => wstr_fix pa s.size pc (ints s) B K W sz wl tot w h1 h2 h3 h4 (Nat.zero_le _) c1⟩
    have := reads_fixtext (ints s) (by omega)
    rw [ht, hi] at this
    exact this
  · by_cases c2 : s.size < 256
    · refine ⟨[217, (s.size : Int)] ++ ints s, by simp, by simp [hi]; omega, ?_, fun pa pc B K W sz wl tot w h1 h2 h3 h4 => wstr_8 pa s.size pc (ints s) B K W sz wl tot w h1 h2 h3 h4 (by omega) c2⟩
      have := reads_text 217 1 (by omega) [(s.size : Int)] (ints s) rfl (by rw [hi]; simp [beN])
      rw [ht] at this
      exact this
    · by_cases c3 : s.size < 65536
      · refine ⟨[218, (s.size : Int) / 256, (s.size : Int) % 256] ++ ints s, by simp, by simp [hi]; omega, ?_, fun pa pc B K W sz wl tot w h1 h2 h3 h4 => wstr_16 pa s.size pc (ints s) B K W sz wl tot w h1 h2 h3 h4 (by omega) c3⟩
        have := reads_text 218 2 (by omega) [(s.size : Int) / 256, (s.size : Int) % 256] (ints s) rfl (by rw [hi]; simp only [beN, List.foldl]; omega)
        rw [ht] at this
        exact this
      · refine ⟨[219, (s.size : Int) / 16777216, (s.size : Int) / 65536 % 256, (s.size : Int) / 256 % 256, (s.size : Int) % 256] ++ ints s, by simp, by simp [hi]; omega, ?_, fun pa pc B K W sz wl tot w h1 h2 h3 h4 => wstr_32 pa s.size pc (ints s) B K W sz wl tot w h1 h2 h3 h4 (by omega) (by omega)⟩
        have := reads_text 219 4 (by omega) [(s.size : Int) / 16777216, (s.size : Int) / 65536 % 256, (s.size : Int) / 256 % 256, (s.size : Int) % 256] (ints s) rfl (by rw [hi]; simp only [beN, List.foldl]; omega)
        rw [ht] at this
        exact this

set_option maxHeartbeats 1000000 in
theorem clo_str (s : ByteArray) (hs : s.size ≤ 65536) (enc : List Int) (h : WStr s enc) : Wrts 18 (.string s) enc := by
  intro B K W sz wl tot w hw hn
  obtain ⟨c, w1, hcv, hv, hb, hlt⟩ := conv_ints s (by omega) w
  have hw1 := (hw.within).below hb
  have H := Lib.hid (h _ c B _ W sz wl tot w1 hw1 hn hv (by intro x hx; injection hx with hx; subst hx; exact ⟨by rintro ⟨_, e⟩; simp at e, hlt⟩))
  go_enter Tryd.func18, Tryd.ntmps18
  go_wp2_with fail
  refine H.out.mono ?_
  rintro e w2 ⟨rfl, ⟨wl2, hw2⟩, hf2, hb2⟩
  go_wp2_with fail
  go_ret
  have hBl : B ≤ w.heap.size := by
    obtain ⟨G, ta, tn, tc, out, cs, pre, hq, _⟩ := hw
    have := hq.hW.lt; have := hq.bW; omega
  refine ⟨rfl, ⟨wl2, hw2.mono (fun b h => ?_)⟩, ⟨Nat.le_trans hb.size hf2.1, fun b hb1 hn1 => ?_⟩, (hb.mono hBl).trans hb2⟩
  · rcases h with h | h
    · exact .inl h.1
    · exact .inr (Nat.le_trans hb.size h)
  · rw [hf2.2 b (Nat.lt_of_lt_of_le hb1 hb.size) (fun e => hn1 e.1)]
    exact hb.block b hb1
end Go.Proofs.YtliaiaefhbgblaaDoor
