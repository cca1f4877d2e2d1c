/- impl.PutTextBehind, the walk of laws.FnPutTextBehind. -/
import Derived.Test.YtcbplfpobpienaaAppended
import Derived.Test.YtcbplfpobpienaaBehind
import Derived.Test.YtcbplfpobpienaaPutStr
import Derived.Test.YtcbplfpobpienaaStep
namespace Go.Proofs.Ytcbplfpobpienaa
open Go.RowKit
set_option linter.unusedVariables false

theorem took_of_reads {enc : List Int} {k num x : Int} {t : ByteArray} (h : Reads enc k num t x) (n m c2 : Nat) (hm : m = n + enc.length) (w : World) :
    ∀ a1, Vw w a1 (m - n) (c2 - n) enc → ∃ a3 c3, ∀ w', Below w.heap.size w w' → Took 20 #[.slice a1 (m - n) (c2 - n), .int .i64 1] w' (pk k num t x) a3 0 c3 := by
  intro b1 hb1
  obtain ⟨a', n', c', e0, _, hc⟩ := h w b1 _ _ [] 1 (by omega) (by simpa using hb1)
  have e1 : n' = 0 := by simpa using e0
  subst e1
  exact ⟨a', c', hc⟩

/-- What the head and the text behind it are read as; the head's length. -/
theorem two_text (d : List Int) (hd : d.length ≤ 131072) : ∃ hdr : List Int, 2 ≤ hdr.length ∧ hdr.length ≤ 5 ∧ (d.length < 256 → hdr.length = 2) ∧ Reads (hdr ++ d) 6 0 (strOfNums d) 0 ∧
    ∀ (l : List Int) (i : Int) (_ : i = d.length) (B : Nat) (a : Option Addr) (n c : Nat) (w : World), O8 w B a n c (l ++ ([0, 0] ++ d)) → B ≤ w.heap.size → n ≤ 1099511627776 →
      Calls Try.prog 22 #[.slice a n c, .int .i64 i] w fun e w' => ∃ a' c', e = .returned (.slice a' (n - 2 + hdr.length) c') ∧ O8 w' B a' (n - 2 + hdr.length) c' (l ++ (hdr ++ d)) ∧ Below B w w' := by
  by_cases c1 : d.length < 256
  · refine ⟨[217, (d.length : Int)], by simp, by simp, by simp, ?_, fun l i hi B a n c w hv hB hn => ?_⟩
    · exact reads_text 217 1 (by omega) [(d.length : Int)] d rfl (by simp [beN])
    · have h2 : n - 2 + [217, (d.length : Int)].length = n := by have := hv.vw.len; simp at this ⊢; omega
      rw [h2]
      exact twoText_8 l d d.length rfl c1 i hi B a n c w hv hB hn
  · by_cases c2 : d.length < 65536
    · refine ⟨[218, (d.length : Int) / 256, (d.length : Int) % 256], by simp, by simp, by omega, ?_, fun l i hi B a n c w hv hB hn => ?_⟩
      · exact reads_text 218 2 (by omega) [(d.length : Int) / 256, (d.length : Int) % 256] d rfl (by simp only [beN, List.foldl]; omega)
      · have h2 : n - 2 + [218, (d.length : Int) / 256, (d.length : Int) % 256].length = n + 1 := by have := hv.vw.len; simp at this ⊢; omega
        rw [h2]
        exact twoText_16 l d d.length rfl (by omega) c2 i hi B a n c w hv hB hn
    · refine ⟨[219, (d.length : Int) / 16777216, (d.length : Int) / 65536 % 256, (d.length : Int) / 256 % 256, (d.length : Int) % 256], by simp, by simp, by omega, ?_, fun l i hi B a n c w hv hB hn => ?_⟩
      · exact reads_text 219 4 (by omega) [(d.length : Int) / 16777216, (d.length : Int) / 65536 % 256, (d.length : Int) / 256 % 256, (d.length : Int) % 256] d rfl (by simp only [beN, List.foldl]; omega)
      · have h2 : n - 2 + [219, (d.length : Int) / 16777216, (d.length : Int) / 65536 % 256, (d.length : Int) / 256 % 256, (d.length : Int) % 256].length = n + 3 := by have := hv.vw.len; simp at this ⊢; omega
        rw [h2]
        exact twoText_32 l d d.length rfl (by omega) (by omega) i hi B a n c w hv hB hn

set_option maxHeartbeats 1000000 in
theorem putTextBehind_any (d hdr : List Int) (hh : 2 ≤ hdr.length)
    (H : ∀ (l : List Int) (i : Int) (_ : i = d.length) (B : Nat) (a : Option Addr) (n c : Nat) (w : World), O8 w B a n c (l ++ ([0, 0] ++ d)) → B ≤ w.heap.size → n ≤ 1099511627776 →
      Calls Try.prog 22 #[.slice a n c, .int .i64 i] w fun e w' => ∃ a' c', e = .returned (.slice a' (n - 2 + hdr.length) c') ∧ O8 w' B a' (n - 2 + hdr.length) c' (l ++ (hdr ++ d)) ∧ Below B w w')
    (a : Option Addr) (n c : Nat) (l : List Int) (a2 : Option Addr) (m c2 : Nat) (w : World) (hv : Vw w a n c l) (hv2 : Vw w a2 m c2 d) (hn : n ≤ 1000) (hm : m ≤ 2147483647) :
    Calls Try.prog 12 #[.slice a n c, .slice a2 m c2] w fun e w' => ∃ a' c', e = .returned (.slice a' (n + (hdr ++ d).length) c') ∧ O8 w' w.heap.size a' (n + (hdr ++ d).length) c' (l ++ (hdr ++ d)) ∧ Below w.heap.size w w' := by
  have hmd := hv2.len
  have HH := Lib.hid H
  clear H
  go_enter Try.func12, Try.ntmps12
  go_wp2_with (first | (go_at_call 19; refine (copied_any _ _ _ _ _ hv (by omega)).mono ?_; rintro e w1 ⟨a1, c1, rfl, h1, hb1⟩; have hl0 := Own.lit 5 w1 [0, 0] (by simp) (by simp); have hz := hb1.size) | (at_builtin; refine app8 (by rfl) (.tmp 6) (.tmp 7) (by rfl) w.heap.size _ n c1 _ (by rfl) (h1.alloc _) _ 2 2 [0, 0] (by rfl) hl0.vw (by omega) (by simp <;> omega) ?_; intro a3 c3 w3 h3 hg3; have hb3 : Below w.heap.size w w3 := (hb1.trans (Below.trans (b := w1.alloc _) ((Below.refl _ _).alloc hz _) (below_of_grown hg3 (by simp <;> omega) h1.ge))); have hv3 := Vw.below hb3 (Nat.le_refl _) hv2; have hz3 := hb3.size) | (at_builtin; refine app8 (by rfl) (.tmp 8) (.tmp 9) (by rfl) w.heap.size _ (n + 2) c3 _ (by rfl) h3 _ m c2 d (by rfl) hv3 (by omega) hz3 ?_; intro a4 c4 w4 h4 hg4))
  have hb4 : Below w.heap.size w w4 := hb3.trans (below_of_grown hg4 hz3 h3.ge)
  rw [List.append_assoc] at h4
  refine (HH.out l m (by rw [hmd]) w.heap.size _ _ _ _ h4 hb4.size (by omega)).mono ?_
  rintro e w5 ⟨a5, c5, rfl, h5, hb5⟩
  go_wp2_with fail
  go_ret
  have e : n + 2 + m - 2 + hdr.length = n + (hdr ++ d).length := by simp [hmd]; omega
  rw [e] at h5
  refine ⟨a5, c5, ?_, h5, hb4.trans hb5⟩
  rw [← e]; rfl

set_option maxRecDepth 100000 in
set_option maxHeartbeats 1000000 in
theorem fnPutTextBehind_walk (a : Option Addr) (n c : Nat) (l : List Int) (a2 : Option Addr) (m c2 : Nat) (d : List Int) (w : World) (hv : Vw w a n c l) (hv2 : Vw w a2 m c2 d) :
    Calls Try.prog 4 #[.slice a n c, .slice a2 m c2] w fun e w' => e = .returned (.bool true) ∧ Below w.heap.size w w' := by
  by_cases hbig : 2147483647 < n
  · have hb : (2147483647 : Int) < n := by omega
    go_enter Try.func4, Try.ntmps4
    go_wp2_with fail
    go_ret
    exact ⟨rfl, Below.refl _ _⟩
  · have hb : ¬ ((2147483647 : Int) < n) := by omega
    by_cases hbig2 : 2147483647 < m
    · have hb2 : (2147483647 : Int) < m := by omega
      go_enter Try.func4, Try.ntmps4
      go_wp2_with fail
      go_ret
      exact ⟨rfl, Below.refl _ _⟩
    · have hb2 : ¬ ((2147483647 : Int) < m) := by omega
      obtain ⟨hd1, g1, g2, g3, _, H1⟩ := two_text [1] (by simp)
      have hd12 := g3 (by simp)
      have P1 := Lib.hid (putTextBehind_any [1] hd1 g1 H1)
      have e1 : 0 + (hd1 ++ [(1 : Int)]).length = 3 := by simp [hd12]
      have E1 := Lib.hid e1
      clear H1 g1 g2 g3 e1 hd12
      have hl1 := Own.lit 5 w [1] (by simp) (by simp)
      go_enter Try.func4, Try.ntmps4
      go_wp2_with fail
      refine (P1.out none 0 0 [] _ 1 1 _ (Vw.nil _) hl1.vw (by omega) (by omega)).mono ?_
      rw [E1.out]
      rintro e w1 ⟨a1, c1, rfl, ho1, hb1'⟩
      have hb1 : Below w.heap.size w w1 := Below.trans (b := w.alloc _) ((Below.refl _ _).alloc (Nat.le_refl _) _) (hb1'.mono (by simp))
      go_wp2_with fail
      by_cases hf : n ≤ 200
      · refine (few_yes _ _ _ _ hf).mono ?_
        rintro e w1 ⟨rfl, rfl⟩
        have hv1 := Vw.below hb1 (Nat.le_refl _) hv
        have hv21 := Vw.below hb1 (Nat.le_refl _) hv2
        have hmd := hv2.len
        by_cases hs : m ≤ 131072
        · have hs1 : ¬ ((131072 : Int) < m) := by omega
          obtain ⟨hdr, g1, g2, _, hrd, H1⟩ := two_text d (by omega)
          have hput := putTextBehind_any d hdr g1 H1
          obtain ⟨enc, henc⟩ : ∃ enc, enc = hdr ++ d := ⟨_, rfl⟩
          rw [← henc] at hput hrd
          have PU := Lib.hid hput
          have HR := Lib.hid hrd
          clear H1 hrd hput henc hmd
          go_wp2_with fail
          have hmost : (-1 : Int) < 0 ∨ (enc.length : Int) ≤ -1 := .inl (by omega)
          go_region_held3 (fun W => Below w1.heap.size w1 W ∧ (convert 22 9 (.slice a2 m c2)).run Try.prog W = .ok (.string (strOfNums d)) W) ((exact ⟨by (repeat (first | with_reducible exact Below.refl _ _ | with_reducible assumption | with_reducible refine below_drewN ?_ _ | with_reducible refine Below.drew ?_ | with_reducible refine below_row ?_ (by first | omega | (simp; done) | (simp; omega)) _ | with_reducible refine Below.alloc ?_ (by first | omega | (simp; done) | (simp; omega)) _ | with_reducible refine Below.setCell ?_ (by first | omega | (simp; done) | (simp; omega)) _)), conv_of (Vw.below (by (repeat (first | with_reducible exact Below.refl _ _ | with_reducible assumption | with_reducible refine below_drewN ?_ _ | with_reducible refine Below.drew ?_ | with_reducible refine below_row ?_ (by first | omega | (simp; done) | (simp; omega)) _ | with_reducible refine Below.alloc ?_ (by first | omega | (simp; done) | (simp; omega)) _ | with_reducible refine Below.setCell ?_ (by first | omega | (simp; done) | (simp; omega)) _))) (Nat.le_refl _) hv21)⟩)) (first | (refine step_app8_copy (by rfl) (.tmp 28) (.tmp 29) (by rfl) w1.heap.size _ (by rfl) (by (repeat (first | with_reducible exact Blk.new _ _ _ | with_reducible assumption | with_reducible refine Blk.alloc ?_ _ | with_reducible refine Blk.drewN ?_ _ | with_reducible refine Blk.drew ?_ | with_reducible refine Blk.other ?_ (by first | omega | (simp; done) | (simp; omega)) _))) (by simp) a n c l (by rfl) (Vw.below (by (repeat (first | with_reducible exact Below.refl _ _ | with_reducible assumption | with_reducible refine below_drewN ?_ _ | with_reducible refine Below.drew ?_ | with_reducible refine below_row ?_ (by first | omega | (simp; done) | (simp; omega)) _ | with_reducible refine Below.alloc ?_ (by first | omega | (simp; done) | (simp; omega)) _ | with_reducible refine Below.setCell ?_ (by first | omega | (simp; done) | (simp; omega)) _))) (Nat.le_refl _) hv1) (by omega) ?_; intro a2' c2' w2 ho hb2'; have hb2 : Below w1.heap.size w1 w2 := (Below.trans (by (repeat (first | with_reducible exact Below.refl _ _ | with_reducible assumption | with_reducible refine below_drewN ?_ _ | with_reducible refine Below.drew ?_ | with_reducible refine below_row ?_ (by first | omega | (simp; done) | (simp; omega)) _ | with_reducible refine Below.alloc ?_ (by first | omega | (simp; done) | (simp; omega)) _ | with_reducible refine Below.setCell ?_ (by first | omega | (simp; done) | (simp; omega)) _))) hb2')) | (go_at_call 12; refine (PU.out _ _ _ _ _ _ _ _ ho.vw (Vw.below hb2 (Nat.le_refl _) hv21) (by omega) (by omega)).mono ?_; rintro e w3 ⟨a3, c3, rfl, h3, hb3'⟩; have hb3 : Below w1.heap.size w1 w3 := (hb2.trans (hb3'.mono hb2.size))) | (go_at_call 11; refine (appended_ok a n c l a3 _ c3 enc _ (Vw.below hb3 (Nat.le_refl _) hv1) h3.vw (-1) hmost 6 0 0 6 0 0 (strOfNums d) (strOfNums d) (took_of_reads HR.out n _ c3 rfl _) (fun w' => samePack_eq 6 0 0 (strOfNums d) w' rfl)).mono ?_; rintro e w4 ⟨rfl, hb4'⟩; have hb4 : Below w1.heap.size w1 w4 := (hb3.trans (hb4'.mono hb3.size))))
          go_wp2_with fail
          go_ret
          exact ⟨rfl, hb1.trans ((by assumption : Below w1.heap.size w1 _).mono hb1.size)⟩
        · have hs1 : ((131072 : Int) < m) := by omega
          go_wp2_with fail
          go_ret
          exact ⟨rfl, hb1⟩
      · refine (few_no _ _ _ _ (by omega)).mono ?_
        rintro e w1 ⟨rfl, rfl⟩
        go_wp2_with fail
        go_ret
        exact ⟨rfl, hb1⟩
end Go.Proofs.Ytcbplfpobpienaa
