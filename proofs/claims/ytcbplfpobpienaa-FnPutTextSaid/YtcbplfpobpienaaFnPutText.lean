/- The walk of laws.FnPutText. -/
import Derived.Test.YtcbplfpobpienaaAppended
import Derived.Test.YtcbplfpobpienaaPutStr
namespace Go.Proofs.Ytcbplfpobpienaa
open Go.RowKit
set_option linter.unusedVariables false

theorem puts_PutText (s : ByteArray) (enc : List Int) (h : Apps 25 (.string s) enc) : Puts 15 (.string s) enc := by
  intro a n c l w hv hn
  have H := Lib.hid h
  clear h
  go_enter Try.func15, Try.ntmps15
  go_wp2_with (go_at_call 19; refine (copied_any _ _ _ _ _ hv hn).mono ?_; rintro e w1 ⟨a1, c1, rfl, h1, hb1⟩)
  refine (H.out _ _ _ _ _ _ h1 hb1.size hn).mono ?_
  rintro e w2 ⟨a2, c2, rfl, h2, hb2⟩
  go_wp2_with fail
  go_ret
  exact ⟨a2, c2, rfl, h2, Below.trans hb1 hb2⟩

set_option maxRecDepth 100000 in
set_option maxHeartbeats 1000000 in
theorem fnPutText_walk (a : Option Addr) (n c : Nat) (l : List Int) (s : ByteArray) (w : World) (hv : Vw w a n c l) :
    Calls Try.prog 6 #[.slice a n c, .string s] w fun e w' => e = .returned (.bool true) ∧ Below w.heap.size w w' := by
  by_cases hbig : 2147483647 < n
  · have hb : (2147483647 : Int) < n := by omega
    go_enter Try.func6, Try.ntmps6
    go_wp2_with fail
    go_ret
    exact ⟨rfl, Below.refl _ _⟩
  · have hb : ¬ ((2147483647 : Int) < n) := by omega
    by_cases hbig2 : 2147483647 < s.size
    · have hb2 : (2147483647 : Int) < s.size := by omega
      go_enter Try.func6, Try.ntmps6
      go_wp2_with fail
      go_ret
      exact ⟨rfl, Below.refl _ _⟩
    · have hb2 : ¬ ((2147483647 : Int) < s.size) := by omega
      obtain ⟨enc5, l5, _, _, ap5⟩ := apps_string ⟨#[97]⟩ (by decide)
      have P5 := Lib.hid (puts_PutText ⟨#[97]⟩ enc5 ap5)
      clear ap5
      have hpos : decide (0 < enc5.length) = true := by simp; omega
      have hpos' : 0 < enc5.length := by omega
      go_enter Try.func6, Try.ntmps6
      go_wp2_with fail
      refine (P5.out none 0 0 [] _ (Vw.nil _) (by omega)).mono ?_
      rintro e w1 ⟨a1, c1, rfl, ho1, hb1⟩
      go_wp2_with fail
      by_cases hf : n ≤ 200
      · refine (few_yes _ _ _ _ hf).mono ?_
        rintro e w1 ⟨rfl, rfl⟩
        have hv1 := Vw.below hb1 (Nat.le_refl _) hv
        by_cases hs : s.size ≤ 131072
        · have hs1 : ¬ ((131072 : Int) < s.size) := by omega
          obtain ⟨enc, l1, l2, hrd, ap⟩ := apps_string s hs
          have PU := Lib.hid (puts_PutText s enc ap)
          have HR := Lib.hid hrd
          clear ap hrd
          go_wp2_with (at_builtin; refine app8_copy (by rfl) _ _ (by rfl) (by rfl) a n c l (by rfl) hv1 (by omega) ?_; intro a2 c2 w2 ho hb2)
          go_wp2_with fail
          refine (PU.out _ _ _ _ _ ho.vw (by omega)).mono ?_
          rintro e w3 ⟨a3, c3, rfl, h3, hb3⟩
          go_wp2_with fail
          have hv3 := Vw.below hb3 (Nat.le_refl _) (Vw.below hb2 (Nat.le_refl _) hv1)
          refine (appended_ok a n c l a3 _ c3 enc w3 hv3 h3.vw (-1) (.inl (by omega)) 6 0 0 6 0 0 s s ?_ (fun w' => samePack_eq 6 0 0 s w' rfl)).mono ?_
          · intro b1 hb1
            have e : n + enc.length - n = enc.length := by omega
            rw [e] at hb1 ⊢
            obtain ⟨a', n', c', e0, _, hc⟩ := HR.out w3 b1 _ _ [] 1 (by omega) (by simpa using hb1)
            have e1 : n' = 0 := by simpa using e0
            subst e1
            exact ⟨a', c', hc⟩
          · rintro e w4 ⟨rfl, hb4⟩
            go_wp2_with fail
            go_ret
            exact ⟨rfl, hb1.trans ((hb2.mono hb1.size).trans ((hb3.mono (Nat.le_trans hb1.size hb2.size)).trans (hb4.mono (Nat.le_trans hb1.size (Nat.le_trans hb2.size hb3.size)))))⟩
        · have hs1 : ((131072 : Int) < s.size) := by omega
          go_wp2_with fail
          go_ret
          exact ⟨rfl, hb1⟩
      · refine (few_no _ _ _ _ (by omega)).mono ?_
        rintro e w1 ⟨rfl, rfl⟩
        go_wp2_with fail
        go_ret
        exact ⟨rfl, hb1⟩
end Go.Proofs.Ytcbplfpobpienaa
