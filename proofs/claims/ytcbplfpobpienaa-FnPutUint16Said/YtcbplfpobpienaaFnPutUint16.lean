/- The walk of laws.FnPutUint16. -/
import Derived.Test.YtcbplfpobpienaaAppended
import Derived.Test.YtcbplfpobpienaaPutInt
namespace Go.Proofs.Ytcbplfpobpienaa
open Go.RowKit
set_option linter.unusedVariables false

/-- impl.PutUint16 appends to a copy. -/
theorem puts_PutUint16 (u : Int) (h0 : 0 ≤ u) (h1 : u < 65536) (enc : List Int) (hl : enc.length ≤ 16) (h : Apps 37 (.int .u64 u) enc) : Puts 16 (.int .u16 u) enc := by
  intro a n c l w hv hn
  have H := Lib.hid h
  clear h
  go_enter Try.func16, Try.ntmps16
  go_wp2_with (first | (go_at_call 19; refine (copied_any _ _ _ _ _ hv hn).mono ?_; rintro e w1 ⟨a1, c1, rfl, h1, hb1⟩) | (go_at_call 26; go_in))
  refine (H.out _ _ _ _ _ _ (by assumption) (Below.size (by assumption)) hn).mono ?_
  rintro e w2 ⟨a2, c2, rfl, h2, hb2⟩
  go_wp2_with fail
  go_ret
  exact ⟨a2, c2, rfl, h2, Below.trans (by assumption) hb2⟩

set_option maxRecDepth 100000 in
set_option maxHeartbeats 1000000 in
theorem fnPutUint16_walk (a : Option Addr) (n c : Nat) (l : List Int) (u : Int) (w : World) (hv : Vw w a n c l) (h0 : 0 ≤ u) (h1 : u < 65536) :
    Calls Try.prog 7 #[.slice a n c, .int .u16 u] w fun e w' => e = .returned (.bool true) ∧ Below w.heap.size w w' := by
  by_cases hbig : 2147483647 < n
  · have hb : (2147483647 : Int) < n := by omega
    go_enter Try.func7, Try.ntmps7
    go_wp2_with fail
    go_ret
    exact ⟨rfl, Below.refl _ _⟩
  · have hb : ¬ ((2147483647 : Int) < n) := by omega
    obtain ⟨enc5, l5, _, l53, _, ap5⟩ := apps_uint64 5 (by omega) (by omega)
    obtain ⟨enc, l1, _, l3, hrd, ap⟩ := apps_uint64 u (by omega) (by omega)
    have P5 := Lib.hid (puts_PutUint16 5 (by omega) (by omega) enc5 (by have := l53 (by omega); omega) ap5)
    have PU := Lib.hid (puts_PutUint16 u h0 h1 enc (by have := l3 (by omega); omega) ap)
    have HR := Lib.hid hrd
    have hl3 := l3 (by omega)
    clear ap5 ap hrd l3 l53
    go_enter Try.func7, Try.ntmps7
    go_wp2_with fail
    refine (P5.out none 0 0 [] _ (Vw.nil _) (by omega)).mono ?_
    rintro e w1 ⟨a1, c1, rfl, ho1, hb1⟩
    have hpos : decide (0 < enc5.length) = true := by simp; omega
    have hpos' : 0 < enc5.length := by omega
    go_wp2_with fail
    by_cases hf : n ≤ 200
    · refine (few_yes _ _ _ _ hf).mono ?_
      rintro e w1 ⟨rfl, rfl⟩
      have hv1 := Vw.below hb1 (Nat.le_refl _) hv
      go_wp2_with (at_builtin; refine app8_copy (by rfl) _ _ (by rfl) (by rfl) a n c l (by rfl) hv1 (by omega) ?_; intro a2 c2 w2 ho hb2)
      go_wp2_with fail
      refine (PU.out _ _ _ _ _ ho.vw (by omega)).mono ?_
      rintro e w3 ⟨a3, c3, rfl, h3, hb3⟩
      go_wp2_with fail
      have hv3 := Vw.below hb3 (Nat.le_refl _) (Vw.below hb2 (Nat.le_refl _) hv1)
      refine (appended_ok a n c l a3 _ c3 enc w3 hv3 h3.vw 3 (.inr (by omega)) 3 u 0 3 u 0 ⟨#[]⟩ ⟨#[]⟩ ?_ (fun w' => samePack_eq 3 u 0 ⟨#[]⟩ w' rfl)).mono ?_
      · intro b1 hb1
        have e : n + enc.length - n = enc.length := by omega
        rw [e] at hb1 ⊢
        obtain ⟨a', n', c', e0, _, hc⟩ := HR.out w3 b1 _ _ [] 1 (by omega) (by simpa using hb1)
        have e1 : n' = 0 := by simpa using e0
        subst e1
        exact ⟨a', c', hc⟩
      · rintro e w4 ⟨rfl, hb4⟩
        go_wp2_with fail
        go_ret
        exact ⟨rfl, hb1.trans ((hb2.mono hb1.size).trans ((hb3.mono (Nat.le_trans hb1.size hb2.size)).trans (hb4.mono (Nat.le_trans hb1.size (Nat.le_trans hb2.size hb3.size)))))⟩
    · refine (few_no _ _ _ _ (by omega)).mono ?_
      rintro e w1 ⟨rfl, rfl⟩
      go_wp2_with fail
      go_ret
      exact ⟨rfl, hb1⟩
end Go.Proofs.Ytcbplfpobpienaa
