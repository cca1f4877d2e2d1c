/- The walk of laws.FnGetTime. -/
import Derived.Test.YtdncfolehkhjhaaDoorTmAll
namespace Go.Proofs.YtdncfolehkhjhaaDoor
open Go.RowKit
set_option linter.unusedVariables false
set_option linter.unusedSimpArgs false

theorem left_anyT (a1 a2 : Option Addr) (n1 n2 c1 c2 : Nat) (l : List Int) (w : World) (h1 : Vw w a1 n1 c1 l) (h2 : Vw w a2 n2 c2 l) :
    Calls Tryd.prog 14 #[.slice a1 n1 c1, .slice a2 n2 c2] w fun e w' => e = .returned (.bool true) ∧ w = w' := by
  have e1 := h1.string Tryd.prog 35 5 9 Tryd.underlying35 Tryd.underlying5 Tryd.underlying9
  have e2 := h2.string Tryd.prog 35 5 9 Tryd.underlying35 Tryd.underlying5 Tryd.underlying9
  go_enter Tryd.func14, Tryd.ntmps14
  go_wp2_with fail
  go_ret
  exact ⟨rfl, rfl⟩
set_option maxRecDepth 100000 in
set_option maxHeartbeats 4000000 in
theorem moment_yes (sec ns : Int) (hs0 : -68719476736 < sec) (hs1 : sec < 68719476736) (hn0 : 0 ≤ ns) (hn1 : ns < 1000000000) (w : World) :
    Calls Tryd.prog 11 #[.int .i64 sec, .int .i32 ns] w fun e w' => e = .returned (.bool true) ∧ w' = w := by
  go_enter Tryd.func11, Tryd.ntmps11
  go_wp2_with fail
  go_ret
  exact ⟨rfl, rfl⟩
set_option maxRecDepth 100000 in
set_option maxHeartbeats 4000000 in
theorem moment_no (sec ns : Int) (h : ¬ (-68719476736 < sec ∧ sec < 68719476736 ∧ 0 ≤ ns ∧ ns < 1000000000)) (w : World) :
    Calls Tryd.prog 11 #[.int .i64 sec, .int .i32 ns] w fun e w' => e = .returned (.bool false) ∧ w' = w := by
  rcases (show ¬ (0 ≤ ns) ∨ (0 ≤ ns ∧ ¬ (ns < 1000000000)) ∨ (0 ≤ ns ∧ ns < 1000000000 ∧ ¬ (-68719476736 < sec)) ∨ (0 ≤ ns ∧ ns < 1000000000 ∧ -68719476736 < sec ∧ ¬ (sec < 68719476736)) by omega) with h1 | ⟨h1, h2⟩ | ⟨h1, h2, h3⟩ | ⟨h1, h2, h3, h4⟩
  all_goals
    clear h
    go_enter Tryd.func11, Tryd.ntmps11
    go_wp2_with fail
    go_ret
    exact ⟨rfl, rfl⟩

set_option maxRecDepth 100000 in
set_option maxHeartbeats 4000000 in
theorem fnGetTime_walk (sec ns k : Int) (hns : -2147483648 ≤ ns ∧ ns < 2147483648) (a0 : Option Addr) (m0 c0 : Nat) (l : List Int) (w : World) (hv : Vw w a0 m0 c0 l) :
    Calls Tryd.prog 4 #[.int .i64 sec, .int .i32 ns, .int .i64 k, .slice a0 m0 c0] w fun e w' => e = .returned (.bool true) ∧ Below w.heap.size w w' := by
  have hml := hv.len
  by_cases hbig : 2147483647 < m0
  · have hb2 : (2147483647 : Int) < m0 := by omega
    go_enter Tryd.func4, Tryd.ntmps4
    go_wp2_with fail
    go_ret
    exact ⟨rfl, Below.refl _ _⟩
  have hb2 : ¬ ((2147483647 : Int) < m0) := by omega
  have hv6 : Vw (w.alloc (.cells #[.int .u8 214, .int .u8 255, .int .u8 0, .int .u8 0, .int .u8 0, .int .u8 5] 5)) (some ⟨w.heap.size, 0, none⟩) 6 6 ([214, 255] ++ ([0, 0, 0, 5] ++ [])) := (Own.lit 5 w [214, 255, 0, 0, 0, 5] (by simp) (by simp)).vw
  have hp5 := getTime_of 5 0 (by omega) (by omega) (by omega) (by omega) [0, 0, 0, 5] (.inr (.inr ⟨by omega, by omega, rfl, by rw [tbeL_4]; simp⟩)) [214, 255] (.inl ⟨2, 4, by simp, rfl, rfl⟩) [] (by simp) _ _ _ _ hv6
  have HP := Lib.hid hp5
  have HV := Lib.hid hv
  have hml2 := Lib.hid hml
  clear hp5 hv6 hv hml hbig
  by_cases hM : -68719476736 < sec ∧ sec < 68719476736 ∧ 0 ≤ ns ∧ ns < 1000000000
  · obtain ⟨s0, s1, n0, n1⟩ := hM
    have HMo := Lib.hid (fun W => moment_yes sec ns s0 s1 n0 n1 W)
    by_cases hk : (0 ≤ k ∧ k ≤ 2) ∧ m0 ≤ 100
    · obtain ⟨⟨k0, k1⟩, hm100⟩ := hk
      have k0' : ¬ (k < 0) := by omega
      have k1' : ¬ (2 < k) := by omega
      have m1' : ¬ ((100 : Int) < m0) := by omega
      have HMD := Lib.hid (fun W => mom_any sec ns k s0 s1 n0 n1 k0 k1 W)
      have hw32 : IntKind.u32.wrap ns = ns := by rw [IntKind.wrap_u32]; omega
      go_enter Tryd.func4, Tryd.ntmps4
      go_wp2_with fail
      refine HP.out.mono ?_
      rintro e w1 ⟨a2, c2, rfl, _, hb1⟩
      have hb1w : Below w.heap.size w w1 := Below.trans (b := _) ((Below.refl _ w).alloc (Nat.le_refl _) _) (hb1.mono (by simp))
      have hs1 := hb1w.size
      go_wp2_with fail
      refine (HMo.out _).mono ?_
      rintro e w1' ⟨rfl, rfl⟩
      go_wp2_with fail
      refine (HMD.out _).mono ?_
      rintro e w2 ⟨lm, hlm, rfl, hb2⟩
      have hlen := momL_len hlm
      obtain ⟨t, ht⟩ : ∃ t, t = strOfNums lm := ⟨_, rfl⟩
      have htb : btL t = lm := by rw [ht]; exact btL_nums lm (momL_bd hlm)
      have hts : t.size = lm.length := by rw [ht, strOfNums_size]
      rw [← ht]
      have hb2w := hb1w.trans (hb2.mono hs1)
      have hs2 := hb2w.size
      have HLM := Lib.hid hlm
      have HTB := Lib.hid htb
      have HTS := Lib.hid hts
      have HLN := Lib.hid hlen
      clear hlm ht htb hts hlen
      go_wp2_with fail
      have hB2 : FB ((w2.alloc (.cells #[.int .i64 10, .int .u64 0, .string t, .int .i64 (-1), .slice none 0 0] 27)).alloc (.cells #[.int .u64 0, .bool true] 44)) (w2.heap.size + 1) true := ⟨0, by omega, by omega, Blk.newAt (by simp) _ _⟩
      refine (putPack_ext 0 t (by have := HTS.out; have := HLN.out; omega) (-1) none 0 0 _ true _ hB2).mono ?_
      rintro e w3 ⟨a3, n3, c3, enc, rfl, ho3, hen, hB3, hK3⟩
      obtain ⟨hx, hE, rfl⟩ : ∃ h, ExtL t.size (-1 % 256) h ∧ enc = h ++ btL t := by
        rcases hen with ⟨h, _⟩ | ⟨h, _⟩ | ⟨h, _⟩ | ⟨h, _⟩ | ⟨h, _⟩ | ⟨h, _⟩ | ⟨h, _⟩ | ⟨h, _⟩ | ⟨h, _⟩ | ⟨h, _⟩ | ⟨_, h⟩
        all_goals first | omega | exact h
      have hb3 : Below w2.heap.size w2 w3 := Below.trans (b := _) (((Below.refl _ w2).alloc (Nat.le_refl _) _).alloc (by simp) _) (hK3.below (by simp; omega) (by omega))
      have hb3w := hb2w.trans (hb3.mono hs2)
      have hs3 := hb3w.size
      have hv3 := HV.out.below hb3w (Nat.le_refl _)
      obtain ⟨N, hN⟩ : ∃ N, N = n3 + m0 := ⟨_, rfl⟩
      have hn3 := ho3.vw.len
      have hxl := extL_le hE
      have hnn : n3 + m0 ≤ 1000000 := by
        have h1 := HTS.out
        have h2 := HLN.out
        rw [List.length_append, btL_len] at hn3
        omega
      have hE2 : ExtL lm.length 255 hx := by rw [← HTS.out]; exact hE
      have HE := Lib.hid hE2
      have hs23 := hb3.size
      have ho3' := ho3.mono (B' := w2.heap.size) (by simp; omega)
      clear hE hen hB3 hK3 hE2 hn3 hxl
      go_wp2_with (at_builtin; refine app8 (by rfl) _ _ (by rfl) w2.heap.size a3 n3 c3 _ (by rfl) ho3' a0 m0 c0 l (by rfl) hv3 (by omega) hs23 ?_; intro a4 c4 w4 ho4 hg4; have hb4 := below_of_grown (B := w2.heap.size) hg4 hs23 ho3'.ge)
      have hb4w : Below w.heap.size w w4 := hb3w.trans (hb4.mono hs2)
      have hv4 : Vw w4 a4 (n3 + m0) c4 (hx ++ (lm ++ l)) := by
        have h := ho4.vw
        rw [HTB.out, List.append_assoc] at h
        exact h
      refine (getTime_of sec ns s0 s1 n0 n1 lm HLM.out hx HE.out l (by have := hml2.out; omega) _ _ _ w4 hv4).mono ?_
      rintro e w5 ⟨a5, c5, rfl, hv5, hb5⟩
      have hb5w := hb4w.trans (hb5.mono hb4w.size)
      clear hv4 hv3 ho4 ho3'
      go_wp2_with fail
      refine (left_anyT a5 a0 _ m0 c5 c0 l _ hv5 (HV.out.below hb5w (Nat.le_refl _))).mono ?_
      rintro e w6 ⟨rfl, rfl⟩
      go_wp2_with fail
      go_ret
      exact ⟨rfl, hb5w⟩
    · have hk3 : k < 0 ∨ (¬ (k < 0) ∧ 2 < k) ∨ (¬ (k < 0) ∧ ¬ (2 < k) ∧ (100 : Int) < m0) := by omega
      clear hk
      rcases hk3 with hk3 | ⟨hk3, hk4⟩ | ⟨hk3, hk4, hk5⟩
      all_goals
        go_enter Tryd.func4, Tryd.ntmps4
        go_wp2_with fail
        refine HP.out.mono ?_
        rintro e w1 ⟨a2, c2, rfl, _, hb1⟩
        have hb1w : Below w.heap.size w w1 := Below.trans (b := _) ((Below.refl _ w).alloc (Nat.le_refl _) _) (hb1.mono (by simp))
        have hs1 := hb1w.size
        go_wp2_with fail
        refine (HMo.out _).mono ?_
        rintro e w1' ⟨rfl, rfl⟩
        go_wp2_with fail
        go_ret
        exact ⟨rfl, hb1w⟩
  · have HMo := Lib.hid (fun W => moment_no sec ns hM W)
    clear hM
    go_enter Tryd.func4, Tryd.ntmps4
    go_wp2_with fail
    refine HP.out.mono ?_
    rintro e w1 ⟨a2, c2, rfl, _, hb1⟩
    have hb1w : Below w.heap.size w w1 := Below.trans (b := _) ((Below.refl _ w).alloc (Nat.le_refl _) _) (hb1.mono (by simp))
    have hs1 := hb1w.size
    go_wp2_with fail
    refine (HMo.out _).mono ?_
    rintro e w1' ⟨rfl, rfl⟩
    go_wp2_with fail
    go_ret
    exact ⟨rfl, hb1w⟩
end Go.Proofs.YtdncfolehkhjhaaDoor
