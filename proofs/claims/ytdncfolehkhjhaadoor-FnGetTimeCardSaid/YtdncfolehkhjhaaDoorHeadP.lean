/- spec.Forms.putHead. -/
import Derived.Test.YtdncfolehkhjhaaDoorFB
namespace Go.Proofs.YtdncfolehkhjhaaDoor
open Go.RowKit
set_option linter.unusedVariables false
set_option linter.unusedSimpArgs false

/-- A head: within the code, or behind one of the codes that hold it. -/
def HeadL (n : Nat) (fixed : Int) (under : Nat) (l : List (Int × Nat)) (x : List Int) : Prop :=
  (0 ≤ fixed ∧ n < under ∧ x = [fixed + n]) ∨ ∃ f, f ∈ may n l ∧ x = f.1 :: beL n f.2

set_option maxRecDepth 100000 in
set_option maxHeartbeats 4000000 in
theorem putHead_any (n : Nat) (hn : n ≤ 4294967295) (fixed : Int) (hf0 : -1 ≤ fixed) (hf1 : fixed ≤ 255) (under : Nat) (hu : under ≤ 256) (hor : 0 ≤ fixed → n < under → bits BinOp.or IntKind.i64 fixed (n : Int) % 256 = fixed + n ∧ 0 ≤ fixed + n ∧ fixed + n ≤ 255)
    (l : List (Int × Nat)) (hl : ∀ f ∈ l, 0 ≤ f.1 ∧ f.1 < 256 ∧ f.2 ≤ 8) (hlen : l.length ≤ 100) (hmay : 0 < (may n l).length) (a0 : Option Addr) (c0 : Nat) (F : Nat) (b : Bool) (w : World) (hB : FB w F b) (hr : Rd w a0 (fcells l)) :
    Calls Tryd.prog 31 #[.pointer (some ⟨F, 0, none⟩), .int .i64 n, .int .i64 fixed, .int .i64 under, .slice a0 l.length c0] w (PutRes F b (HeadL n fixed under l) w) := by
  have hcv : IntKind.u64.wrap (n : Int) = n := by rw [wrap_u64]; omega
  have hml := may_le n l
  obtain ⟨m, hm⟩ : ∃ m, m = (may n l).length := ⟨_, rfl⟩
  have hsz := sizes_any (n : Int) (by omega) (by omega) l (fun f hf => (hl f hf).2.2) hlen a0 c0 w hr
  rw [← hm] at hmay hml hsz
  have HM := Lib.hid hm
  have HS := Lib.hid hsz
  have HL := Lib.hid hl
  have HO := Lib.hid hor
  clear hm hsz hl hor
  have hFl := hB.lt
  go_enter Tryd.func31, Tryd.ntmps31
  go_wp2_with fail
  refine HS.out.mono ?_
  rintro e w1 ⟨a1, c1, rfl, hown, hb1⟩
  have hB1 := hB.below hb1 hFl
  have hs1 := hb1.size
  by_cases hfix : 0 ≤ fixed ∧ n < under
  · have d1 : decide (fixed ≥ 0) = true := by simpa using hfix.1
    have d2 : decide (n < under) = true := by simpa using hfix.2
    go_wp2_with fail
    refine (pickF b ((m : Int) + 1) (by omega) (by omega) F _ hB1).mono ?_
    rintro e w2 ⟨k, rfl, hk0, hk1, hk2, hB2, hs2, v, rfl⟩
    by_cases hkz : k = 0
    · subst hkz
      obtain ⟨ho1, ho2, ho3⟩ := HO.out hfix.1 hfix.2
      go_wp2_with fail
      go_ret
      rw [ho1]
      refine ⟨_, 1, 1, [fixed + n], rfl, Own.lit1 _ _ ho2 ho3 hs2.symm (by rw [hs2]; exact hs1), .inl ⟨hfix.1, hfix.2, rfl⟩, hB2.alloc _, ?_⟩
      exact (Kp.of_below hb1).trans ((Kp.set F _ w1 0 v).trans (Kp.of_below ((Below.refl _ _).alloc (by rw [hs2]; exact hs1) _)))
    · obtain ⟨q, rfl⟩ : ∃ q : Nat, k = (q : Int) + 1 := ⟨(k - 1).toNat, by omega⟩
      have hq : q < m := by have := hk2 (by omega); omega
      have hkz' : ((q : Int) + 1 == 0) = false := by simp; omega
      clear hk2
      obtain ⟨⟨z, s⟩, hf⟩ : ∃ f, f = (may n l)[q]'(by rw [← HM.out]; exact hq) := ⟨_, rfl⟩
      have hzs := HL.out (z, s) (List.mem_filter.1 (by rw [hf]; exact List.getElem_mem _ : (z, s) ∈ may n l)).1
      obtain ⟨hz0, hz1, hs8⟩ := hzs
      have hrd := (Rd.of_owns hown).setCell (p := ⟨F, 0, none⟩) v (fun x hx => by have := ge_of_owns hown x hx; simp; omega)
      obtain ⟨bb, off, rfl, q0, q1⟩ := hrd.form_at q (by rw [← HM.out]; exact hq) _ hf
      simp only at q0 q1 hz0 hz1 hs8
      have HF := Lib.hid hf
      clear hf
      go_wp2_with fail
      refine (headed_any z hz0 hz1 s hs8 (n : Int) (by omega) (by omega) _).mono ?_
      rintro e w3 ⟨a3, c3, rfl, ho3, hb3⟩
      go_wp2_with fail
      go_ret
      refine ⟨a3, _, c3, _, rfl, ho3.mono (by rw [hs2]; exact hs1), .inr ⟨(z, s), by rw [HF.out]; exact List.getElem_mem _, rfl⟩, hB2.below hb3 (by omega), ?_⟩
      exact (Kp.of_below hb1).trans ((Kp.set F _ w1 0 v).trans (Kp.of_below (hb3.mono (by rw [hs2]; exact hs1))))
  · have hnf : (decide (fixed ≥ 0) && decide (n < under)) = false := by
      rw [Bool.and_eq_false_iff]
      by_cases h1 : 0 ≤ fixed
      · right; simp; omega
      · left; simp; omega
    have hpick : ∀ W, FB W F b → Calls Tryd.prog 45 #[.pointer (some ⟨F, 0, none⟩), .int .i64 (m : Int)] W (PickF F b (m : Int) W) := fun W hW => pickF b (m : Int) (by omega) (by omega) F W hW
    have HP := Lib.hid hpick
    have HNF := Lib.hid hnf
    clear hpick hnf
    by_cases h1 : 0 ≤ fixed
    · have d1 : decide (fixed ≥ 0) = true := by simpa using h1
      have d2 : decide (n < under) = false := by simp; omega
      go_wp2_with fail
      refine (HP.out _ hB1).mono ?_
      rintro e w2 ⟨k, rfl, hk0, hk1, hk2, hB2, hs2, v, rfl⟩
      obtain ⟨q, rfl⟩ : ∃ q : Nat, k = (q : Int) := ⟨k.toNat, by omega⟩
      have hq : q < m := by have := hk2 (by omega); omega
      clear hk2
      obtain ⟨⟨z, s⟩, hf⟩ : ∃ f, f = (may n l)[q]'(by rw [← HM.out]; exact hq) := ⟨_, rfl⟩
      have hzs := HL.out (z, s) (List.mem_filter.1 (by rw [hf]; exact List.getElem_mem _ : (z, s) ∈ may n l)).1
      obtain ⟨hz0, hz1, hs8⟩ := hzs
      have hrd := (Rd.of_owns hown).setCell (p := ⟨F, 0, none⟩) v (fun x hx => by have := ge_of_owns hown x hx; simp; omega)
      obtain ⟨bb, off, rfl, q0, q1⟩ := hrd.form_at q (by rw [← HM.out]; exact hq) _ hf
      simp only at q0 q1 hz0 hz1 hs8
      have HF := Lib.hid hf
      clear hf
      go_wp2_with fail
      refine (headed_any z hz0 hz1 s hs8 (n : Int) (by omega) (by omega) _).mono ?_
      rintro e w3 ⟨a3, c3, rfl, ho3, hb3⟩
      go_wp2_with fail
      go_ret
      refine ⟨a3, _, c3, _, rfl, ho3.mono (by rw [hs2]; exact hs1), .inr ⟨(z, s), by rw [HF.out]; exact List.getElem_mem _, rfl⟩, hB2.below hb3 (by omega), ?_⟩
      exact (Kp.of_below hb1).trans ((Kp.set F _ w1 0 v).trans (Kp.of_below (hb3.mono (by rw [hs2]; exact hs1))))
    · have d1 : decide (fixed ≥ 0) = false := by simp; omega
      go_wp2_with fail
      refine (HP.out _ hB1).mono ?_
      rintro e w2 ⟨k, rfl, hk0, hk1, hk2, hB2, hs2, v, rfl⟩
      obtain ⟨q, rfl⟩ : ∃ q : Nat, k = (q : Int) := ⟨k.toNat, by omega⟩
      have hq : q < m := by have := hk2 (by omega); omega
      clear hk2
      obtain ⟨⟨z, s⟩, hf⟩ : ∃ f, f = (may n l)[q]'(by rw [← HM.out]; exact hq) := ⟨_, rfl⟩
      have hzs := HL.out (z, s) (List.mem_filter.1 (by rw [hf]; exact List.getElem_mem _ : (z, s) ∈ may n l)).1
      obtain ⟨hz0, hz1, hs8⟩ := hzs
      have hrd := (Rd.of_owns hown).setCell (p := ⟨F, 0, none⟩) v (fun x hx => by have := ge_of_owns hown x hx; simp; omega)
      obtain ⟨bb, off, rfl, q0, q1⟩ := hrd.form_at q (by rw [← HM.out]; exact hq) _ hf
      simp only at q0 q1 hz0 hz1 hs8
      have HF := Lib.hid hf
      clear hf
      go_wp2_with fail
      refine (headed_any z hz0 hz1 s hs8 (n : Int) (by omega) (by omega) _).mono ?_
      rintro e w3 ⟨a3, c3, rfl, ho3, hb3⟩
      go_wp2_with fail
      go_ret
      refine ⟨a3, _, c3, _, rfl, ho3.mono (by rw [hs2]; exact hs1), .inr ⟨(z, s), by rw [HF.out]; exact List.getElem_mem _, rfl⟩, hB2.below hb3 (by omega), ?_⟩
      exact (Kp.of_below hb1).trans ((Kp.set F _ w1 0 v).trans (Kp.of_below (hb3.mono (by rw [hs2]; exact hs1))))
end Go.Proofs.YtdncfolehkhjhaaDoor
