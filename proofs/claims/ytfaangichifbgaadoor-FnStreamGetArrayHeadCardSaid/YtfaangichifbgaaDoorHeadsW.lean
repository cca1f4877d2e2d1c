/- laws.headsWritten: heads of arrays written one behind the other; a head is read. -/
import Derived.Test.YtfaangichifbgaaDoorSGet
import Derived.Test.YtfaangichifbgaaDoorPutHead
namespace Go.Proofs.YtfaangichifbgaaDoor
open Go.RowKit
set_option linter.unusedVariables false
set_option linter.unusedSimpArgs false

abbrev HE (p : Int) (l : List Int) : Prop := HeadL p.toNat 144 16 formsA l
def HEs (ps : List Int) (es : List (List Int)) : Prop := ∀ i (h1 : i < ps.length) (h2 : i < es.length), HE ps[i] es[i]
def AllH (ps : List Int) (w : World) (e : Ending) (w' : World) : Prop :=
  ∃ a n c es, e = .returned (.slice a n c) ∧ Vw w' a n c (flatE es) ∧ es.length = ps.length ∧ HEs ps es ∧ n ≤ ps.length * 9 ∧ Below w.heap.size w w'
theorem he_len (p : Int) (l : List Int) (h : HE p l) : l.length ≤ 9 := by
  rcases h with ⟨_, _, rfl⟩ | ⟨f, hf, rfl⟩
  · simp
  · have : ∀ q ∈ formsA, q.2 ≤ 8 := by simp
    have := this _ (List.mem_filter.1 hf).1
    simp [beL_len]; omega
theorem putH (p : Int) (h0 : 0 ≤ p) (h1 : p ≤ 4294967295) (F : Nat) (b : Bool) (w : World) (hB : FB w F b) :
    Calls Tryd.prog 24 #[.int .i64 8, .int .u32 p, .pointer (some ⟨F, 0, none⟩)] w (PutRes F b (HE p) w) := by
  have h := PutHead_any 8 p.toNat (by omega) F b w hB
  rw [show ((p.toNat : Nat) : Int) = p by omega] at h
  exact h
theorem gets_head (v : Int) (h0 : 0 ≤ v) (h1 : v ≤ 4294967295) (x : List Int) (h : HE v x) : Gets 23 (.int .u32 v) x := by
  obtain ⟨n, rfl⟩ : ∃ n : Nat, v = n := ⟨v.toNat, by omega⟩
  unfold HE HeadL at h
  simp only [Int.toNat_natCast] at h
  rcases h with ⟨_, hn, rfl⟩ | ⟨f, hf, rfl⟩
  · intro B K R rest w hr
    have := rda_fix B K R (144 + (n : Int)) rest w hr (by omega) (by omega)
    rw [show (144 : Int) + (n : Int) - 144 = n by omega] at this
    exact this
  · obtain ⟨hm, hb⟩ := may_mem hf
    simp at hm
    rcases hm with rfl | rfl
    · simp only at hb
      intro B K R rest w hr
      rw [beL_2] at hr
      have := rda_220 B K R _ _ rest w hr
      rw [beN_2, show (n : Int) % 65536 = n by rcases hb with hb | hb; omega; simp at hb; omega] at this
      exact this
    · intro B K R rest w hr
      rw [beL_4] at hr
      have := rda_221 B K R _ _ _ _ rest w hr
      rw [beN_4, show (n : Int) % 4294967296 = n by omega] at this
      exact this
theorem enc_ArrayHead (x : Int) (h : 0 ≤ x ∧ x < 4294967296) (enc : List Int) (he : HE x enc) : Gets 22 (.int .u32 x) enc :=
  clo_arr x enc (gets_head x (by omega) (by omega) enc he)

set_option maxRecDepth 100000 in
set_option maxHeartbeats 4000000 in
theorem headsW_any (ps : List Int) (a : Option Addr) (c : Nat) (s : Int) (h0 : 0 ≤ s) (h1 : s < 18446744073709551616) (w : World) (hr : Rd w a (ps.map (Value.int .u32))) (hk : ∀ p ∈ ps, 0 ≤ p ∧ p ≤ 4294967295) (hn : ps.length ≤ 1000) :
    Calls Tryd.prog 9 #[.int .i64 8, .slice a ps.length c, .int .u64 s] w (AllH ps w) := by
  obtain ⟨m, hm⟩ : ∃ m, m = ps.length := ⟨_, rfl⟩
  rw [← hm] at hn ⊢
  have HM := Lib.hid hm
  have HR := Lib.hid hr
  have HK := Lib.hid hk
  clear hm hr hk
  go_enter Tryd.func9, Tryd.ntmps9
  go_wp2_with fail
  have hF : FB (w.alloc (.cells #[.int .u64 s, .bool false] 65)) w.heap.size false := ⟨s, h0, h1, Blk.new w _ _⟩
  have HF0 := Lib.hid hF
  clear hF
  go_loopw [8, 16] (fun o i wr => ∃ j : Nat, j ≤ m ∧ i = .int .i64 j ∧ ∃ (oa : Option Addr) (on oc : Nat) (es : List (List Int)), o = .slice oa on oc ∧ Hid (O8 wr (w.heap.size + 1) oa on oc (flatE es)) ∧ Hid (es.length = j ∧ on ≤ j * 9 ∧ HEs ps es) ∧ Hid (FB wr w.heap.size false) ∧ Hid (Below w.heap.size w wr)) (fun _ i _ => m - (intOf i).toNat)
  case atStart => exact ⟨0, Nat.zero_le _, rfl, none, 0, 0, [], rfl, Lib.hid (Own.nil _ _ _), Lib.hid ⟨rfl, Nat.le_refl _, fun i h1 h2 => absurd h2 (by simp)⟩, HF0, Lib.hid ((Below.refl _ _).alloc (Nat.le_refl _) _)⟩
  case round =>
    obtain ⟨j, hj, rfl, oa, on, oc, es, rfl, ho, hes, hfb, hbr⟩ := hrel
    by_cases hlt : j < m
    · have hli : (j : Int) < m := by omega
      have hjp : j < ps.length := by have := HM.out; omega
      obtain ⟨p, hp⟩ : ∃ p, p = ps[j] := ⟨_, rfl⟩
      obtain ⟨ba, bo, rfl, hcc⟩ := (HR.out.below hbr.out (Nat.le_refl _)).at_ (by simp; omega)
      have p0 : wr.cell? ⟨ba, bo + j, none⟩ = some (.int .u32 p) := by rw [hcc j (by simp; omega), hp]; simp [List.getD, List.getElem?_eq_getElem hjp]
      have hbl := World.block_lt_of_cell? wr _ p0
      clear hcc
      have hok := HK.out p (by rw [hp]; exact List.getElem_mem _)
      have hFl := hfb.out.lt
      have hon : on ≤ 9000 := by have := hes.out.2.1; omega
      have HPP := Lib.hid hp
      have HP := fun (U : World) (hU : FB U w.heap.size false) => Lib.hid (putH p hok.1 hok.2 w.heap.size false U hU)
      have HOK := Lib.hid hok
      clear hp hok
      go_wp2_with fail
      refine (HP _ hfb.out).out.mono ?_
      rintro e w2 ⟨a2, n2, c2, x, rfl, ho2, hx2, hB2, hk2⟩
      have hxl := he_len p x hx2
      have hxn := ho2.vw.len
      have hs2 := hk2.size
      have ho' : O8 w2 (w.heap.size + 1) oa on oc (flatE es) := ho.out.kp hk2 (Nat.le_refl _) (by omega)
      have hv2 := ho2.vw
      have hkw : Kp w.heap.size w.heap.size w w2 := (Kp.of_below hbr.out).trans (hk2.mono hbr.out.size)
      have hbw2 : Below w.heap.size w w2 := hkw.below (Nat.le_refl _) (Nat.le_refl _)
      have HX2 := Lib.hid hx2
      have HO' := Lib.hid ho'
      have HV2 := Lib.hid hv2
      have HB2 := Lib.hid hB2
      have HBW2 := Lib.hid hbw2
      clear ho2 hx2 hk2 hkw ho' hv2 hB2 hbw2
      go_wp2_with (at_builtin; refine app8 (by rfl) _ _ (by rfl) (w.heap.size + 1) oa on oc (flatE es) (by rfl) HO'.out a2 n2 c2 x (by rfl) HV2.out (by omega) (by have := HB2.out.lt; omega) ?_; intro a6 c6 w6 ho6 hg6)
      have hb6 := below_of_grown (B := w.heap.size + 1) hg6 (by have := HB2.out.lt; omega) HO'.out.ge
      have HB6 := Lib.hid hb6
      have HO6 := Lib.hid ho6
      clear hb6 ho6 hg6
      go_roundw
      case rel => exact ⟨j + 1, by omega, by go_num, a6, on + n2, c6, es ++ [x], rfl, Lib.hid (by rw [flatE_app1]; exact HO6.out), Lib.hid ⟨by simp [hes.out.1], by have := hes.out.2.1; omega, fun i h1 h2 => by
        by_cases e : i < es.length
        · rw [List.getElem_append_left e]; exact hes.out.2.2 i h1 e
        · have hi : i = j := by simp at h2; have := hes.out.1; omega
          subst hi
          have e2 : (es ++ [x])[i] = x := by rw [List.getElem_append_right (by have := hes.out.1; omega)]; simp
          rw [e2, ← HPP.out]; exact HX2.out⟩, Lib.hid (HB2.out.below HB6.out (by omega)), Lib.hid (HBW2.out.trans (HB6.out.mono (by omega)))⟩
      case measure => simp [intOf]; omega
    · have hli : ¬ (j : Int) < m := by omega
      obtain rfl : j = m := by omega
      go_wp2_with fail
      go_ret
      exact ⟨oa, on, oc, es, rfl, ho.out.vw, by rw [hes.out.1]; exact HM.out, hes.out.2.2, by rw [← HM.out]; exact hes.out.2.1, hbr.out⟩
end Go.Proofs.YtfaangichifbgaaDoor
