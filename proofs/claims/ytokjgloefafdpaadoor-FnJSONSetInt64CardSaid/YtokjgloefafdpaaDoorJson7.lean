/- spec's reader of JSON: negative numbers; any int64 as a token. -/
import Derived.Test.YtokjgloefafdpaaDoorJson6
namespace Go.Proofs.YtokjgloefafdpaaDoor
open Go.RowKit Go.Lib
set_option linter.unusedVariables false
set_option linter.unusedSimpArgs false

theorem sub_eq1 {s : ByteArray} {i : Nat} {b : UInt8} (h : Bt s i b) : s.extract i (i + 1) = { data := #[b] } := by
  have hlt := h.lt
  have hb := (Array.getElem?_eq_some_iff.1 h).2
  have hlt' : i < s.data.size := hlt
  apply ByteArray.ext
  rw [ByteArray.data_extract]
  apply Array.ext
  · simp; omega
  · intro k h1 h2
    have hk : k = 0 := by simp at h2; omega
    subst hk
    simp only [Array.getElem_extract, Nat.add_zero]
    simpa using hb

set_option maxRecDepth 100000 in
set_option maxHeartbeats 2000000 in
theorem number_neg (u : Nat) (hu : u ≤ 9223372036854775808) (J : Nat) (s : ByteArray) (i : Nat) (c : UInt8) (w : World) (hJ : JT w J s i) (hm : Bt s i 45) (num : Int) (hnum : IntKind.u64.wrap (-(u : Int)) = num) (hd : Bts s (i + 1) (decDigits u)) (hc : Bt s (i + 1 + (decDigits u).length) c) (hcn : c.toNat < 48 ∨ 57 < c.toNat) (hs : s.size ≤ 1000000) :
    Calls Tryd.prog 42 #[.pointer (some ⟨J, 0, none⟩)] w fun e w' => e = .returned (pkN 2 num) ∧ JT w' J s (i + 1 + (decDigits u).length) ∧ w.grownBy w' (some J) := by
  have hJl := Blk.lt hJ
  obtain ⟨n, hn⟩ : ∃ n, n = (decDigits u).length := ⟨_, rfl⟩
  have hpos := dec_pos u
  have hlen := dec_len u (by omega)
  rw [← hn] at hc hpos hlen ⊢
  have hlt := hc.lt
  obtain ⟨f, hf⟩ : ∃ f, f = i + 1 := ⟨_, rfl⟩
  rw [← hf] at hd hc hlt ⊢
  have HD := Lib.hid hd
  have HC := Lib.hid hc
  have HN := Lib.hid hn
  have HF := Lib.hid hf
  have hex : s.extract i (i + dash.size) = dash := sub_eq1 hm
  have hu63 : ¬ ((9223372036854775808 : Int) < (u : Int)) := by omega
  have HWD := Lib.hid (word_yes dash J s i (w.alloc (.cells pz 29)) (Blk.alloc hJ _) (by have : dash.size = 1 := rfl; omega) hex hs)
  have HJ := Lib.hid hJ
  clear hd hc hn hJ hf
  go_enter Tryd.func42, Tryd.ntmps42
  go_wp2_with fail
  refine HWD.out.mono ?_
  rintro e w1 ⟨rfl, hJ1, hg1⟩
  have hP1 : Blk w1 w.heap.size 29 pz := by
    unfold Blk
    rw [hg1.block w.heap.size (by simp) (fun e => by injection e; omega)]
    exact Blk.new w _ _
  have hg1 : w.grownBy w1 (some J) := jg_trans (World.grownBy_alloc w _ _) hg1
  have hJ1 : JT w1 J s f := by rw [HF.out]; exact hJ1
  have q1 : w1.cell? ⟨J, 1, none⟩ = some (.int .i64 f) := hJ1.cell rfl
  have HJ1 := Lib.hid hJ1
  have HP1 := Lib.hid hP1
  have HG1 := Lib.hid hg1
  clear hJ1 hP1 hg1
  go_wp2_with fail
  clear HWD
  go_loopw [5] (fun v wr => ∃ k : Nat, k ≤ n ∧ v = .int .u64 (dval ((decDigits u).take k) : Nat) ∧ Hid (JT wr J s (f + k)) ∧ Hid (Blk wr w.heap.size 29 pz) ∧ Hid (w.grownBy wr (some J))) (fun _ wr => f + n - posOf wr J)
  case atStart => exact ⟨0, Nat.zero_le _, rfl, HJ1, HP1, HG1⟩
  case round =>
    obtain ⟨k, hk, rfl, hJk, hPk, hGk⟩ := hrel
    obtain ⟨p, hp⟩ : ∃ p, p = f + k := ⟨_, rfl⟩
    have hJp := hJk.out
    rw [← hp] at hJp
    have q0 : wr.cell? ⟨J, 0, none⟩ = some (.string s) := Blk.cell hJp rfl
    have q1 : wr.cell? ⟨J, 1, none⟩ = some (.int .i64 (p : Int)) := Blk.cell hJp rfl
    have HJP := Lib.hid hJp
    have hpl : p ≤ f + n := by omega
    have HP := Lib.hid hp
    clear hJp
    by_cases hlk : k < n
    · have hkd : k < (decDigits u).length := by have := HN.out; omega
      have hb := HD.out k _ (List.getElem?_eq_getElem hkd)
      rw [← hp] at hb
      obtain ⟨v, hv⟩ : ∃ v : Int, v = ((decDigits u)[k].toNat : Int) := ⟨_, rfl⟩
      have hix := hb.index
      rw [← hv] at hix
      have hdg := dec_digit u _ (List.getElem_mem hkd)
      have h48 : 48 ≤ v := by omega
      have h57 : v ≤ 57 := by omega
      have hnx := dval_next u k hkd
      have hle := dval_lt u (k + 1)
      obtain ⟨U, hU⟩ : ∃ U : Nat, U = dval ((decDigits u).take k) := ⟨_, rfl⟩
      rw [← hU] at hnx ⊢
      obtain ⟨D, hD⟩ : ∃ D : Int, D = v - 48 := ⟨_, rfl⟩
      have hD0 : 0 ≤ D := by omega
      have hD9 : D ≤ 9 := by omega
      have hlt2 : (p : Int) < s.size := by omega
      have hsum : (10 * (U : Int) + D) = ((dval ((decDigits u).take (k + 1)) : Nat) : Int) := by rw [hnx]; omega
      have hsb : 10 * (U : Int) + D < 18446744073709551616 := by omega
      have HSUM := Lib.hid hsum
      clear hv hb hdg hnx hle hU hsum hp
      go_wp2_with fail
      go_quiet (fail)
      have hJ2 := HJP.out.drewN nq
      have hP2 := Blk.drewN hPk.out nq
      have hG2 := jg_trans hGk.out (jg_drewN wr nq J)
      generalize wr.drewN nq = w2 at *
      have r0 : w2.cell? ⟨J, 0, none⟩ = some (.string s) := Blk.cell hJ2 rfl
      have r1 : w2.cell? ⟨J, 1, none⟩ = some (.int .i64 (p : Int)) := Blk.cell hJ2 rfl
      have HJ2 := Lib.hid hJ2
      have HP2 := Lib.hid hP2
      have HG2 := Lib.hid hG2
      clear hJ2 hP2 hG2 q0 q1
      go_wp2_with fail
      go_quiet (fail)
      rw [← hD]
      have hJ3 := HJ2.out.drewN nq
      have hP3 := Blk.drewN HP2.out nq
      have hG3 := jg_trans HG2.out (jg_drewN w2 nq J)
      generalize w2.drewN nq = w3 at *
      have s1 : w3.cell? ⟨J, 1, none⟩ = some (.int .i64 (p : Int)) := Blk.cell hJ3 rfl
      have f1 : w3.frozen? ⟨J, 1, none⟩ = false := Blk.frozen hJ3 1
      have HJ3 := Lib.hid hJ3
      have HP3 := Lib.hid hP3
      have HG3 := Lib.hid hG3
      clear hJ3 hP3 hG3 r0 r1 hix h48 h57 hD
      go_wp2_with fail
      have hJ4 : JT (w3.setCell ⟨J, 1, none⟩ (.int .i64 ((p : Int) + 1))) J s (f + (k + 1)) := HJ3.out.adv _ _ (by have := HP.out; omega)
      have hP4 := Blk.other HP3.out (p := ⟨J, 1, none⟩) (by simp; omega) (.int .i64 ((p : Int) + 1))
      have hG4 := jg_trans HG3.out (jg_set w3 J 1 (.int .i64 ((p : Int) + 1)))
      have HJ4 := Lib.hid hJ4
      have HP4 := Lib.hid hP4
      have HG4 := Lib.hid hG4
      clear hJ4 hP4 hG4
      go_roundw
      case rel => exact ⟨k + 1, by omega, congrArg (Value.int .u64) HSUM.out, HJ4, HP4, HG4⟩
      case measure => rw [HJ4.out.pos, hJk.out.pos]; omega
    · obtain rfl : k = n := by omega
      have hU : dval ((decDigits u).take k) = u := by rw [List.take_of_length_le (by have := HN.out; omega), dval_dec]
      rw [hU]
      have hb := HC.out
      rw [← hp] at hb
      obtain ⟨v, hv⟩ : ∃ v : Int, v = (c.toNat : Int) := ⟨_, rfl⟩
      have hix := hb.index
      rw [← hv] at hix
      have hcv : v < 48 ∨ 57 < v := by omega
      have hlt2 : (p : Int) < s.size := by omega
      clear hU hb hv
      have hfz : (p : Int) - (f : Int) = (k : Int) := by omega
      have hpf : ((p : Int) == (f : Int)) = false := by simp; omega
      have hkk : IntKind.i64.wrap ((p : Int) - (f : Int)) = (k : Int) := by rw [hfz, IntKind.wrap_i64]; omega
      have HFZ := Lib.hid hfz
      clear hfz hp
      have fin : ∀ (q : Nat), JT (wr.drewN q) J s p ∧ Blk (wr.drewN q) w.heap.size 29 pz ∧ w.grownBy (wr.drewN q) (some J) := fun q => ⟨HJP.out.drewN q, Blk.drewN hPk.out q, jg_trans hGk.out (jg_drewN wr q J)⟩
      have FIN := Lib.hid fin
      clear fin
      rcases hcv with hc1 | hc1
      · have h48 : decide (48 ≤ v) = false := by simp; omega
        have h48' : ¬ (48 ≤ v) := by omega
        clear hc1
        go_wp2_with fail
        go_quiet (fail)
        obtain ⟨hJ2, hP2, hG2⟩ := FIN.out nq
        clear FIN
        generalize wr.drewN nq = w2 at *
        have r0 : w2.cell? ⟨J, 0, none⟩ = some (.string s) := Blk.cell hJ2 rfl
        have r1 : w2.cell? ⟨J, 1, none⟩ = some (.int .i64 (p : Int)) := Blk.cell hJ2 rfl
        have HJ2 := Lib.hid hJ2
        have HP2 := Lib.hid hP2
        have HG2 := Lib.hid hG2
        clear hJ2 hP2 hG2 q0 q1 hix
        have hb0 : Bt s f ((decDigits u).getD 0 0) := by
          have := HD.out 0 ((decDigits u).getD 0 0) (by have := HN.out; simp [List.getD, List.getElem?_eq_getElem (show 0 < (decDigits u).length by omega)])
          exact this
        have hix0 := hb0.index
        obtain ⟨z, hz⟩ : ∃ z : Int, z = (((decDigits u).getD 0 0).toNat : Int) := ⟨_, rfl⟩
        rw [← hz] at hix0
        by_cases hk1 : k = 1
        · have hgt : (1 < (k : Int)) = False := by simp; omega
          clear hz hb0
          go_wp2_with (refine wpList_store_row (by rfl) 29 _ _ (by rfl) w.heap.size _ (by rfl) (by rfl) _ _ HP2.out (by kernel_rfl) (by rfl) (by simp [Value.oneCell', pz]) ?_)
          refine bodyPost_ret (results_cJ rfl _ _ w.heap.size 29 _ _ rfl (HP2.out.row _) Tryd.underlying29 rfl (by kernel_rfl)) rfl ⟨rfl, ?_, ?_⟩
          · rw [← HP.out]; exact jt_row HJ2.out (by omega) _
          · exact jg_row HG2.out (Nat.le_refl _) _
        · have hgt : 1 < (k : Int) := by omega
          have hz48 : (z == 48) = false := by
            have := dec_head1 u (by have := HN.out; omega)
            simp; omega
          clear hz hb0
          go_wp2_with (refine wpList_store_row (by rfl) 29 _ _ (by rfl) w.heap.size _ (by rfl) (by rfl) _ _ HP2.out (by kernel_rfl) (by rfl) (by simp [Value.oneCell', pz]) ?_)
          refine bodyPost_ret (results_cJ rfl _ _ w.heap.size 29 _ _ rfl (HP2.out.row _) Tryd.underlying29 rfl (by kernel_rfl)) rfl ⟨rfl, ?_, ?_⟩
          · rw [← HP.out]; exact jt_row HJ2.out (by omega) _
          · exact jg_row HG2.out (Nat.le_refl _) _
      · have h48 : 48 ≤ v := by omega
        have h57 : decide (v ≤ 57) = false := by simp; omega
        have h57' : ¬ (v ≤ 57) := by omega
        clear hc1
        go_wp2_with fail
        go_quiet (fail)
        obtain ⟨hJ2, hP2, hG2⟩ := FIN.out nq
        clear FIN
        generalize wr.drewN nq = w2 at *
        have r0 : w2.cell? ⟨J, 0, none⟩ = some (.string s) := Blk.cell hJ2 rfl
        have r1 : w2.cell? ⟨J, 1, none⟩ = some (.int .i64 (p : Int)) := Blk.cell hJ2 rfl
        have HJ2 := Lib.hid hJ2
        have HP2 := Lib.hid hP2
        have HG2 := Lib.hid hG2
        clear hJ2 hP2 hG2 q0 q1 hix
        have hb0 : Bt s f ((decDigits u).getD 0 0) := by
          have := HD.out 0 ((decDigits u).getD 0 0) (by have := HN.out; simp [List.getD, List.getElem?_eq_getElem (show 0 < (decDigits u).length by omega)])
          exact this
        have hix0 := hb0.index
        obtain ⟨z, hz⟩ : ∃ z : Int, z = (((decDigits u).getD 0 0).toNat : Int) := ⟨_, rfl⟩
        rw [← hz] at hix0
        by_cases hk1 : k = 1
        · have hgt : (1 < (k : Int)) = False := by simp; omega
          clear hz hb0
          go_wp2_with (refine wpList_store_row (by rfl) 29 _ _ (by rfl) w.heap.size _ (by rfl) (by rfl) _ _ HP2.out (by kernel_rfl) (by rfl) (by simp [Value.oneCell', pz]) ?_)
          refine bodyPost_ret (results_cJ rfl _ _ w.heap.size 29 _ _ rfl (HP2.out.row _) Tryd.underlying29 rfl (by kernel_rfl)) rfl ⟨rfl, ?_, ?_⟩
          · rw [← HP.out]; exact jt_row HJ2.out (by omega) _
          · exact jg_row HG2.out (Nat.le_refl _) _
        · have hgt : 1 < (k : Int) := by omega
          have hz48 : (z == 48) = false := by
            have := dec_head1 u (by have := HN.out; omega)
            simp; omega
          clear hz hb0
          go_wp2_with (refine wpList_store_row (by rfl) 29 _ _ (by rfl) w.heap.size _ (by rfl) (by rfl) _ _ HP2.out (by kernel_rfl) (by rfl) (by simp [Value.oneCell', pz]) ?_)
          refine bodyPost_ret (results_cJ rfl _ _ w.heap.size 29 _ _ rfl (HP2.out.row _) Tryd.underlying29 rfl (by kernel_rfl)) rfl ⟨rfl, ?_, ?_⟩
          · rw [← HP.out]; exact jt_row HJ2.out (by omega) _
          · exact jg_row HG2.out (Nat.le_refl _) _

theorem tok_int (x : Int) (h0 : -9223372036854775808 ≤ x) (h1 : x ≤ 9223372036854775807) : Tok (itoa x) (if 0 ≤ x then 3 else 2, x % 18446744073709551616) := by
  by_cases p : 0 ≤ x
  · rw [if_pos p]
    have e : itoa x = decDigits x.toNat := by unfold itoa; rw [if_neg (by omega)]
    have e2 : x % 18446744073709551616 = (x.toNat : Int) := by omega
    rw [e, e2]
    exact tok_dec x.toNat (by omega)
  · rw [if_neg p]
    have e : itoa x = 45 :: decDigits x.natAbs := by unfold itoa; rw [if_pos (by omega)]
    rw [e]
    intro s p c hs hd hc hcc
    have hl : (45 :: decDigits x.natAbs).length = (decDigits x.natAbs).length + 1 := rfl
    rw [hl] at hc ⊢
    have e3 : p + ((decDigits x.natAbs).length + 1) = p + 1 + (decDigits x.natAbs).length := by omega
    refine ⟨fun J w hJ => ?_, 45, hd.head, .inl rfl⟩
    rw [e3] at hc ⊢
    exact number_neg x.natAbs (by omega) J s p c w hJ hd.head _ (by rw [IntKind.wrap_u64]; omega) hd.tail hc (by rcases hcc with rfl | rfl <;> decide) hs
end Go.Proofs.YtokjgloefafdpaaDoor
