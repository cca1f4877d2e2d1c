/- spec's reader of JSON: number. -/
import Derived.Test.YtokjgloefafdpaaDoorJson1
namespace Go.Proofs.YtokjgloefafdpaaDoor
open Go.RowKit Go.Lib
set_option linter.unusedVariables false
set_option linter.unusedSimpArgs false

def dash : ByteArray := { data := #[45] }
theorem dash_bt : Bt dash 0 45 := rfl
def pz : Array Value := #[.int .i64 0, .int .u64 0, .string ⟨#[]⟩, .int .i64 0, .slice none 0 0]
/-- A value without values in it. -/
def pkN (k num : Int) : Value := .agg #[.int .i64 k, .int .u64 num, .string ⟨#[]⟩, .int .i64 0, .slice none 0 0]
theorem results_cJ {P : Program} {fn : Func} {p : Tmp} {ty : TypeId} (h : fn.results = #[.cell p ty]) (tmps : Array Value) (w : World) (g : Nat) (t : TypeId) (cs : Array Value) (d : TypeDesc)
    (hp : tmps.getD p undef = .pointer (some ⟨g, 0, none⟩)) (hg : Blk w g t cs)
    (hu : P.underlying ty = some d) (hd : (match d with | .struct _ | .array _ _ => true | _ => false) = true) (hi : (P.info? ty).map (·.size) = some cs.size) :
    (results fn tmps).run P w = .ok (.agg cs) w := by
  have hp' : tmps[p]?.getD undef = .pointer (some ⟨g, 0, none⟩) := by simpa using hp
  simp [results, h, hp', asAddr, run_loadVar_row w g t ty cs (0, 0) d hg hu hd hi]
theorem jt_row {w : World} {J g : Nat} {s : ByteArray} {i : Nat} (h : JT w J s i) (hg : J < g) (cs : Array Value) : JT (w.setRow g cs) J s i := by
  unfold JT Blk
  rw [setRow_other w g J cs (by omega)]
  exact h
theorem jg_row {a w : World} {J g : Nat} (h : a.grownBy w (some J)) (hg : a.heap.size ≤ g) (cs : Array Value) : a.grownBy (w.setRow g cs) (some J) :=
  ⟨h.os, h.tape, h.output, by have := h.size; simpa [World.setRow] using this, fun k hk hne => by rw [setRow_other w g k cs (by omega)]; exact h.block k hk hne⟩
/-- The place, read off the memory. -/
def posOf (w : World) (J : Nat) : Nat := match w.cell? ⟨J, 1, none⟩ with
  | some (.int _ x) => x.toNat
  | _ => 0
theorem JT.pos {w : World} {J : Nat} {s : ByteArray} {i : Nat} (h : JT w J s i) : posOf w J = i := by
  unfold posOf
  rw [show w.cell? ⟨J, 1, none⟩ = some (.int .i64 i) from Blk.cell h rfl]
  simp
/-- These bytes stand from a place on. -/
def Bts (s : ByteArray) (i : Nat) (l : List UInt8) : Prop := ∀ k b, l[k]? = some b → Bt s (i + k) b
theorem dval_lt (u : Nat) (k : Nat) : dval ((decDigits u).take k) ≤ u := by
  have h := dval_app ((decDigits u).take k) ((decDigits u).drop k)
  rw [List.take_append_drop, dval_dec] at h
  exact h
theorem dval_next (u : Nat) (k : Nat) (h : k < (decDigits u).length) : dval ((decDigits u).take (k + 1)) = 10 * dval ((decDigits u).take k) + ((decDigits u)[k].toNat - 48) := by
  rw [List.take_add_one, List.getElem?_eq_getElem h, Option.toList_some, dval_snoc]

set_option maxRecDepth 100000 in
set_option maxHeartbeats 2000000 in
theorem number_pos (u : Nat) (hu : u < 18446744073709551616) (J : Nat) (s : ByteArray) (i : Nat) (c : UInt8) (w : World) (hJ : JT w J s i) (hd : Bts s (i) (decDigits u)) (hc : Bt s (i + (decDigits u).length) c) (hcn : c.toNat < 48 ∨ 57 < c.toNat) (hs : s.size ≤ 1000000) :
    Calls Tryd.prog 42 #[.pointer (some ⟨J, 0, none⟩)] w fun e w' => e = .returned (pkN 3 (u : Int)) ∧ JT w' J s (i + (decDigits u).length) ∧ w.grownBy w' (some J) := by
  have hJl := Blk.lt hJ
  obtain ⟨n, hn⟩ : ∃ n, n = (decDigits u).length := ⟨_, rfl⟩
  have hpos := dec_pos u
  have hlen := dec_len u (by omega)
  rw [← hn] at hc hpos hlen ⊢
  have hlt := hc.lt
  obtain ⟨f, hf⟩ : ∃ f, f = i := ⟨_, rfl⟩
  rw [← hf] at hd hc hlt ⊢
  have HD := Lib.hid hd
  have HC := Lib.hid hc
  have HN := Lib.hid hn
  have HF := Lib.hid hf
  have hb0 : Bt s i ((decDigits u).getD 0 0) := by
    have := hd 0 ((decDigits u).getD 0 0) (by simp [List.getD, List.getElem?_eq_getElem (show 0 < (decDigits u).length by omega)])
    rw [hf] at this
    exact this
  have hne : (decDigits u).getD 0 0 ≠ 45 := by
    intro e
    have := (dec_digit u _ (show (decDigits u).getD 0 0 ∈ decDigits u by simp [List.getD, List.getElem?_eq_getElem (show 0 < (decDigits u).length by omega)])).1
    rw [e] at this
    exact absurd this (by decide)
  have HWD := Lib.hid (word_no dash 45 dash_bt J s i _ (w.alloc (.cells pz 29)) (Blk.alloc hJ _) hb0 hne hs (by decide))
  have HJ := Lib.hid hJ
  clear hd hc hn hJ hf
  go_enter Tryd.func42, Tryd.ntmps42
  go_wp2_with fail
  refine HWD.out.mono ?_
  rintro e w1 ⟨rfl, q, rfl⟩
  have hJ1 : JT ((w.alloc (.cells pz 29)).drewN q) J s f := by rw [HF.out]; exact Blk.drewN (Blk.alloc HJ.out _) q
  have hP1 : Blk ((w.alloc (.cells pz 29)).drewN q) w.heap.size 29 pz := Blk.drewN (Blk.new w _ _) q
  have hg1 : w.grownBy ((w.alloc (.cells pz 29)).drewN q) (some J) := jg_trans (World.grownBy_alloc w _ _) (jg_drewN _ q J)
  have q1 : ((w.alloc (.cells pz 29)).drewN q).cell? ⟨J, 1, none⟩ = some (.int .i64 f) := hJ1.cell rfl
  have HJ1 := Lib.hid hJ1
  have HP1 := Lib.hid hP1
  have HG1 := Lib.hid hg1
  clear hJ1 hP1 hg1
  generalize (w.alloc (.cells pz 29)).drewN q = w1 at *
  go_wp2_with fail
  clear HWD
  go_loopw [5] (fun v wr => ∃ k : Nat, k ≤ n ∧ v = .int .u64 (dval ((decDigits u).take k) : Nat) ∧ Hid (JT wr J s (f + k)) ∧ Hid (Blk wr w.heap.size 29 pz) ∧ Hid (w.grownBy wr (some J))) (fun _ wr => f + n - posOf wr J)
  case atStart => exact ⟨0, Nat.zero_le _, rfl, HJ1, HP1, HG1⟩
  case round =>
    obtain ⟨k, hk, rfl, hJk, hPk, hGk⟩ := hrel
    obtain ⟨p, hp⟩ : ∃ p, p = f + k := ⟨_, rfl⟩
    have hJp := hJk.out
    rw [← hp] at hJp
    have q0 : wr.cell? ⟨J, 0, none⟩ = some (.string s) := Blk.cell hJp rfl
    have q1 : wr.cell? ⟨J, 1, none⟩ = some (.int .i64 (p : Int)) := Blk.cell hJp rfl
    have HJP := Lib.hid hJp
    have hpl : p ≤ f + n := by omega
    have HP := Lib.hid hp
    clear hJp
    by_cases hlk : k < n
    · have hkd : k < (decDigits u).length := by have := HN.out; omega
      have hb := HD.out k _ (List.getElem?_eq_getElem hkd)
      rw [← hp] at hb
      obtain ⟨v, hv⟩ : ∃ v : Int, v = ((decDigits u)[k].toNat : Int) := ⟨_, rfl⟩
      have hix := hb.index
      rw [← hv] at hix
      have hdg := dec_digit u _ (List.getElem_mem hkd)
      have h48 : 48 ≤ v := by omega
      have h57 : v ≤ 57 := by omega
      have hnx := dval_next u k hkd
      have hle := dval_lt u (k + 1)
      obtain ⟨U, hU⟩ : ∃ U : Nat, U = dval ((decDigits u).take k) := ⟨_, rfl⟩
      rw [← hU] at hnx ⊢
      obtain ⟨D, hD⟩ : ∃ D : Int, D = v - 48 := ⟨_, rfl⟩
      have hD0 : 0 ≤ D := by omega
      have hD9 : D ≤ 9 := by omega
      have hlt2 : (p : Int) < s.size := by omega
      have hsum : (10 * (U : Int) + D) = ((dval ((decDigits u).take (k + 1)) : Nat) : Int) := by rw [hnx]; omega
      have hsb : 10 * (U : Int) + D < 18446744073709551616 := by omega
      have HSUM := Lib.hid hsum
      clear hv hb hdg hnx hle hU hsum hp
      go_wp2_with fail
      go_quiet (fail)
      have hJ2 := HJP.out.drewN nq
      have hP2 := Blk.drewN hPk.out nq
      have hG2 := jg_trans hGk.out (jg_drewN wr nq J)
      generalize wr.drewN nq = w2 at *
      have r0 : w2.cell? ⟨J, 0, none⟩ = some (.string s) := Blk.cell hJ2 rfl
      have r1 : w2.cell? ⟨J, 1, none⟩ = some (.int .i64 (p : Int)) := Blk.cell hJ2 rfl
      have HJ2 := Lib.hid hJ2
      have HP2 := Lib.hid hP2
      have HG2 := Lib.hid hG2
      clear hJ2 hP2 hG2 q0 q1
      go_wp2_with fail
      go_quiet (fail)
      rw [← hD]
      have hJ3 := HJ2.out.drewN nq
      have hP3 := Blk.drewN HP2.out nq
      have hG3 := jg_trans HG2.out (jg_drewN w2 nq J)
      generalize w2.drewN nq = w3 at *
      have s1 : w3.cell? ⟨J, 1, none⟩ = some (.int .i64 (p : Int)) := Blk.cell hJ3 rfl
      have f1 : w3.frozen? ⟨J, 1, none⟩ = false := Blk.frozen hJ3 1
      have HJ3 := Lib.hid hJ3
      have HP3 := Lib.hid hP3
      have HG3 := Lib.hid hG3
      clear hJ3 hP3 hG3 r0 r1 hix h48 h57 hD
      go_wp2_with fail
      have hJ4 : JT (w3.setCell ⟨J, 1, none⟩ (.int .i64 ((p : Int) + 1))) J s (f + (k + 1)) := HJ3.out.adv _ _ (by have := HP.out; omega)
      have hP4 := Blk.other HP3.out (p := ⟨J, 1, none⟩) (by simp; omega) (.int .i64 ((p : Int) + 1))
      have hG4 := jg_trans HG3.out (jg_set w3 J 1 (.int .i64 ((p : Int) + 1)))
      have HJ4 := Lib.hid hJ4
      have HP4 := Lib.hid hP4
      have HG4 := Lib.hid hG4
      clear hJ4 hP4 hG4
      go_roundw
      case rel => exact ⟨k + 1, by omega, congrArg (Value.int .u64) HSUM.out, HJ4, HP4, HG4⟩
      case measure => rw [HJ4.out.pos, hJk.out.pos]; omega
    · obtain rfl : k = n := by omega
      have hU : dval ((decDigits u).take k) = u := by rw [List.take_of_length_le (by have := HN.out; omega), dval_dec]
      rw [hU]
      have hb := HC.out
      rw [← hp] at hb
      obtain ⟨v, hv⟩ : ∃ v : Int, v = (c.toNat : Int) := ⟨_, rfl⟩
      have hix := hb.index
      rw [← hv] at hix
      have hcv : v < 48 ∨ 57 < v := by omega
      have hlt2 : (p : Int) < s.size := by omega
      clear hU hb hv
      have hfz : (p : Int) - (f : Int) = (k : Int) := by omega
      have hpf : ((p : Int) == (f : Int)) = false := by simp; omega
      have hkk : IntKind.i64.wrap ((p : Int) - (f : Int)) = (k : Int) := by rw [hfz, IntKind.wrap_i64]; omega
      have HFZ := Lib.hid hfz
      clear hfz hp
      have fin : ∀ (q : Nat), JT (wr.drewN q) J s p ∧ Blk (wr.drewN q) w.heap.size 29 pz ∧ w.grownBy (wr.drewN q) (some J) := fun q => ⟨HJP.out.drewN q, Blk.drewN hPk.out q, jg_trans hGk.out (jg_drewN wr q J)⟩
      have FIN := Lib.hid fin
      clear fin
      rcases hcv with hc1 | hc1
      · have h48 : decide (48 ≤ v) = false := by simp; omega
        have h48' : ¬ (48 ≤ v) := by omega
        clear hc1
        go_wp2_with fail
        go_quiet (fail)
        obtain ⟨hJ2, hP2, hG2⟩ := FIN.out nq
        clear FIN
        generalize wr.drewN nq = w2 at *
        have r0 : w2.cell? ⟨J, 0, none⟩ = some (.string s) := Blk.cell hJ2 rfl
        have r1 : w2.cell? ⟨J, 1, none⟩ = some (.int .i64 (p : Int)) := Blk.cell hJ2 rfl
        have HJ2 := Lib.hid hJ2
        have HP2 := Lib.hid hP2
        have HG2 := Lib.hid hG2
        clear hJ2 hP2 hG2 q0 q1 hix
        have hb0 : Bt s f ((decDigits u).getD 0 0) := by
          have := HD.out 0 ((decDigits u).getD 0 0) (by have := HN.out; simp [List.getD, List.getElem?_eq_getElem (show 0 < (decDigits u).length by omega)])
          exact this
        have hix0 := hb0.index
        obtain ⟨z, hz⟩ : ∃ z : Int, z = (((decDigits u).getD 0 0).toNat : Int) := ⟨_, rfl⟩
        rw [← hz] at hix0
        by_cases hk1 : k = 1
        · have hgt : (1 < (k : Int)) = False := by simp; omega
          clear hz hb0
          go_wp2_with (refine wpList_store_row (by rfl) 29 _ _ (by rfl) w.heap.size _ (by rfl) (by rfl) _ _ HP2.out (by kernel_rfl) (by rfl) (by simp [Value.oneCell', pz]) ?_)
          refine bodyPost_ret (results_cJ rfl _ _ w.heap.size 29 _ _ rfl (HP2.out.row _) Tryd.underlying29 rfl (by kernel_rfl)) rfl ⟨rfl, ?_, ?_⟩
          · rw [← HP.out]; exact jt_row HJ2.out (by omega) _
          · exact jg_row HG2.out (Nat.le_refl _) _
        · have hgt : 1 < (k : Int) := by omega
          have hz48 : (z == 48) = false := by
            have := dec_head1 u (by have := HN.out; omega)
            simp; omega
          clear hz hb0
          go_wp2_with (refine wpList_store_row (by rfl) 29 _ _ (by rfl) w.heap.size _ (by rfl) (by rfl) _ _ HP2.out (by kernel_rfl) (by rfl) (by simp [Value.oneCell', pz]) ?_)
          refine bodyPost_ret (results_cJ rfl _ _ w.heap.size 29 _ _ rfl (HP2.out.row _) Tryd.underlying29 rfl (by kernel_rfl)) rfl ⟨rfl, ?_, ?_⟩
          · rw [← HP.out]; exact jt_row HJ2.out (by omega) _
          · exact jg_row HG2.out (Nat.le_refl _) _
      · have h48 : 48 ≤ v := by omega
        have h57 : decide (v ≤ 57) = false := by simp; omega
        have h57' : ¬ (v ≤ 57) := by omega
        clear hc1
        go_wp2_with fail
        go_quiet (fail)
        obtain ⟨hJ2, hP2, hG2⟩ := FIN.out nq
        clear FIN
        generalize wr.drewN nq = w2 at *
        have r0 : w2.cell? ⟨J, 0, none⟩ = some (.string s) := Blk.cell hJ2 rfl
        have r1 : w2.cell? ⟨J, 1, none⟩ = some (.int .i64 (p : Int)) := Blk.cell hJ2 rfl
        have HJ2 := Lib.hid hJ2
        have HP2 := Lib.hid hP2
        have HG2 := Lib.hid hG2
        clear hJ2 hP2 hG2 q0 q1 hix
        have hb0 : Bt s f ((decDigits u).getD 0 0) := by
          have := HD.out 0 ((decDigits u).getD 0 0) (by have := HN.out; simp [List.getD, List.getElem?_eq_getElem (show 0 < (decDigits u).length by omega)])
          exact this
        have hix0 := hb0.index
        obtain ⟨z, hz⟩ : ∃ z : Int, z = (((decDigits u).getD 0 0).toNat : Int) := ⟨_, rfl⟩
        rw [← hz] at hix0
        by_cases hk1 : k = 1
        · have hgt : (1 < (k : Int)) = False := by simp; omega
          clear hz hb0
          go_wp2_with (refine wpList_store_row (by rfl) 29 _ _ (by rfl) w.heap.size _ (by rfl) (by rfl) _ _ HP2.out (by kernel_rfl) (by rfl) (by simp [Value.oneCell', pz]) ?_)
          refine bodyPost_ret (results_cJ rfl _ _ w.heap.size 29 _ _ rfl (HP2.out.row _) Tryd.underlying29 rfl (by kernel_rfl)) rfl ⟨rfl, ?_, ?_⟩
          · rw [← HP.out]; exact jt_row HJ2.out (by omega) _
          · exact jg_row HG2.out (Nat.le_refl _) _
        · have hgt : 1 < (k : Int) := by omega
          have hz48 : (z == 48) = false := by
            have := dec_head1 u (by have := HN.out; omega)
            simp; omega
          clear hz hb0
          go_wp2_with (refine wpList_store_row (by rfl) 29 _ _ (by rfl) w.heap.size _ (by rfl) (by rfl) _ _ HP2.out (by kernel_rfl) (by rfl) (by simp [Value.oneCell', pz]) ?_)
          refine bodyPost_ret (results_cJ rfl _ _ w.heap.size 29 _ _ rfl (HP2.out.row _) Tryd.underlying29 rfl (by kernel_rfl)) rfl ⟨rfl, ?_, ?_⟩
          · rw [← HP.out]; exact jt_row HJ2.out (by omega) _
          · exact jg_row HG2.out (Nat.le_refl _) _
end Go.Proofs.YtokjgloefafdpaaDoor
