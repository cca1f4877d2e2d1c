/- spec's reader of JSON: eat, word. -/
import Derived.Test.YtokjgloefafdpaaDoorJson0
import Derived.Laws.DeepStrings4
namespace Go.Proofs.YtokjgloefafdpaaDoor
open Go.RowKit
set_option linter.unusedVariables false
set_option linter.unusedSimpArgs false

theorem drewN2 (w : World) (a : Nat) : ∀ b, (w.drewN a).drewN b = w.drewN (a + b)
  | 0 => rfl
  | b + 1 => by
    have := drewN2 w a b
    first | rfl | (simp [World.drewN]; omega) | (show ((w.drewN a).drewN b).drew = _; rw [this]; rfl)

set_option maxRecDepth 100000 in
set_option maxHeartbeats 4000000 in
theorem eat_yes (J : Nat) (s : ByteArray) (i : Nat) (b : UInt8) (x : Int) (hx : x = (b.toNat : Int)) (w : World) (hJ : JT w J s i) (hb : Bt s i b) (hn : b.toNat ≠ 32 ∧ b.toNat ≠ 10 ∧ b.toNat ≠ 13 ∧ b.toNat ≠ 9) (hs : s.size ≤ 1000000) :
    Calls Tryd.prog 62 #[.pointer (some ⟨J, 0, none⟩), .int .u8 x] w fun e w' => e = .returned (.bool true) ∧ JT w' J s (i + 1) ∧ w.grownBy w' (some J) := by
  have HB := Lib.hid (blank_no J s i b w hJ hb hn hs)
  have hix := hb.index
  have hlt := hb.lt
  have hli : (i : Int) < s.size := by omega
  rw [← hx] at hix
  have HJ := Lib.hid hJ
  have hxx : (x == x) = true := by simp
  clear hx hb hn hJ
  go_enter Tryd.func62, Tryd.ntmps62
  go_wp2_with fail
  refine HB.out.mono ?_
  rintro e w1 ⟨rfl, q, rfl⟩
  have hJ1 := HJ.out.drewN q
  have q0 : (w.drewN q).cell? ⟨J, 0, none⟩ = some (.string s) := hJ1.cell rfl
  have q1 : (w.drewN q).cell? ⟨J, 1, none⟩ = some (.int .i64 i) := hJ1.cell rfl
  have HG := Lib.hid (jg_drewN w q J)
  have HJ1 := Lib.hid hJ1
  generalize w.drewN q = w2 at *
  clear hJ1
  go_wp2_with fail
  go_quiet (fail)
  have hJ2 := HJ1.out.drewN nq
  have q2 : (w2.drewN nq).cell? ⟨J, 1, none⟩ = some (.int .i64 i) := hJ2.cell rfl
  have f2 : (w2.drewN nq).frozen? ⟨J, 1, none⟩ = false := Blk.frozen hJ2 1
  have HG2 := Lib.hid (jg_trans HG.out (jg_drewN w2 nq J))
  have HJ2 := Lib.hid hJ2
  generalize w2.drewN nq = w3 at *
  clear hJ2
  go_wp2_with fail
  go_ret
  exact ⟨rfl, HJ2.out.adv _ _ (by omega), jg_trans HG2.out (jg_set _ _ _ _)⟩

set_option maxRecDepth 100000 in
set_option maxHeartbeats 4000000 in
theorem eat_no (J : Nat) (s : ByteArray) (i : Nat) (b : UInt8) (x : Int) (hx : x ≠ (b.toNat : Int)) (w : World) (hJ : JT w J s i) (hb : Bt s i b) (hn : b.toNat ≠ 32 ∧ b.toNat ≠ 10 ∧ b.toNat ≠ 13 ∧ b.toNat ≠ 9) (hs : s.size ≤ 1000000) :
    Calls Tryd.prog 62 #[.pointer (some ⟨J, 0, none⟩), .int .u8 x] w fun e w' => e = .returned (.bool false) ∧ ∃ q, w' = w.drewN q := by
  have HB := Lib.hid (blank_no J s i b w hJ hb hn hs)
  have hix := hb.index
  have hlt := hb.lt
  have hli : (i : Int) < s.size := by omega
  obtain ⟨v, hv⟩ : ∃ v : Int, v = (b.toNat : Int) := ⟨_, rfl⟩
  rw [← hv] at hix hx
  have HJ := Lib.hid hJ
  have hxx : (v == x) = false := by simpa using fun e => hx e.symm
  clear hx hv hb hn hJ
  go_enter Tryd.func62, Tryd.ntmps62
  go_wp2_with fail
  refine HB.out.mono ?_
  rintro e w1 ⟨rfl, q, rfl⟩
  have hJ1 := HJ.out.drewN q
  have q0 : (w.drewN q).cell? ⟨J, 0, none⟩ = some (.string s) := hJ1.cell rfl
  have q1 : (w.drewN q).cell? ⟨J, 1, none⟩ = some (.int .i64 i) := hJ1.cell rfl
  have HW := Lib.hid (show ∃ q', w.drewN q = w.drewN q' from ⟨q, rfl⟩)
  clear hJ1
  generalize w.drewN q = w2 at *
  go_wp2_with fail
  go_quiet (fail)
  go_wp2_with fail
  go_ret
  obtain ⟨q', hq⟩ := HW.out
  exact ⟨rfl, q' + nq, by rw [hq]; exact drewN2 w q' nq⟩

theorem sub_ne {s t : ByteArray} {i : Nat} {b c : UInt8} (hb : Bt s i b) (ht : Bt t 0 c) (hne : b ≠ c) : s.extract i (i + t.size) ≠ t := by
  intro e
  have h1 : (s.extract i (i + t.size)).data[0]? = some c := by rw [e]; exact ht
  rw [ByteArray.data_extract] at h1
  rw [Array.getElem?_extract] at h1
  split at h1
  · rw [Nat.add_zero] at h1
    unfold Bt at hb
    rw [hb] at h1
    injection h1 with h1
    exact hne h1
  · cases h1
theorem sub_run (s : ByteArray) (i k : Nat) (h : i + k ≤ s.size) (w : World) : (Instr.slice 9 (.string s) (some (.int .i64 (i : Int))) (some (.int .i64 ((i : Int) + (k : Int)))) none).run Tryd.prog w = .ok (.string (s.extract i (i + k))) w := by
  rw [run_slice_string_if w 9 s .i64 .i64 _ _ Tryd.underlying9, if_pos ⟨by omega, by omega⟩, if_pos ⟨by omega, by omega⟩]
  have e1 : ((i : Int)).toNat = i := by omega
  have e2 : ((i : Int) + (k : Int)).toNat = i + k := by omega
  rw [e1, e2]

set_option maxRecDepth 100000 in
set_option maxHeartbeats 4000000 in
theorem word_no (t : ByteArray) (c : UInt8) (ht : Bt t 0 c) (J : Nat) (s : ByteArray) (i : Nat) (b : UInt8) (w : World) (hJ : JT w J s i) (hb : Bt s i b) (hne : b ≠ c) (hs : s.size ≤ 1000000) (hts : t.size ≤ 100) :
    Calls Tryd.prog 39 #[.pointer (some ⟨J, 0, none⟩), .string t] w fun e w' => e = .returned (.bool false) ∧ ∃ q, w' = w.drewN q := by
  have hlt := hb.lt
  have q0 : w.cell? ⟨J, 0, none⟩ = some (.string s) := hJ.cell rfl
  have q1 : w.cell? ⟨J, 1, none⟩ = some (.int .i64 i) := hJ.cell rfl
  by_cases hf : i + t.size ≤ s.size
  · have h1 : ((t.size : Int) ≤ (s.size : Int) - i) := by omega
    have h1' : ¬ ((s.size : Int) - i < t.size) := by omega
    have hsl := sub_run s i t.size hf
    obtain ⟨sub, hsub⟩ : ∃ sub, sub = s.extract i (i + t.size) := ⟨_, rfl⟩
    have hne2 := sub_ne hb ht hne
    rw [← hsub] at hsl hne2
    have hcmp : (sub.toList == t.toList) = false := by
      simp only [beq_eq_false_iff_ne, ne_eq]
      intro e
      rw [ByteArray.toList_eq, ByteArray.toList_eq] at e
      exact hne2 (by cases sub; cases t; simpa using e)
    clear hb ht hne hJ hsub hne2
    go_enter Tryd.func39, Tryd.ntmps39
    go_wp2_with fail
    go_quiet (fail)
    go_wp2_with fail
    go_ret
    exact ⟨rfl, _, rfl⟩
  · obtain ⟨d, hd⟩ : ∃ d : Nat, (s.size : Int) - (i : Int) = d := ⟨s.size - i, by omega⟩
    have hwr : IntKind.i64.wrap ((s.size : Int) - (i : Int)) = (d : Int) := by rw [IntKind.wrap_i64]; omega
    have hnd : ((t.size : Int) ≤ (d : Int)) = False := by simp; omega
    clear hb ht hne hJ hf hd
    go_enter Tryd.func39, Tryd.ntmps39
    go_wp2_with fail
    go_quiet (fail)
    go_wp2_with fail
    go_ret
    exact ⟨rfl, _, rfl⟩

set_option maxRecDepth 100000 in
set_option maxHeartbeats 4000000 in
theorem word_yes (t : ByteArray) (J : Nat) (s : ByteArray) (i : Nat) (w : World) (hJ : JT w J s i) (hf : i + t.size ≤ s.size) (he : s.extract i (i + t.size) = t) (hs : s.size ≤ 1000000) :
    Calls Tryd.prog 39 #[.pointer (some ⟨J, 0, none⟩), .string t] w fun e w' => e = .returned (.bool true) ∧ JT w' J s (i + t.size) ∧ w.grownBy w' (some J) := by
  have q0 : w.cell? ⟨J, 0, none⟩ = some (.string s) := hJ.cell rfl
  have q1 : w.cell? ⟨J, 1, none⟩ = some (.int .i64 i) := hJ.cell rfl
  have h1 : ((t.size : Int) ≤ (s.size : Int) - i) := by omega
  have hsl := sub_run s i t.size hf
  rw [he] at hsl
  have HJ := Lib.hid hJ
  clear he hJ
  go_enter Tryd.func39, Tryd.ntmps39
  go_wp2_with fail
  go_quiet (fail)
  have hJ2 := HJ.out.drewN nq
  have q2 : (w.drewN nq).cell? ⟨J, 1, none⟩ = some (.int .i64 i) := hJ2.cell rfl
  have f2 : (w.drewN nq).frozen? ⟨J, 1, none⟩ = false := Blk.frozen hJ2 1
  have HG2 := Lib.hid (jg_drewN w nq J)
  have HJ2 := Lib.hid hJ2
  generalize w.drewN nq = w3 at *
  clear hJ2
  go_wp2_with fail
  go_ret
  exact ⟨rfl, HJ2.out.adv _ _ (by omega), jg_trans HG2.out (jg_set _ _ _ _)⟩
end Go.Proofs.YtokjgloefafdpaaDoor
