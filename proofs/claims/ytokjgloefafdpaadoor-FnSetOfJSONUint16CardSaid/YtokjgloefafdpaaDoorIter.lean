/- setof's reader of JSON arrays of numbers. -/
import Derived.Test.YtokjgloefafdpaaDoorDigs
import Derived.Test.YtokjgloefafdpaaDoorSetM
import Derived.Test.YtokjgloefafdpaaDoorLays2
import Derived.Lib.AtoiErrMem
namespace Go.Proofs.YtokjgloefafdpaaDoor
open Go.RowKit Go.Maps Go.Lib
set_option linter.unusedVariables false
set_option linter.unusedSimpArgs false

def numsD (l : List UInt8) : List Int := l.map fun b => (b.toNat : Int)
theorem numsD_len (l : List UInt8) : (numsD l).length = l.length := by simp [numsD]
theorem numsD_get (l : List UInt8) (i : Nat) (h : i < l.length) : (numsD l).getD i 0 = (l[i].toNat : Int) := by simp [numsD, List.getD, List.getElem?_eq_getElem h]
theorem strOf_numsD (l : List UInt8) : strOfNums (numsD l) = strD l := by
  unfold strOfNums numsD strD
  congr 2
  rw [List.map_map]
  have : ((fun n : Int => UInt8.ofNat n.toNat) ∘ fun b : UInt8 => (b.toNat : Int)) = id := by funext b; simp
  rw [this, List.map_id]
theorem szD : ∀ w : World, (sizeOf 5).run Tryd.prog w = .ok 1 w := fun w => by kernel_rfl
/-- Some bytes in the midst: s[i:j]. -/
theorem mid_of {w : World} {a : Option Addr} {n c : Nat} {l : List Int} (h : Vw w a n c l) (i j : Nat) (hij : i ≤ j) (hj : j ≤ n) :
    ∃ a', (∀ w', (Instr.slice 34 (.slice a n c) (some (.int .i64 (i : Int))) (some (.int .i64 (j : Int))) none).run Tryd.prog w' = .ok (.slice a' (j - i) (c - i)) w') ∧ Vw w a' (j - i) (c - i) ((l.drop i).take (j - i)) := by
  have hcn := h.cap
  obtain ⟨a', hs, hv⟩ := h.from Tryd.prog 34 5 Tryd.underlying34 szD .i64 (i : Int) i rfl (by omega)
  refine ⟨if c = i then a else a.map (·.add i), fun w' => ?_, ?_⟩
  · have h0 := szD w'
    have h2 := run_sliceBound (P := Tryd.prog) w' .i64 (j : Int) c .sliceAcap (by omega) (by omega)
    have h3 := run_sliceBound (P := Tryd.prog) w' .i64 (i : Int) j .sliceB (by omega) (by omega)
    simp [Instr.slice, Instr.sliceBounds, run_underlying Tryd.underlying34, h0, h2, h3, Sem.run_bind, Result.andThen]
  · have hf := hs w
    have h0 := szD w
    have h1 := run_sliceBound (P := Tryd.prog) w .i64 (i : Int) n .sliceB (by omega) (by omega)
    simp [Instr.slice, Instr.sliceBounds, run_underlying Tryd.underlying34, h1, h0, Sem.run_bind, Result.andThen] at hf
    rw [hf]
    exact hv.take (by omega)

theorem Vw.midA {w : World} {b off n c : Nat} {l : List Int} (h : Vw w (some ⟨b, off, none⟩) n c l) (i j : Nat) (hij : i ≤ j) (hj : j ≤ n) : Vw w (some ⟨b, off + i, none⟩) (j - i) (c - i) ((l.drop i).take (j - i)) := by
  have hcn := h.cap
  have hbg := h.big
  have hln := h.len
  refine ⟨by rw [List.length_take, List.length_drop]; omega, by omega, by omega, fun x hx => h.byt x (List.mem_of_mem_drop (List.mem_of_mem_take hx)), fun e => (by cases e), ?_⟩
  rcases h.cells with h0 | ⟨b2, off2, e2, hc⟩
  · exact .inl (by omega)
  · injection e2 with e2
    injection e2 with e3 e4
    subst e3
    subst e4
    refine .inr ⟨b, off + i, rfl, fun k hk => ?_⟩
    have := hc (i + k) (by omega)
    rw [show off + i + k = off + (i + k) by omega, this]
    simp [List.getD, List.getElem?_take, hk]
/-- No blank. -/
def Nw (v : Int) : Prop := v ≠ 32 ∧ v ≠ 9 ∧ v ≠ 10 ∧ v ≠ 13
set_option maxRecDepth 100000 in
set_option maxHeartbeats 1000000 in
theorem skip_no (a : Option Addr) (n c : Nat) (l : List Int) (w : World) (hv : Vw w a n c l) (i : Nat) (hi : i < n) (hn : Nw (l.getD i 0)) :
    Calls Tryd.prog 69 #[.slice a n c, .int .i64 (i : Int)] w fun e w' => e = .returned (.int .i64 (i : Int)) ∧ w' = w := by
  rcases hv.cells with h0 | ⟨b, off, rfl, hc⟩
  · omega
  have hci := hc i hi
  obtain ⟨v, hvv⟩ : ∃ v, v = l.getD i 0 := ⟨_, rfl⟩
  rw [← hvv] at hci hn
  obtain ⟨n1, n2, n3, n4⟩ := hn
  have e1 : (v == 32) = false := by simpa using n1
  have e2 : (v == 9) = false := by simpa using n2
  have e3 : (v == 10) = false := by simpa using n3
  have e4 : (v == 13) = false := by simpa using n4
  have hli : (i : Int) < n := by omega
  clear hc hvv hv
  go_enter Tryd.func69, Tryd.ntmps69
  go_wp2_with fail
  refine wp_loop_once ?_
  go_wp2_with fail
  go_ret
  exact ⟨rfl, rfl⟩
set_option maxRecDepth 100000 in
set_option maxHeartbeats 1000000 in
theorem skip_one (a : Option Addr) (n c : Nat) (l : List Int) (w : World) (hv : Vw w a n c l) (i : Nat) (hi : i + 1 < n) (h32 : l.getD i 0 = 32) (hn : Nw (l.getD (i + 1) 0)) :
    Calls Tryd.prog 69 #[.slice a n c, .int .i64 (i : Int)] w fun e w' => e = .returned (.int .i64 ((i + 1 : Nat) : Int)) ∧ w' = w := by
  have hcn := hv.cap
  have hcb := hv.big
  rcases hv.cells with h0 | ⟨b, off, rfl, hc⟩
  · omega
  have hci := hc i (by omega)
  rw [h32] at hci
  have hci1 := hc (i + 1) hi
  obtain ⟨v, hvv⟩ : ∃ v, v = l.getD (i + 1) 0 := ⟨_, rfl⟩
  rw [← hvv] at hci1 hn
  obtain ⟨n1, n2, n3, n4⟩ := hn
  have e1 : (v == 32) = false := by simpa using n1
  have e2 : (v == 9) = false := by simpa using n2
  have e3 : (v == 10) = false := by simpa using n3
  have e4 : (v == 13) = false := by simpa using n4
  have HN := Lib.hid hi
  clear hc hvv hv h32 hi
  go_enter Tryd.func69, Tryd.ntmps69
  go_wp2_with fail
  go_loopw [1] (fun p wr => ∃ k : Nat, k ≤ 1 ∧ p = .int .i64 ((i + k : Nat) : Int) ∧ wr = w) (fun p _ => i + 1 - (intOf p).toNat)
  case atStart => exact ⟨0, by omega, rfl, rfl⟩
  case round =>
    obtain ⟨k, hk, rfl, rfl⟩ := hrel
    have hn2 := HN.out
    rcases Nat.lt_or_ge k 1 with h | h
    · obtain rfl : k = 0 := by omega
      have hli : (i : Int) < n := by omega
      simp only [Nat.add_zero]
      go_wp2_with fail
      go_roundw
      case rel => exact ⟨1, by omega, congrArg (Value.int .i64) (by omega), by first | rfl | trivial⟩
      case measure => simp [intOf] <;> omega
    · obtain rfl : k = 1 := by omega
      obtain ⟨p, hp⟩ : ∃ p, p = i + 1 := ⟨_, rfl⟩
      rw [← hp] at hci1 ⊢
      have hci1' : wr.cell? ⟨b, off + p, none⟩ = some (.int .u8 v) := by simpa using hci1
      have hli : (p : Int) < n := by omega
      have HPP := Lib.hid hp
      clear hp hci hci1
      go_wp2_with fail
      go_ret
      exact ⟨by show Ending.returned (Value.int .i64 (p : Int)) = _; rw [HPP.out], rfl⟩

set_option maxHeartbeats 1000000 in
theorem notNull (a : Option Addr) (n c : Nat) (l : List Int) (w : World) (hv : Vw w a n c l) (h : l.getD 0 0 = 91) (h1 : 1 ≤ n) :
    Calls Tryd.prog 47 #[.slice a n c] w fun e w' => e = .returned (.bool false) ∧ w' = w := by
  have hcv := conv_D hv
  have hl := hv.len
  have hne : ((strOfNums l).toList == [110, 117, 108, 108]) = false := by
    simp only [beq_eq_false_iff_ne, ne_eq]
    intro e
    rw [ByteArray.toList_eq] at e
    cases l with
    | nil => simp at h
    | cons x r =>
      simp at h
      subst h
      simp [strOfNums] at e
  obtain ⟨s, hs⟩ : ∃ s, s = strOfNums l := ⟨_, rfl⟩
  rw [← hs] at hcv hne
  clear hs hv
  go_enter Tryd.func47, Tryd.ntmps47
  go_wp2_with fail
  go_ret
  exact ⟨rfl, rfl⟩

theorem below_bytes (w : World) (e : TypeId) (s : ByteArray) : Below w.heap.size w (Lib.bytesWorld w e s) := Lib.bytesWorld_below w e s

/-- What stands from a place on. -/
def Dr (L : List UInt8) (p : Nat) (R : List UInt8) : Prop := p ≤ L.length ∧ L.drop p = R
theorem Dr.len {L R : List UInt8} {p : Nat} (h : Dr L p R) : L.length = p + R.length := by
  have := congrArg List.length h.2
  have h1 := h.1
  rw [List.length_drop] at this; omega
theorem Dr.get {L R : List UInt8} {p : Nat} (h : Dr L p R) (k : Nat) (hk : k < R.length) : p + k < L.length ∧ (numsD L).getD (p + k) 0 = (R[k].toNat : Int) := by
  have hl := h.len
  refine ⟨by omega, ?_⟩
  rw [numsD_get L (p + k) (by omega)]
  have h2 := h.2
  subst h2
  simp
theorem Dr.head {L R : List UInt8} {p : Nat} {c : UInt8} (h : Dr L p (c :: R)) : p < L.length ∧ (numsD L).getD p 0 = (c.toNat : Int) := by
  have := h.get 0 (by simp)
  simpa using this
theorem Dr.app {L A R : List UInt8} {p : Nat} (h : Dr L p (A ++ R)) : Dr L (p + A.length) R := by
  have hl := h.len
  rw [List.length_append] at hl
  refine ⟨by omega, ?_⟩
  rw [← List.drop_drop, h.2]; simp
theorem Dr.tail {L R : List UInt8} {p : Nat} {c : UInt8} (h : Dr L p (c :: R)) : Dr L (p + 1) R := Dr.app (A := [c]) h
theorem Dr.mid {L A R : List UInt8} {p : Nat} (h : Dr L p (A ++ R)) : ((numsD L).drop p).take A.length = numsD A := by
  unfold numsD
  rw [← List.map_drop, h.2, ← List.map_take]; simp
theorem Vw.jgD {w w' : World} {a : Option Addr} {n c M : Nat} {l : List Int} (h : Vw w a n c l) (hg : w.grownBy w' (some M)) (hx : ∀ x, a = some x → x.block ≠ M) : Vw w' a n c l := by
  refine ⟨h.len, h.cap, h.big, h.byt, h.nul, ?_⟩
  rcases h.cells with h0 | ⟨b, off, ha, hc⟩
  · exact .inl h0
  · refine .inr ⟨b, off, ha, fun i hi => ?_⟩
    have := hc i hi
    have hlt := World.block_lt_of_cell? w _ this
    rw [World.cell?_of_block (hg.block b hlt (fun e => by injection e with e; exact hx _ ha e))]
    exact this
theorem blk_jgD {w w' : World} {M g t : Nat} {cs : Array Value} (h : Blk w g t cs) (hg : w.grownBy w' (some M)) (hne : g ≠ M) : Blk w' g t cs := by
  unfold Blk
  rw [hg.block g h.lt (fun e => by injection e with e; exact hne e)]
  exact h
/-- Blanks ahead, none or one, are skipped. -/
theorem skip_any (a : Option Addr) (n c : Nat) (L pre R : List UInt8) (x : UInt8) (w : World) (hv : Vw w a n c (numsD L)) (p : Nat) (hp : pre = [] ∨ pre = [32]) (hD : Dr L p (pre ++ x :: R)) (hx : Nw (x.toNat : Int)) :
    Calls Tryd.prog 69 #[.slice a n c, .int .i64 (p : Int)] w fun e w' => e = .returned (.int .i64 ((p + pre.length : Nat) : Int)) ∧ w' = w := by
  have hn := hv.len
  rw [numsD_len] at hn
  rcases hp with rfl | rfl
  · have h := Dr.head hD
    exact skip_no a n c _ w hv p (by omega) (by rw [h.2]; exact hx)
  · have h1 := Dr.head hD
    have h2 := Dr.head (Dr.tail hD)
    exact skip_one a n c _ w hv p (by omega) (by rw [h1.2]; rfl) (by rw [h2.2]; exact hx)
theorem prB_cases (bl : Bool) : prB bl = [] ∨ prB bl = [32] := by cases bl <;> simp [prB]
theorem dec_cons (u : Nat) : ∃ c r, decDigits u = c :: r ∧ 48 ≤ c.toNat ∧ c.toNat ≤ 57 := by
  have h := dec_pos u
  cases hd : decDigits u with
  | nil => rw [hd] at h; simp at h
  | cons c r => exact ⟨c, r, rfl, dec_digit u c (by rw [hd]; simp)⟩
theorem nw_digit {c : UInt8} (h : 48 ≤ c.toNat) : Nw (c.toNat : Int) := by unfold Nw; omega
theorem fm_cases (bl : Bool) (r : List (List UInt8)) : (r = [] ∧ fmB bl r ++ [93] = [93]) ∨ ∃ u q, r = u :: q ∧ fmB bl r ++ [93] = 44 :: (prB bl ++ (u ++ (fmB bl q ++ [93]))) := by
  cases r with
  | nil => exact .inl ⟨rfl, rfl⟩
  | cons u q => exact .inr ⟨u, q, rfl, by simp [fmB, List.append_assoc]⟩

set_option maxHeartbeats 1000000 in
theorem parse_Uint (u : Nat) (hu : u < 2 ^ 64) (a : Option Addr) (n c : Nat) (w : World) (hv : Vw w a n c (numsD (decDigits u))) :
    Calls Tryd.prog 50 #[.slice a n c, .int .i64 0] w fun e w' => e = .returned (.tuple #[.int .u64 (u : Int), .nilIface]) ∧ Below w.heap.size w w' := by
  have hcv := conv_D hv
  rw [strOf_numsD] at hcv
  have hl20 := dec_len u (by omega)
  obtain ⟨s, hs⟩ : ∃ s, s = strD (decDigits u) := ⟨_, rfl⟩
  rw [← hs] at hcv
  have hpu := fun W => Any.strconv_ParseUint_10_at0_ok Tryd.laysPU s (by rw [hs, strD_size]; omega) u (by rw [hs]; simpa [strD] using parse_dec 64 u (by decide) hu) W
  have HP := Lib.hid hpu
  have hcvt : IntKind.u64.wrap (u : Int) = (u : Int) := by rw [wrap_u64]; omega
  clear hs hpu hv hl20
  go_enter Tryd.func50, Tryd.ntmps50
  go_wp2_with fail
  refine (HP.out _).mono ?_
  rintro e w1 ⟨rfl, hw⟩
  have hb : Below w.heap.size w w1 := by
    rcases hw with rfl | rfl
    · exact Below.refl _ _
    · exact below_bytes _ _ _
  have HB := Lib.hid hb
  clear hw hb
  go_wp2_with fail
  go_ret2
  exact ⟨rfl, HB.out⟩

set_option maxRecDepth 100000 in
set_option maxHeartbeats 1000000 in
theorem clo_Uint (C M : Nat) (ys : List Int) (u : Nat) (hu : u < 2 ^ 64) (a : Option Addr) (n c : Nat) (w : World) (hv : Vw w a n c (numsD (decDigits u))) (hC : Blk w C 79 #[.map (some M)]) (hM : SetM 69 .u64 w M ys) (hy : ys.length ≤ 1000) :
    Calls Tryd.prog 49 #[.slice a n c, .pointer (some ⟨C, 0, none⟩)] w fun e w' => e = .returned .nilIface ∧ SetM 69 .u64 w' M (ys ++ [(u : Int)]) ∧ w.grownBy w' (some M) := by
  have HP := Lib.hid (parse_Uint u hu a n c w hv)
  have hMl := hM.lt
  have hCl := hC.lt
  have HM := Lib.hid hM
  have HC := Lib.hid hC
  have hwx : (Lit.int .u64 (u : Int)).wf = true := by simp [Lit.wf, IntKind.min, IntKind.max, IntKind.bits, IntKind.signed]; omega
  have HWX := Lib.hid hwx
  clear hv hM hC hwx
  go_enter Tryd.func49, Tryd.ntmps49
  go_wp2_with fail
  refine HP.out.mono ?_
  rintro e w1 ⟨rfl, hb1⟩
  have hC1 : w1.cell? ⟨C, 0, none⟩ = some (.map (some M)) := Blk.cell (Blk.below HC.out hb1 hCl) rfl
  have HM1 := Lib.hid (SetM.below HM.out hb1 hMl)
  have HG1 := Lib.hid (show w.grownBy w1 (some M) from ⟨hb1.os, hb1.tape, hb1.output, hb1.size, fun k hk _ => hb1.block k hk⟩)
  clear hb1
  go_wp2_with (at_mapUpdate; refine wpList_mapUpdate_own _ rfl _ _ _ 79 rfl 69 _ (int_keyed Tryd.underlying69) Tryd.underlying79 (unitElem (H := Unit)) M ys.length _ rfl HM1.out (by simp [maxLen]; omega) (.int .u64 (u : Int)) (.agg #[]) (.int .u64 (u : Int)) (by rfl) (by rfl) (keyOf_int_mk Tryd.underlying69 HWX.out) (.agg []) [] unitElem_mk ?_; intro w2 hown2 hg2; go_frame)
  have hs2 : SetM 69 .u64 w2 M (ys ++ [(u : Int)]) := by
    unfold SetM
    rw [dSet_snoc, List.length_append]
    exact hown2
  have HS2 := Lib.hid hs2
  have HG2 := Lib.hid (HG1.out.andThen hg2 (fun j hj => .inr hj))
  clear hown2 hg2 hs2
  go_wp2_with fail
  go_ret
  exact ⟨rfl, HS2.out, HG2.out⟩

set_option maxRecDepth 100000 in
set_option maxHeartbeats 4000000 in
theorem iter_Uint (bl : Bool) (us : List Nat) (hus : ∀ u ∈ us, u < 2 ^ 64) (hm : us.length ≤ 100) (C M : Nat) (a : Option Addr) (n c : Nat) (w : World) (hv : Vw w a n c (numsD (jtB bl (us.map decDigits)))) (hdb : ∀ x, a = some x → x.block ≠ M)
    (hC : Blk w C 79 #[.map (some M)]) (hCM : C ≠ M) (hM : SetM 69 .u64 w M []) (hn9 : n ≤ 1000000) :
    Calls Tryd.prog 48 #[.slice a n c, .func (.func 49) #[] #[.pointer (some ⟨C, 0, none⟩)]] w fun e w' => e = .returned .nilIface ∧ SetM 69 .u64 w' M (us.map fun (u : Nat) => (u : Int)) ∧ w.grownBy w' (some M) := by
  have hcn := hv.cap
  have hcb := hv.big
  have hln := hv.len
  rw [numsD_len] at hln
  obtain ⟨L, hL⟩ : ∃ L, L = jtB bl (us.map decDigits) := ⟨_, rfl⟩
  rw [← hL] at hv hln
  cases us with
  | nil =>
    have e : L = [91, 93] := hL
    subst e
    have hn2 : n = 2 := by simpa using hln.symm
    subst hn2
    have HS0 := Lib.hid (skip_no a 2 c _ w hv 0 (by omega) (by simp [numsD, Nw]))
    have HS1 := Lib.hid (skip_no a 2 c _ w hv 1 (by omega) (by simp [numsD, Nw]))
    rcases hv.cells with h0 | ⟨b, off, rfl, hc⟩
    · omega
    have c0 : w.cell? ⟨b, off, none⟩ = some (.int .u8 91) := hc 0 (by omega)
    have c1 : w.cell? ⟨b, off + 1, none⟩ = some (.int .u8 93) := hc 1 (by omega)
    have HM := Lib.hid hM
    clear hc hv hL hM hC
    go_enter Tryd.func48, Tryd.ntmps48
    go_wp2_with fail
    refine HS0.out.mono ?_
    rintro e w1 ⟨rfl, rfl⟩
    go_wp2_with fail
    refine HS1.out.mono ?_
    rintro e w1 ⟨rfl, rfl⟩
    go_wp2_with fail
    go_ret
    exact ⟨rfl, HM.out, ⟨rfl, rfl, rfl, Nat.le_refl _, fun _ _ _ => rfl⟩⟩
  | cons u0 r0 =>
    obtain ⟨us, hus0⟩ : ∃ us, us = u0 :: r0 := ⟨_, rfl⟩
    rw [← hus0] at hus hm hL ⊢
    obtain ⟨m, hmm⟩ : ∃ m, m = us.length := ⟨_, rfl⟩
    have hm0 : 0 < m := by rw [hmm, hus0]; simp
    rw [← hmm] at hm
    obtain ⟨ch, rh, hdh, hch1, hch2⟩ := dec_cons u0
    have hD0 : Dr L 0 (91 :: (prB bl ++ (decDigits u0 ++ (fmB bl (r0.map decDigits) ++ [93])))) := ⟨Nat.zero_le _, by rw [hL, hus0]; simp [jtB, acB, List.append_assoc]⟩
    have hD1 : Dr L 1 (prB bl ++ (decDigits u0 ++ (fmB bl (r0.map decDigits) ++ [93]))) := hD0.tail
    have hb0 := hD0.head
    have HS0 := Lib.hid (skip_no a n c _ w hv 0 (by omega) (by rw [hb0.2]; simp [Nw]))
    have hD1' := hD1
    rw [hdh, List.cons_append] at hD1'
    have HS1 := Lib.hid (skip_any a n c L (prB bl) _ ch w hv 1 (prB_cases bl) hD1' (nw_digit hch1))
    obtain ⟨p1, hp1⟩ : ∃ p1, p1 = 1 + (prB bl).length := ⟨_, rfl⟩
    have hDp : Dr L p1 (decDigits u0 ++ (fmB bl (r0.map decDigits) ++ [93])) := by rw [hp1]; exact hD1.app
    have hDp' := hDp
    rw [hdh, List.cons_append] at hDp'
    have hbp := hDp'.head
    rw [← hp1] at HS1
    rcases hv.cells with h0 | ⟨b, off, rfl, hc⟩
    · omega
    have c0 : w.cell? ⟨b, off, none⟩ = some (.int .u8 91) := by have := hc 0 (by omega); rw [hb0.2] at this; simpa using this
    obtain ⟨v1, hv1⟩ : ∃ v1 : Int, v1 = (ch.toNat : Int) := ⟨_, rfl⟩
    have c1 : w.cell? ⟨b, off + p1, none⟩ = some (.int .u8 v1) := by have := hc p1 (by omega); rw [hbp.2, ← hv1] at this; exact this
    have e91 : (v1 == 93) = false := by simp; omega
    have hln1 : (0 : Int) < n := by omega
    have hln2 : (p1 : Int) < n := by omega
    have hdr : ∀ j (h : j < us.length), j = 0 → us.drop (j + 1) = r0 ∧ us[j] = u0 := by intro j h e; subst e; subst hus0; exact ⟨rfl, rfl⟩
    have HLE := Lib.hid hln
    have HUS := Lib.hid hus
    have HM := Lib.hid hmm
    have HV := Lib.hid hv
    have HMM := Lib.hid hM
    have HC := Lib.hid hC
    have HDP := Lib.hid hDp
    have HU0 := Lib.hid hus0
    have hbM : b ≠ M := hdb _ rfl
    clear hL hus hmm hD0 hD1 hD1' hDp hDp' hbp hb0 hdh hv hM hC hc hv1 hp1 hus0 hdb hln hdr hch1 hch2
    go_enter Tryd.func48, Tryd.ntmps48
    go_wp2_with fail
    refine HS0.out.mono ?_
    rintro e w1 ⟨rfl, rfl⟩
    go_wp2_with fail
    refine HS1.out.mono ?_
    rintro e w2 ⟨rfl, rfl⟩
    go_wp2_with fail
    go_loopw [5] (fun i wr => ∃ (j p : Nat) (pre : List UInt8), j < m ∧ i = .int .i64 (p : Int) ∧ (pre = [] ∨ pre = [32]) ∧ Hid (Dr L p (pre ++ (decDigits (us.getD j 0) ++ (fmB bl ((us.drop (j + 1)).map decDigits) ++ [93])))) ∧ Hid (SetM 69 .u64 wr M ((us.take j).map fun (u : Nat) => (u : Int))) ∧ Hid (w2.grownBy wr (some M))) (fun i _ => n - (intOf i).toNat)
    case atStart =>
      refine ⟨0, p1, [], hm0, rfl, .inl rfl, Lib.hid ?_, HMM, Lib.hid ⟨rfl, rfl, rfl, Nat.le_refl _, fun _ _ _ => rfl⟩⟩
      rw [HU0.out]
      simpa [List.getD] using HDP.out
    case round =>
      obtain ⟨wo, hwo⟩ : ∃ wo : World, wo = wr := ⟨_, rfl⟩
      obtain ⟨j, p, pre, hj, rfl, hpre, hD, hS, hG⟩ := hrel
      clear c0 c1 e91 hln1 hln2
      obtain ⟨u, hu⟩ : ∃ u, u = us.getD j 0 := ⟨_, rfl⟩
      have hju : j < us.length := by have := HM.out; omega
      have huv : u = us[j] := by rw [hu]; simp [List.getD, List.getElem?_eq_getElem hju]
      have hub : u < 2 ^ 64 := by have := HUS.out us[j] (List.getElem_mem _); rw [huv]; exact this
      have hDj := hD.out
      rw [← hu] at hDj
      obtain ⟨ch, rh, hdh, hch1, hch2⟩ := dec_cons u
      have hDj' := hDj
      rw [hdh, List.cons_append] at hDj'
      have hvr : Vw wr (some ⟨b, off, none⟩) n c (numsD L) := Vw.jgD HV.out hG.out (fun x hx => by injection hx with hx; subst hx; exact hbM)
      have HSK := Lib.hid (skip_any _ n c L pre _ ch wr hvr p hpre hDj' (nw_digit hch1))
      obtain ⟨p', hp'⟩ : ∃ p', p' = p + pre.length := ⟨_, rfl⟩
      have hDp := hDj.app
      rw [← hp'] at hDp HSK
      have hDp' := hDp
      rw [hdh, List.cons_append] at hDp'
      have hbp := hDp'.head
      rcases hvr.cells with h0 | ⟨b2, off2, e2, hc⟩
      · have := HLE.out; omega
      injection e2 with e2
      injection e2 with e3 e4
      subst e3
      subst e4
      have hnl := HLE.out
      obtain ⟨v1, hv1⟩ : ∃ v1 : Int, v1 = (ch.toNat : Int) := ⟨_, rfl⟩
      have c1 : wr.cell? ⟨b, off + p', none⟩ = some (.int .u8 v1) := by have := hc p' (by omega); rw [hbp.2, ← hv1] at this; exact this
      have e34 : (v1 == 34) = false := by simp; omega
      have hln2 : ¬ (n ≤ p') := by omega
      have hln3 : decide (n ≤ p') = false := by simp; omega
      have HDP := Lib.hid hDp
      have HVR := Lib.hid hvr
      have HCC := Lib.hid hc
      have HP' := Lib.hid hp'
      have HU := Lib.hid hu
      have HUV := Lib.hid huv
      clear hDj hDj' hDp hDp' hbp hdh hvr hc hv1 hp' hu huv hnl
      go_wp2_with fail
      refine HSK.out.mono ?_
      rintro e w3 ⟨rfl, rfl⟩
      go_wp2_with fail
      obtain ⟨tl, htl⟩ : ∃ tl, tl = (decDigits u).length := ⟨_, rfl⟩
      have HTL := Lib.hid htl
      have hbt := HDP.out.len
      rw [List.length_append, ← htl, List.length_append, HLE.out] at hbt
      simp only [List.length_cons, List.length_nil] at hbt
      have hpn : p' + tl < n := by omega
      have ht0 : 0 < tl := by rw [htl]; exact dec_pos u
      clear c1 e34 hln2 hln3 htl hbt
      go_loopw [5] (fun i wi => ∃ k : Nat, k ≤ tl ∧ i = .int .i64 ((p' + k : Nat) : Int) ∧ wi = w3) (fun i _ => p' + tl - (intOf i).toNat)
      case atStart => exact ⟨0, Nat.zero_le _, rfl, rfl⟩
      case round =>
        obtain ⟨k, hk, rfl, rfl⟩ := hrel
        obtain ⟨q, hq⟩ : ∃ q, q = p' + k := ⟨_, rfl⟩
        rw [← hq]
        have hqn : (q : Int) < n := by omega
        by_cases hkt : k < tl
        · have hkd : k < (decDigits u).length := by rw [← HTL.out]; exact hkt
          have hg := HDP.out.get k (by rw [List.length_append]; omega)
          rw [List.getElem_append_left hkd, ← hq] at hg
          have hdg := dec_digit u _ (List.getElem_mem hkd)
          obtain ⟨v, hv⟩ : ∃ v : Int, v = ((decDigits u)[k].toNat : Int) := ⟨_, rfl⟩
          have cq : wr.cell? ⟨b, off + q, none⟩ = some (.int .u8 v) := by have := HCC.out q (by omega); rw [hg.2, ← hv] at this; exact this
          have e1 : (v != 44) = true := by simp; omega
          have e2 : (v != 93) = true := by simp; omega
          have e3 : (v != 32) = true := by simp; omega
          have e4 : (v != 9) = true := by simp; omega
          have e5 : (v != 10) = true := by simp; omega
          have e6 : (v != 13) = true := by simp; omega
          have HQ := Lib.hid hq
          clear hg hdg hv hq
          go_wp2_with fail
          go_roundw
          case rel => exact ⟨k + 1, by omega, congrArg (Value.int .i64) (by have := HQ.out; omega), by first | rfl | trivial⟩
          case measure => have := HQ.out; simp [intOf]; omega
        · have hke : k = tl := by omega
          have hvs := Vw.midA HVR.out p' q (by omega) (by omega)
          have hql : q - p' = (decDigits u).length := by rw [← HTL.out]; omega
          have hmd := Dr.mid HDP.out
          rw [← hql] at hmd
          rw [hmd] at hvs
          have hsj := hS.out
          have hgj := hG.out
          have hpq : p' ≤ q := by omega
          have hCr : Blk wr C 79 #[.map (some M)] := blk_jgD HC.out hgj hCM
          have HCL := Lib.hid (clo_Uint C M ((us.take j).map fun (u : Nat) => (u : Int)) u hub (some ⟨b, off + p', none⟩) _ _ wr hvs hCr hsj (by simp; omega))
          have htk : (us.take (j + 1)).map (fun (u : Nat) => (u : Int)) = (us.take j).map (fun (u : Nat) => (u : Int)) ++ [(u : Int)] := by
            rw [List.take_add_one, List.getElem?_eq_getElem hju, ← HUV.out]; simp
          have HTK := Lib.hid htk
          have hDq := HDP.out.app
          rw [← HTL.out, ← hke, ← hq] at hDq
          have HQ := Lib.hid hq
          have hci := HCC.out q (by omega)
          clear hmd hvs hsj hgj hCr htk hq hql
          rcases fm_cases bl ((us.drop (j + 1)).map decDigits) with ⟨hr, hR⟩ | ⟨u9, q9, hr, hR⟩
          · rw [hR] at hDq
            have hhd := hDq.head
            have HSK2 := Lib.hid (fun W (h : Vw W (some ⟨b, off, none⟩) n c (numsD L)) => skip_no _ n c _ W h q (by omega) (by rw [hhd.2]; simp [Nw]))
            rw [hhd.2] at hci
            have cq : wr.cell? ⟨b, off + q, none⟩ = some (.int .u8 93) := hci
            have hlast : j + 1 = m := by
              have := congrArg List.length hr
              simp at this
              have := HM.out; omega
            have HL1 := Lib.hid hlast
            clear hr hR hDq hhd hci hlast
            go_wp2_with fail
            refine HCL.out.mono ?_
            rintro e w4 ⟨rfl, hs4, hg4⟩
            have hv4 : Vw w4 (some ⟨b, off, none⟩) n c (numsD L) := Vw.jgD HVR.out hg4 (fun x hx => by injection hx with hx; subst hx; exact hbM)
            have cq4 : w4.cell? ⟨b, off + q, none⟩ = some (.int .u8 93) := by
              rw [World.cell?_of_block (hg4.block b (World.block_lt_of_cell? wr _ cq) (fun e => by injection e with e; exact hbM e))]; exact cq
            have HV4 := Lib.hid hv4
            have HS4 := Lib.hid hs4
            have HG4 := Lib.hid (hG.out.andThen hg4 (fun j hj => .inr hj))
            clear hv4 hs4 hg4 cq
            go_wp2_with fail
            refine (HSK2.out w4 HV4.out).mono ?_
            rintro e w5 ⟨rfl, rfl⟩
            go_wp2_with fail
            go_ret
            refine ⟨rfl, ?_, HG4.out⟩
            have hfin := HS4.out
            rw [← HTK.out, List.take_of_length_le (by have := HM.out; have := HL1.out; omega)] at hfin
            exact hfin
          · rw [hR] at hDq
            have hhd := hDq.head
            have HSK2 := Lib.hid (fun W (h : Vw W (some ⟨b, off, none⟩) n c (numsD L)) => skip_no _ n c _ W h q (by omega) (by rw [hhd.2]; simp [Nw]))
            rw [hhd.2] at hci
            have cq : wr.cell? ⟨b, off + q, none⟩ = some (.int .u8 44) := hci
            have hj1 : j + 1 < m := by
              have := congrArg List.length hr
              simp at this
              have := HM.out; omega
            have hj1l : j + 1 < us.length := by have := HM.out; omega
            have hdrop : us.drop (j + 1) = us[j + 1] :: us.drop (j + 1 + 1) := List.drop_eq_getElem_cons hj1l
            rw [hdrop, List.map_cons] at hr
            have hr1 : decDigits us[j + 1] = u9 := by injection hr
            have hr2 : (us.drop (j + 1 + 1)).map decDigits = q9 := by injection hr
            have hDn := hDq.tail
            rw [← hr1, ← hr2, show us[j + 1] = us.getD (j + 1) 0 by simp [List.getD, List.getElem?_eq_getElem hj1l]] at hDn
            have HDN := Lib.hid hDn
            have hcw : IntKind.i64.wrap ((q : Int) + 1) = ((q + 1 : Nat) : Int) := by rw [IntKind.wrap_i64]; omega
            clear hr hR hDq hhd hci hdrop hr1 hr2 hDn
            go_wp2_with fail
            refine HCL.out.mono ?_
            rintro e w4 ⟨rfl, hs4, hg4⟩
            have hv4 : Vw w4 (some ⟨b, off, none⟩) n c (numsD L) := Vw.jgD HVR.out hg4 (fun x hx => by injection hx with hx; subst hx; exact hbM)
            have cq4 : w4.cell? ⟨b, off + q, none⟩ = some (.int .u8 44) := by
              rw [World.cell?_of_block (hg4.block b (World.block_lt_of_cell? wr _ cq) (fun e => by injection e with e; exact hbM e))]; exact cq
            have HV4 := Lib.hid hv4
            rw [← HTK.out] at hs4
            have HS4 := Lib.hid hs4
            have HG4 := Lib.hid (hG.out.andThen hg4 (fun j hj => .inr hj))
            clear hv4 hs4 hg4 cq
            go_wp2_with fail
            refine (HSK2.out w4 HV4.out).mono ?_
            rintro e w5 ⟨rfl, rfl⟩
            go_wp2_with fail
            go_roundw
            case rel => exact ⟨j + 1, q + 1, prB bl, hj1, congrArg (Value.int .i64) (by omega), prB_cases bl, HDN, HS4, HG4⟩
            case measure => have := HP'.out; have := HQ.out; simp [intOf]; omega

set_option maxHeartbeats 1000000 in
theorem parse_Uint16 (u : Nat) (hu : u < 2 ^ 16) (a : Option Addr) (n c : Nat) (w : World) (hv : Vw w a n c (numsD (decDigits u))) :
    Calls Tryd.prog 54 #[.slice a n c, .int .i64 16] w fun e w' => e = .returned (.tuple #[.int .u16 (u : Int), .nilIface]) ∧ Below w.heap.size w w' := by
  have hcv := conv_D hv
  rw [strOf_numsD] at hcv
  have hl20 := dec_len u (by omega)
  obtain ⟨s, hs⟩ : ∃ s, s = strD (decDigits u) := ⟨_, rfl⟩
  rw [← hs] at hcv
  have hpu := fun W => Any.strconv_ParseUint_10_at16_ok Tryd.laysPU s (by rw [hs, strD_size]; omega) u (by rw [hs]; simpa [strD] using parse_dec 16 u (by decide) hu) W
  have HP := Lib.hid hpu
  have hcvt : IntKind.u16.wrap (u : Int) = (u : Int) := by simp [IntKind.wrap, IntKind.bits, IntKind.signed]; omega
  clear hs hpu hv hl20
  go_enter Tryd.func54, Tryd.ntmps54
  go_wp2_with fail
  refine (HP.out _).mono ?_
  rintro e w1 ⟨rfl, hw⟩
  have hb : Below w.heap.size w w1 := by
    rcases hw with rfl | rfl
    · exact Below.refl _ _
    · exact below_bytes _ _ _
  have HB := Lib.hid hb
  clear hw hb
  go_wp2_with fail
  go_ret2
  exact ⟨rfl, HB.out⟩

set_option maxRecDepth 100000 in
set_option maxHeartbeats 1000000 in
theorem clo_Uint16 (C M : Nat) (ys : List Int) (u : Nat) (hu : u < 2 ^ 16) (a : Option Addr) (n c : Nat) (w : World) (hv : Vw w a n c (numsD (decDigits u))) (hC : Blk w C 84 #[.map (some M)]) (hM : SetM 53 .u16 w M ys) (hy : ys.length ≤ 1000) :
    Calls Tryd.prog 53 #[.slice a n c, .pointer (some ⟨C, 0, none⟩)] w fun e w' => e = .returned .nilIface ∧ SetM 53 .u16 w' M (ys ++ [(u : Int)]) ∧ w.grownBy w' (some M) := by
  have HP := Lib.hid (parse_Uint16 u hu a n c w hv)
  have hMl := hM.lt
  have hCl := hC.lt
  have HM := Lib.hid hM
  have HC := Lib.hid hC
  have hwx : (Lit.int .u16 (u : Int)).wf = true := by simp [Lit.wf, IntKind.min, IntKind.max, IntKind.bits, IntKind.signed]; omega
  have HWX := Lib.hid hwx
  clear hv hM hC hwx
  go_enter Tryd.func53, Tryd.ntmps53
  go_wp2_with fail
  refine HP.out.mono ?_
  rintro e w1 ⟨rfl, hb1⟩
  have hC1 : w1.cell? ⟨C, 0, none⟩ = some (.map (some M)) := Blk.cell (Blk.below HC.out hb1 hCl) rfl
  have HM1 := Lib.hid (SetM.below HM.out hb1 hMl)
  have HG1 := Lib.hid (show w.grownBy w1 (some M) from ⟨hb1.os, hb1.tape, hb1.output, hb1.size, fun k hk _ => hb1.block k hk⟩)
  clear hb1
  go_wp2_with (at_mapUpdate; refine wpList_mapUpdate_own _ rfl _ _ _ 84 rfl 53 _ (int_keyed Tryd.underlying53) Tryd.underlying84 (unitElem (H := Unit)) M ys.length _ rfl HM1.out (by simp [maxLen]; omega) (.int .u16 (u : Int)) (.agg #[]) (.int .u16 (u : Int)) (by rfl) (by rfl) (keyOf_int_mk Tryd.underlying53 HWX.out) (.agg []) [] unitElem_mk ?_; intro w2 hown2 hg2; go_frame)
  have hs2 : SetM 53 .u16 w2 M (ys ++ [(u : Int)]) := by
    unfold SetM
    rw [dSet_snoc, List.length_append]
    exact hown2
  have HS2 := Lib.hid hs2
  have HG2 := Lib.hid (HG1.out.andThen hg2 (fun j hj => .inr hj))
  clear hown2 hg2 hs2
  go_wp2_with fail
  go_ret
  exact ⟨rfl, HS2.out, HG2.out⟩

set_option maxRecDepth 100000 in
set_option maxHeartbeats 4000000 in
theorem iter_Uint16 (bl : Bool) (us : List Nat) (hus : ∀ u ∈ us, u < 2 ^ 16) (hm : us.length ≤ 100) (C M : Nat) (a : Option Addr) (n c : Nat) (w : World) (hv : Vw w a n c (numsD (jtB bl (us.map decDigits)))) (hdb : ∀ x, a = some x → x.block ≠ M)
    (hC : Blk w C 84 #[.map (some M)]) (hCM : C ≠ M) (hM : SetM 53 .u16 w M []) (hn9 : n ≤ 1000000) :
    Calls Tryd.prog 48 #[.slice a n c, .func (.func 53) #[] #[.pointer (some ⟨C, 0, none⟩)]] w fun e w' => e = .returned .nilIface ∧ SetM 53 .u16 w' M (us.map fun (u : Nat) => (u : Int)) ∧ w.grownBy w' (some M) := by
  have hcn := hv.cap
  have hcb := hv.big
  have hln := hv.len
  rw [numsD_len] at hln
  obtain ⟨L, hL⟩ : ∃ L, L = jtB bl (us.map decDigits) := ⟨_, rfl⟩
  rw [← hL] at hv hln
  cases us with
  | nil =>
    have e : L = [91, 93] := hL
    subst e
    have hn2 : n = 2 := by simpa using hln.symm
    subst hn2
    have HS0 := Lib.hid (skip_no a 2 c _ w hv 0 (by omega) (by simp [numsD, Nw]))
    have HS1 := Lib.hid (skip_no a 2 c _ w hv 1 (by omega) (by simp [numsD, Nw]))
    rcases hv.cells with h0 | ⟨b, off, rfl, hc⟩
    · omega
    have c0 : w.cell? ⟨b, off, none⟩ = some (.int .u8 91) := hc 0 (by omega)
    have c1 : w.cell? ⟨b, off + 1, none⟩ = some (.int .u8 93) := hc 1 (by omega)
    have HM := Lib.hid hM
    clear hc hv hL hM hC
    go_enter Tryd.func48, Tryd.ntmps48
    go_wp2_with fail
    refine HS0.out.mono ?_
    rintro e w1 ⟨rfl, rfl⟩
    go_wp2_with fail
    refine HS1.out.mono ?_
    rintro e w1 ⟨rfl, rfl⟩
    go_wp2_with fail
    go_ret
    exact ⟨rfl, HM.out, ⟨rfl, rfl, rfl, Nat.le_refl _, fun _ _ _ => rfl⟩⟩
  | cons u0 r0 =>
    obtain ⟨us, hus0⟩ : ∃ us, us = u0 :: r0 := ⟨_, rfl⟩
    rw [← hus0] at hus hm hL ⊢
    obtain ⟨m, hmm⟩ : ∃ m, m = us.length := ⟨_, rfl⟩
    have hm0 : 0 < m := by rw [hmm, hus0]; simp
    rw [← hmm] at hm
    obtain ⟨ch, rh, hdh, hch1, hch2⟩ := dec_cons u0
    have hD0 : Dr L 0 (91 :: (prB bl ++ (decDigits u0 ++ (fmB bl (r0.map decDigits) ++ [93])))) := ⟨Nat.zero_le _, by rw [hL, hus0]; simp [jtB, acB, List.append_assoc]⟩
    have hD1 : Dr L 1 (prB bl ++ (decDigits u0 ++ (fmB bl (r0.map decDigits) ++ [93]))) := hD0.tail
    have hb0 := hD0.head
    have HS0 := Lib.hid (skip_no a n c _ w hv 0 (by omega) (by rw [hb0.2]; simp [Nw]))
    have hD1' := hD1
    rw [hdh, List.cons_append] at hD1'
    have HS1 := Lib.hid (skip_any a n c L (prB bl) _ ch w hv 1 (prB_cases bl) hD1' (nw_digit hch1))
    obtain ⟨p1, hp1⟩ : ∃ p1, p1 = 1 + (prB bl).length := ⟨_, rfl⟩
    have hDp : Dr L p1 (decDigits u0 ++ (fmB bl (r0.map decDigits) ++ [93])) := by rw [hp1]; exact hD1.app
    have hDp' := hDp
    rw [hdh, List.cons_append] at hDp'
    have hbp := hDp'.head
    rw [← hp1] at HS1
    rcases hv.cells with h0 | ⟨b, off, rfl, hc⟩
    · omega
    have c0 : w.cell? ⟨b, off, none⟩ = some (.int .u8 91) := by have := hc 0 (by omega); rw [hb0.2] at this; simpa using this
    obtain ⟨v1, hv1⟩ : ∃ v1 : Int, v1 = (ch.toNat : Int) := ⟨_, rfl⟩
    have c1 : w.cell? ⟨b, off + p1, none⟩ = some (.int .u8 v1) := by have := hc p1 (by omega); rw [hbp.2, ← hv1] at this; exact this
    have e91 : (v1 == 93) = false := by simp; omega
    have hln1 : (0 : Int) < n := by omega
    have hln2 : (p1 : Int) < n := by omega
    have hdr : ∀ j (h : j < us.length), j = 0 → us.drop (j + 1) = r0 ∧ us[j] = u0 := by intro j h e; subst e; subst hus0; exact ⟨rfl, rfl⟩
    have HLE := Lib.hid hln
    have HUS := Lib.hid hus
    have HM := Lib.hid hmm
    have HV := Lib.hid hv
    have HMM := Lib.hid hM
    have HC := Lib.hid hC
    have HDP := Lib.hid hDp
    have HU0 := Lib.hid hus0
    have hbM : b ≠ M := hdb _ rfl
    clear hL hus hmm hD0 hD1 hD1' hDp hDp' hbp hb0 hdh hv hM hC hc hv1 hp1 hus0 hdb hln hdr hch1 hch2
    go_enter Tryd.func48, Tryd.ntmps48
    go_wp2_with fail
    refine HS0.out.mono ?_
    rintro e w1 ⟨rfl, rfl⟩
    go_wp2_with fail
    refine HS1.out.mono ?_
    rintro e w2 ⟨rfl, rfl⟩
    go_wp2_with fail
    go_loopw [5] (fun i wr => ∃ (j p : Nat) (pre : List UInt8), j < m ∧ i = .int .i64 (p : Int) ∧ (pre = [] ∨ pre = [32]) ∧ Hid (Dr L p (pre ++ (decDigits (us.getD j 0) ++ (fmB bl ((us.drop (j + 1)).map decDigits) ++ [93])))) ∧ Hid (SetM 53 .u16 wr M ((us.take j).map fun (u : Nat) => (u : Int))) ∧ Hid (w2.grownBy wr (some M))) (fun i _ => n - (intOf i).toNat)
    case atStart =>
      refine ⟨0, p1, [], hm0, rfl, .inl rfl, Lib.hid ?_, HMM, Lib.hid ⟨rfl, rfl, rfl, Nat.le_refl _, fun _ _ _ => rfl⟩⟩
      rw [HU0.out]
      simpa [List.getD] using HDP.out
    case round =>
      obtain ⟨wo, hwo⟩ : ∃ wo : World, wo = wr := ⟨_, rfl⟩
      obtain ⟨j, p, pre, hj, rfl, hpre, hD, hS, hG⟩ := hrel
      clear c0 c1 e91 hln1 hln2
      obtain ⟨u, hu⟩ : ∃ u, u = us.getD j 0 := ⟨_, rfl⟩
      have hju : j < us.length := by have := HM.out; omega
      have huv : u = us[j] := by rw [hu]; simp [List.getD, List.getElem?_eq_getElem hju]
      have hub : u < 2 ^ 16 := by have := HUS.out us[j] (List.getElem_mem _); rw [huv]; exact this
      have hDj := hD.out
      rw [← hu] at hDj
      obtain ⟨ch, rh, hdh, hch1, hch2⟩ := dec_cons u
      have hDj' := hDj
      rw [hdh, List.cons_append] at hDj'
      have hvr : Vw wr (some ⟨b, off, none⟩) n c (numsD L) := Vw.jgD HV.out hG.out (fun x hx => by injection hx with hx; subst hx; exact hbM)
      have HSK := Lib.hid (skip_any _ n c L pre _ ch wr hvr p hpre hDj' (nw_digit hch1))
      obtain ⟨p', hp'⟩ : ∃ p', p' = p + pre.length := ⟨_, rfl⟩
      have hDp := hDj.app
      rw [← hp'] at hDp HSK
      have hDp' := hDp
      rw [hdh, List.cons_append] at hDp'
      have hbp := hDp'.head
      rcases hvr.cells with h0 | ⟨b2, off2, e2, hc⟩
      · have := HLE.out; omega
      injection e2 with e2
      injection e2 with e3 e4
      subst e3
      subst e4
      have hnl := HLE.out
      obtain ⟨v1, hv1⟩ : ∃ v1 : Int, v1 = (ch.toNat : Int) := ⟨_, rfl⟩
      have c1 : wr.cell? ⟨b, off + p', none⟩ = some (.int .u8 v1) := by have := hc p' (by omega); rw [hbp.2, ← hv1] at this; exact this
      have e34 : (v1 == 34) = false := by simp; omega
      have hln2 : ¬ (n ≤ p') := by omega
      have hln3 : decide (n ≤ p') = false := by simp; omega
      have HDP := Lib.hid hDp
      have HVR := Lib.hid hvr
      have HCC := Lib.hid hc
      have HP' := Lib.hid hp'
      have HU := Lib.hid hu
      have HUV := Lib.hid huv
      clear hDj hDj' hDp hDp' hbp hdh hvr hc hv1 hp' hu huv hnl
      go_wp2_with fail
      refine HSK.out.mono ?_
      rintro e w3 ⟨rfl, rfl⟩
      go_wp2_with fail
      obtain ⟨tl, htl⟩ : ∃ tl, tl = (decDigits u).length := ⟨_, rfl⟩
      have HTL := Lib.hid htl
      have hbt := HDP.out.len
      rw [List.length_append, ← htl, List.length_append, HLE.out] at hbt
      simp only [List.length_cons, List.length_nil] at hbt
      have hpn : p' + tl < n := by omega
      have ht0 : 0 < tl := by rw [htl]; exact dec_pos u
      clear c1 e34 hln2 hln3 htl hbt
      go_loopw [5] (fun i wi => ∃ k : Nat, k ≤ tl ∧ i = .int .i64 ((p' + k : Nat) : Int) ∧ wi = w3) (fun i _ => p' + tl - (intOf i).toNat)
      case atStart => exact ⟨0, Nat.zero_le _, rfl, rfl⟩
      case round =>
        obtain ⟨k, hk, rfl, rfl⟩ := hrel
        obtain ⟨q, hq⟩ : ∃ q, q = p' + k := ⟨_, rfl⟩
        rw [← hq]
        have hqn : (q : Int) < n := by omega
        by_cases hkt : k < tl
        · have hkd : k < (decDigits u).length := by rw [← HTL.out]; exact hkt
          have hg := HDP.out.get k (by rw [List.length_append]; omega)
          rw [List.getElem_append_left hkd, ← hq] at hg
          have hdg := dec_digit u _ (List.getElem_mem hkd)
          obtain ⟨v, hv⟩ : ∃ v : Int, v = ((decDigits u)[k].toNat : Int) := ⟨_, rfl⟩
          have cq : wr.cell? ⟨b, off + q, none⟩ = some (.int .u8 v) := by have := HCC.out q (by omega); rw [hg.2, ← hv] at this; exact this
          have e1 : (v != 44) = true := by simp; omega
          have e2 : (v != 93) = true := by simp; omega
          have e3 : (v != 32) = true := by simp; omega
          have e4 : (v != 9) = true := by simp; omega
          have e5 : (v != 10) = true := by simp; omega
          have e6 : (v != 13) = true := by simp; omega
          have HQ := Lib.hid hq
          clear hg hdg hv hq
          go_wp2_with fail
          go_roundw
          case rel => exact ⟨k + 1, by omega, congrArg (Value.int .i64) (by have := HQ.out; omega), by first | rfl | trivial⟩
          case measure => have := HQ.out; simp [intOf]; omega
        · have hke : k = tl := by omega
          have hvs := Vw.midA HVR.out p' q (by omega) (by omega)
          have hql : q - p' = (decDigits u).length := by rw [← HTL.out]; omega
          have hmd := Dr.mid HDP.out
          rw [← hql] at hmd
          rw [hmd] at hvs
          have hsj := hS.out
          have hgj := hG.out
          have hpq : p' ≤ q := by omega
          have hCr : Blk wr C 84 #[.map (some M)] := blk_jgD HC.out hgj hCM
          have HCL := Lib.hid (clo_Uint16 C M ((us.take j).map fun (u : Nat) => (u : Int)) u hub (some ⟨b, off + p', none⟩) _ _ wr hvs hCr hsj (by simp; omega))
          have htk : (us.take (j + 1)).map (fun (u : Nat) => (u : Int)) = (us.take j).map (fun (u : Nat) => (u : Int)) ++ [(u : Int)] := by
            rw [List.take_add_one, List.getElem?_eq_getElem hju, ← HUV.out]; simp
          have HTK := Lib.hid htk
          have hDq := HDP.out.app
          rw [← HTL.out, ← hke, ← hq] at hDq
          have HQ := Lib.hid hq
          have hci := HCC.out q (by omega)
          clear hmd hvs hsj hgj hCr htk hq hql
          rcases fm_cases bl ((us.drop (j + 1)).map decDigits) with ⟨hr, hR⟩ | ⟨u9, q9, hr, hR⟩
          · rw [hR] at hDq
            have hhd := hDq.head
            have HSK2 := Lib.hid (fun W (h : Vw W (some ⟨b, off, none⟩) n c (numsD L)) => skip_no _ n c _ W h q (by omega) (by rw [hhd.2]; simp [Nw]))
            rw [hhd.2] at hci
            have cq : wr.cell? ⟨b, off + q, none⟩ = some (.int .u8 93) := hci
            have hlast : j + 1 = m := by
              have := congrArg List.length hr
              simp at this
              have := HM.out; omega
            have HL1 := Lib.hid hlast
            clear hr hR hDq hhd hci hlast
            go_wp2_with fail
            refine HCL.out.mono ?_
            rintro e w4 ⟨rfl, hs4, hg4⟩
            have hv4 : Vw w4 (some ⟨b, off, none⟩) n c (numsD L) := Vw.jgD HVR.out hg4 (fun x hx => by injection hx with hx; subst hx; exact hbM)
            have cq4 : w4.cell? ⟨b, off + q, none⟩ = some (.int .u8 93) := by
              rw [World.cell?_of_block (hg4.block b (World.block_lt_of_cell? wr _ cq) (fun e => by injection e with e; exact hbM e))]; exact cq
            have HV4 := Lib.hid hv4
            have HS4 := Lib.hid hs4
            have HG4 := Lib.hid (hG.out.andThen hg4 (fun j hj => .inr hj))
            clear hv4 hs4 hg4 cq
            go_wp2_with fail
            refine (HSK2.out w4 HV4.out).mono ?_
            rintro e w5 ⟨rfl, rfl⟩
            go_wp2_with fail
            go_ret
            refine ⟨rfl, ?_, HG4.out⟩
            have hfin := HS4.out
            rw [← HTK.out, List.take_of_length_le (by have := HM.out; have := HL1.out; omega)] at hfin
            exact hfin
          · rw [hR] at hDq
            have hhd := hDq.head
            have HSK2 := Lib.hid (fun W (h : Vw W (some ⟨b, off, none⟩) n c (numsD L)) => skip_no _ n c _ W h q (by omega) (by rw [hhd.2]; simp [Nw]))
            rw [hhd.2] at hci
            have cq : wr.cell? ⟨b, off + q, none⟩ = some (.int .u8 44) := hci
            have hj1 : j + 1 < m := by
              have := congrArg List.length hr
              simp at this
              have := HM.out; omega
            have hj1l : j + 1 < us.length := by have := HM.out; omega
            have hdrop : us.drop (j + 1) = us[j + 1] :: us.drop (j + 1 + 1) := List.drop_eq_getElem_cons hj1l
            rw [hdrop, List.map_cons] at hr
            have hr1 : decDigits us[j + 1] = u9 := by injection hr
            have hr2 : (us.drop (j + 1 + 1)).map decDigits = q9 := by injection hr
            have hDn := hDq.tail
            rw [← hr1, ← hr2, show us[j + 1] = us.getD (j + 1) 0 by simp [List.getD, List.getElem?_eq_getElem hj1l]] at hDn
            have HDN := Lib.hid hDn
            have hcw : IntKind.i64.wrap ((q : Int) + 1) = ((q + 1 : Nat) : Int) := by rw [IntKind.wrap_i64]; omega
            clear hr hR hDq hhd hci hdrop hr1 hr2 hDn
            go_wp2_with fail
            refine HCL.out.mono ?_
            rintro e w4 ⟨rfl, hs4, hg4⟩
            have hv4 : Vw w4 (some ⟨b, off, none⟩) n c (numsD L) := Vw.jgD HVR.out hg4 (fun x hx => by injection hx with hx; subst hx; exact hbM)
            have cq4 : w4.cell? ⟨b, off + q, none⟩ = some (.int .u8 44) := by
              rw [World.cell?_of_block (hg4.block b (World.block_lt_of_cell? wr _ cq) (fun e => by injection e with e; exact hbM e))]; exact cq
            have HV4 := Lib.hid hv4
            rw [← HTK.out] at hs4
            have HS4 := Lib.hid hs4
            have HG4 := Lib.hid (hG.out.andThen hg4 (fun j hj => .inr hj))
            clear hv4 hs4 hg4 cq
            go_wp2_with fail
            refine (HSK2.out w4 HV4.out).mono ?_
            rintro e w5 ⟨rfl, rfl⟩
            go_wp2_with fail
            go_roundw
            case rel => exact ⟨j + 1, q + 1, prB bl, hj1, congrArg (Value.int .i64) (by omega), prB_cases bl, HDN, HS4, HG4⟩
            case measure => have := HP'.out; have := HQ.out; simp [intOf]; omega
end Go.Proofs.YtokjgloefafdpaaDoor
