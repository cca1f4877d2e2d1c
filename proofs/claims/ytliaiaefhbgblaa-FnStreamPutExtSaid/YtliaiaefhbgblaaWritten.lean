/- impl.written: values written by a Writer, one behind the other. -/
import Derived.Test.YtliaiaefhbgblaaWrN
namespace Go.Proofs.Ytliaiaefhbgblaa
open Go.RowKit
set_option linter.unusedVariables false
set_option linter.unusedSimpArgs false

def flatE (es : List (List Int)) : List Int := es.flatMap id
theorem flatE_snoc (es : List (List Int)) (j : Nat) (h : j < es.length) : flatE (es.take (j + 1)) = flatE (es.take j) ++ es[j] := by
  unfold flatE
  rw [List.take_succ_eq_append_getElem h, List.flatMap_append]
  simp
theorem flatE_drop (es : List (List Int)) (j : Nat) (h : j < es.length) : flatE (es.drop j) = es[j] ++ flatE (es.drop (j + 1)) := by
  unfold flatE
  rw [List.drop_eq_getElem_cons h, List.flatMap_cons]
  rfl
theorem flatE_len (es : List (List Int)) (M : Nat) (h : ∀ i (hi : i < es.length), es[i].length ≤ M) : ∀ j, j ≤ es.length → (flatE (es.take j)).length ≤ j * M
  | 0, _ => by simp [flatE]
  | j + 1, hj => by
    have := flatE_len es M h j (by omega)
    have h1 := h j (by omega)
    rw [flatE_snoc es j (by omega), List.length_append, Nat.succ_mul]
    omega

/-- What 'written' tells. -/
def Wrote (es : List (List Int)) (w : World) (e : Ending) (w' : World) : Prop := ∃ a n c, e = .returned (.tuple #[.slice a n c, .bool true]) ∧ Vw w' a n c (flatE es) ∧ Below w.heap.size w w'

set_option maxRecDepth 100000 in
set_option maxHeartbeats 2000000 in
theorem written_u64 (sz : Nat) (h18 : 18 ≤ sz) (hsz : sz ≤ 65536) (vs : List Value) (es : List (List Int)) (a : Option Addr) (c : Nat) (w : World) (hl : es.length = vs.length) (hn : vs.length ≤ 1000) (hr : Rd w a vs)
    (hw : ∀ i (h : i < es.length), Wrts 15 (vs.getD i undef) es[i]) (hM : ∀ i (h : i < es.length), es[i].length ≤ 1000000) :
    Calls Try.prog 14 #[.int .i64 sz, .slice a vs.length c, .func (.func 15) #[] #[]] w (Wrote es w) := by
  obtain ⟨n, hvn⟩ : ∃ n, n = vs.length := ⟨_, rfl⟩
  rw [← hvn] at hl hn ⊢
  have HL := Lib.hid hl
  have HV := Lib.hid hvn
  have HW := Lib.hid hw
  have HM := Lib.hid (flatE_len es 1000000 hM)
  have HR := Lib.hid hr
  clear hl hvn hw hM hr
  have hmx : ¬ ((sz : Int) < 0) := by omega
  have hmx2 : ¬ ((65536 : Int) < sz) := by omega
  have HT := fun w0 => Lib.hid (newWriter_any w.heap.size sz h18 hsz w0)
  go_enter Try.func14, Try.ntmps14
  go_wp2_with fail
  refine ((HT (w.alloc (.cells #[.slice none 0 0] 66))).out (Blk.new _ _ _)).mono ?_
  rintro e w1 ⟨W, rfl, hw1, hb1⟩
  have hb1w : Below w.heap.size w w1 := Below.trans (b := w.alloc _) ((Below.refl _ _).alloc (Nat.le_refl _) _) (hb1.mono (by simp))
  clear hb1
  have HW1 := Lib.hid hw1
  clear hw1
  go_wp2_with fail
  go_loopw [19] (fun i wr => ∃ k : Nat, k ≤ n ∧ i = .int .i64 k ∧ Hid (∃ wl, Wr wr w.heap.size (fun b => b < wr.heap.size) W sz wl (flatE (es.take k))) ∧ Hid (Below w.heap.size w wr)) (fun i _ => n - (intOf i).toNat)
  case atStart => exact ⟨0, Nat.zero_le _, rfl, ⟨0, HW1.out⟩, hb1w⟩
  case round =>
    obtain ⟨k, hk, rfl, hwr, hbr⟩ := hrel
    by_cases hlt : k < n
    · have hli : (k : Int) < n := by omega
      have hke : k < es.length := by have := HL.out; omega
      obtain ⟨ba, bo, rfl, hc⟩ := (HR.out.below hbr.out (Nat.le_refl _)).at_ (by have := HV.out; omega)
      have hck := hc k (by have := HV.out; omega)
      clear hc
      have hbl := World.block_lt_of_cell? wr _ hck
      obtain ⟨v, hv⟩ : ∃ v, v = vs.getD k undef := ⟨_, rfl⟩
      rw [← hv] at hck
      obtain ⟨wl, hwk⟩ := hwr.out
      have hWk := HW.out k hke
      rw [← hv] at hWk
      have HC := Lib.hid (hWk w.heap.size (fun b => b < wr.heap.size) W sz wl _ wr hwk (by have := HM.out k (by omega); omega))
      have HV2 := Lib.hid hv
      clear hv hwk hwr hWk
      go_wp2_with fail
      refine HC.out.mono ?_
      rintro e w2 ⟨rfl, ⟨wl2, hw2⟩, hf2, hb2⟩
      have hw2 := (⟨wl2, hw2.top⟩ : ∃ wl, Wr w2 w.heap.size (fun b => b < w2.heap.size) W sz wl _)
      have HW2 := Lib.hid hw2
      clear hw2 HC
      go_wp2_with fail
      go_roundw
      case rel => exact ⟨k + 1, by omega, by go_num, Lib.hid (by rw [flatE_snoc es k hke]; exact HW2.out), Lib.hid (hbr.out.trans hb2)⟩
      case measure => simp [intOf]; omega
    · have hli : ¬ (k : Int) < n := by omega
      obtain rfl : k = n := by omega
      obtain ⟨wl, G, ta, tn, tc, out, cs, pre, hw, ht⟩ := hwr.out
      have hte : es.take k = es := List.take_of_length_le (by have := HL.out; omega)
      rw [hte] at ht
      have hML := HM.out es.length (Nat.le_refl _)
      rw [List.take_length, ht] at hML
      have HF := Lib.hid (flush_any _ _ _ _ _ _ _ _ _ _ _ _ _ wr hw (by have := HL.out; omega))
      have HE := Lib.hid ht
      clear ht hte hML hw hwr
      go_wp2_with (go_at_call 31; go_in)
      refine HF.out.mono ?_
      rintro e w2 ⟨rfl, ⟨ta', tn', tc', hw2⟩, hf2, hb2⟩
      have ht0 := hw2.hT.cell (i := 0) rfl
      have htl := hw2.hT.lt
      go_wp2_with fail
      go_ret2
      exact ⟨ta', tn', tc', rfl, by rw [HE.out]; exact hw2.hO.vw, hbr.out.trans hb2⟩

set_option maxHeartbeats 1000000 in
theorem put_u64 (sz : Nat) (h18 : 18 ≤ sz) (hsz : sz ≤ 65536) (vs : List Value) (es : List (List Int)) (a : Option Addr) (c : Nat) (w : World) (hl : es.length = vs.length) (hn : vs.length ≤ 1000) (hr : Rd w a vs)
    (hw : ∀ i (h : i < es.length), Wrts 15 (vs.getD i undef) es[i]) (hM : ∀ i (h : i < es.length), es[i].length ≤ 1000000) :
    Calls Try.prog 7 #[.int .i64 sz, .slice a vs.length c] w (Wrote es w) := by
  have H := Lib.hid (written_u64 sz h18 hsz vs es a c w hl hn hr hw hM)
  clear hl hn hr hw hM
  go_enter Try.func7, Try.ntmps7
  go_wp2_with fail
  refine H.out.mono ?_
  rintro e w1 ⟨a1, n1, c1, rfl, h1, h2⟩
  go_wp2_with fail
  go_ret2
  exact ⟨a1, n1, c1, rfl, h1, h2⟩
set_option maxRecDepth 100000 in
set_option maxHeartbeats 2000000 in
theorem written_u8 (sz : Nat) (h18 : 18 ≤ sz) (hsz : sz ≤ 65536) (vs : List Value) (es : List (List Int)) (a : Option Addr) (c : Nat) (w : World) (hl : es.length = vs.length) (hn : vs.length ≤ 1000) (hr : Rd w a vs)
    (hw : ∀ i (h : i < es.length), Wrts 20 (vs.getD i undef) es[i]) (hM : ∀ i (h : i < es.length), es[i].length ≤ 1000000) :
    Calls Try.prog 19 #[.int .i64 sz, .slice a vs.length c, .func (.func 20) #[] #[]] w (Wrote es w) := by
  obtain ⟨n, hvn⟩ : ∃ n, n = vs.length := ⟨_, rfl⟩
  rw [← hvn] at hl hn ⊢
  have HL := Lib.hid hl
  have HV := Lib.hid hvn
  have HW := Lib.hid hw
  have HM := Lib.hid (flatE_len es 1000000 hM)
  have HR := Lib.hid hr
  clear hl hvn hw hM hr
  have hmx : ¬ ((sz : Int) < 0) := by omega
  have hmx2 : ¬ ((65536 : Int) < sz) := by omega
  have HT := fun w0 => Lib.hid (newWriter_any w.heap.size sz h18 hsz w0)
  go_enter Try.func19, Try.ntmps19
  go_wp2_with fail
  refine ((HT (w.alloc (.cells #[.slice none 0 0] 66))).out (Blk.new _ _ _)).mono ?_
  rintro e w1 ⟨W, rfl, hw1, hb1⟩
  have hb1w : Below w.heap.size w w1 := Below.trans (b := w.alloc _) ((Below.refl _ _).alloc (Nat.le_refl _) _) (hb1.mono (by simp))
  clear hb1
  have HW1 := Lib.hid hw1
  clear hw1
  go_wp2_with fail
  go_loopw [19] (fun i wr => ∃ k : Nat, k ≤ n ∧ i = .int .i64 k ∧ Hid (∃ wl, Wr wr w.heap.size (fun b => b < wr.heap.size) W sz wl (flatE (es.take k))) ∧ Hid (Below w.heap.size w wr)) (fun i _ => n - (intOf i).toNat)
  case atStart => exact ⟨0, Nat.zero_le _, rfl, ⟨0, HW1.out⟩, hb1w⟩
  case round =>
    obtain ⟨k, hk, rfl, hwr, hbr⟩ := hrel
    by_cases hlt : k < n
    · have hli : (k : Int) < n := by omega
      have hke : k < es.length := by have := HL.out; omega
      obtain ⟨ba, bo, rfl, hc⟩ := (HR.out.below hbr.out (Nat.le_refl _)).at_ (by have := HV.out; omega)
      have hck := hc k (by have := HV.out; omega)
      clear hc
      have hbl := World.block_lt_of_cell? wr _ hck
      obtain ⟨v, hv⟩ : ∃ v, v = vs.getD k undef := ⟨_, rfl⟩
      rw [← hv] at hck
      obtain ⟨wl, hwk⟩ := hwr.out
      have hWk := HW.out k hke
      rw [← hv] at hWk
      have HC := Lib.hid (hWk w.heap.size (fun b => b < wr.heap.size) W sz wl _ wr hwk (by have := HM.out k (by omega); omega))
      have HV2 := Lib.hid hv
      clear hv hwk hwr hWk
      go_wp2_with fail
      refine HC.out.mono ?_
      rintro e w2 ⟨rfl, ⟨wl2, hw2⟩, hf2, hb2⟩
      have hw2 := (⟨wl2, hw2.top⟩ : ∃ wl, Wr w2 w.heap.size (fun b => b < w2.heap.size) W sz wl _)
      have HW2 := Lib.hid hw2
      clear hw2 HC
      go_wp2_with fail
      go_roundw
      case rel => exact ⟨k + 1, by omega, by go_num, Lib.hid (by rw [flatE_snoc es k hke]; exact HW2.out), Lib.hid (hbr.out.trans hb2)⟩
      case measure => simp [intOf]; omega
    · have hli : ¬ (k : Int) < n := by omega
      obtain rfl : k = n := by omega
      obtain ⟨wl, G, ta, tn, tc, out, cs, pre, hw, ht⟩ := hwr.out
      have hte : es.take k = es := List.take_of_length_le (by have := HL.out; omega)
      rw [hte] at ht
      have hML := HM.out es.length (Nat.le_refl _)
      rw [List.take_length, ht] at hML
      have HF := Lib.hid (flush_any _ _ _ _ _ _ _ _ _ _ _ _ _ wr hw (by have := HL.out; omega))
      have HE := Lib.hid ht
      clear ht hte hML hw hwr
      go_wp2_with (go_at_call 31; go_in)
      refine HF.out.mono ?_
      rintro e w2 ⟨rfl, ⟨ta', tn', tc', hw2⟩, hf2, hb2⟩
      have ht0 := hw2.hT.cell (i := 0) rfl
      have htl := hw2.hT.lt
      go_wp2_with fail
      go_ret2
      exact ⟨ta', tn', tc', rfl, by rw [HE.out]; exact hw2.hO.vw, hbr.out.trans hb2⟩

set_option maxHeartbeats 1000000 in
theorem put_u8 (sz : Nat) (h18 : 18 ≤ sz) (hsz : sz ≤ 65536) (vs : List Value) (es : List (List Int)) (a : Option Addr) (c : Nat) (w : World) (hl : es.length = vs.length) (hn : vs.length ≤ 1000) (hr : Rd w a vs)
    (hw : ∀ i (h : i < es.length), Wrts 20 (vs.getD i undef) es[i]) (hM : ∀ i (h : i < es.length), es[i].length ≤ 1000000) :
    Calls Try.prog 10 #[.int .i64 sz, .slice a vs.length c] w (Wrote es w) := by
  have H := Lib.hid (written_u8 sz h18 hsz vs es a c w hl hn hr hw hM)
  clear hl hn hr hw hM
  go_enter Try.func10, Try.ntmps10
  go_wp2_with fail
  refine H.out.mono ?_
  rintro e w1 ⟨a1, n1, c1, rfl, h1, h2⟩
  go_wp2_with fail
  go_ret2
  exact ⟨a1, n1, c1, rfl, h1, h2⟩
set_option maxRecDepth 100000 in
set_option maxHeartbeats 2000000 in
theorem written_i64 (sz : Nat) (h18 : 18 ≤ sz) (hsz : sz ≤ 65536) (vs : List Value) (es : List (List Int)) (a : Option Addr) (c : Nat) (w : World) (hl : es.length = vs.length) (hn : vs.length ≤ 1000) (hr : Rd w a vs)
    (hw : ∀ i (h : i < es.length), Wrts 23 (vs.getD i undef) es[i]) (hM : ∀ i (h : i < es.length), es[i].length ≤ 1000000) :
    Calls Try.prog 22 #[.int .i64 sz, .slice a vs.length c, .func (.func 23) #[] #[]] w (Wrote es w) := by
  obtain ⟨n, hvn⟩ : ∃ n, n = vs.length := ⟨_, rfl⟩
  rw [← hvn] at hl hn ⊢
  have HL := Lib.hid hl
  have HV := Lib.hid hvn
  have HW := Lib.hid hw
  have HM := Lib.hid (flatE_len es 1000000 hM)
  have HR := Lib.hid hr
  clear hl hvn hw hM hr
  have hmx : ¬ ((sz : Int) < 0) := by omega
  have hmx2 : ¬ ((65536 : Int) < sz) := by omega
  have HT := fun w0 => Lib.hid (newWriter_any w.heap.size sz h18 hsz w0)
  go_enter Try.func22, Try.ntmps22
  go_wp2_with fail
  refine ((HT (w.alloc (.cells #[.slice none 0 0] 66))).out (Blk.new _ _ _)).mono ?_
  rintro e w1 ⟨W, rfl, hw1, hb1⟩
  have hb1w : Below w.heap.size w w1 := Below.trans (b := w.alloc _) ((Below.refl _ _).alloc (Nat.le_refl _) _) (hb1.mono (by simp))
  clear hb1
  have HW1 := Lib.hid hw1
  clear hw1
  go_wp2_with fail
  go_loopw [19] (fun i wr => ∃ k : Nat, k ≤ n ∧ i = .int .i64 k ∧ Hid (∃ wl, Wr wr w.heap.size (fun b => b < wr.heap.size) W sz wl (flatE (es.take k))) ∧ Hid (Below w.heap.size w wr)) (fun i _ => n - (intOf i).toNat)
  case atStart => exact ⟨0, Nat.zero_le _, rfl, ⟨0, HW1.out⟩, hb1w⟩
  case round =>
    obtain ⟨k, hk, rfl, hwr, hbr⟩ := hrel
    by_cases hlt : k < n
    · have hli : (k : Int) < n := by omega
      have hke : k < es.length := by have := HL.out; omega
      obtain ⟨ba, bo, rfl, hc⟩ := (HR.out.below hbr.out (Nat.le_refl _)).at_ (by have := HV.out; omega)
      have hck := hc k (by have := HV.out; omega)
      clear hc
      have hbl := World.block_lt_of_cell? wr _ hck
      obtain ⟨v, hv⟩ : ∃ v, v = vs.getD k undef := ⟨_, rfl⟩
      rw [← hv] at hck
      obtain ⟨wl, hwk⟩ := hwr.out
      have hWk := HW.out k hke
      rw [← hv] at hWk
      have HC := Lib.hid (hWk w.heap.size (fun b => b < wr.heap.size) W sz wl _ wr hwk (by have := HM.out k (by omega); omega))
      have HV2 := Lib.hid hv
      clear hv hwk hwr hWk
      go_wp2_with fail
      refine HC.out.mono ?_
      rintro e w2 ⟨rfl, ⟨wl2, hw2⟩, hf2, hb2⟩
      have hw2 := (⟨wl2, hw2.top⟩ : ∃ wl, Wr w2 w.heap.size (fun b => b < w2.heap.size) W sz wl _)
      have HW2 := Lib.hid hw2
      clear hw2 HC
      go_wp2_with fail
      go_roundw
      case rel => exact ⟨k + 1, by omega, by go_num, Lib.hid (by rw [flatE_snoc es k hke]; exact HW2.out), Lib.hid (hbr.out.trans hb2)⟩
      case measure => simp [intOf]; omega
    · have hli : ¬ (k : Int) < n := by omega
      obtain rfl : k = n := by omega
      obtain ⟨wl, G, ta, tn, tc, out, cs, pre, hw, ht⟩ := hwr.out
      have hte : es.take k = es := List.take_of_length_le (by have := HL.out; omega)
      rw [hte] at ht
      have hML := HM.out es.length (Nat.le_refl _)
      rw [List.take_length, ht] at hML
      have HF := Lib.hid (flush_any _ _ _ _ _ _ _ _ _ _ _ _ _ wr hw (by have := HL.out; omega))
      have HE := Lib.hid ht
      clear ht hte hML hw hwr
      go_wp2_with (go_at_call 31; go_in)
      refine HF.out.mono ?_
      rintro e w2 ⟨rfl, ⟨ta', tn', tc', hw2⟩, hf2, hb2⟩
      have ht0 := hw2.hT.cell (i := 0) rfl
      have htl := hw2.hT.lt
      go_wp2_with fail
      go_ret2
      exact ⟨ta', tn', tc', rfl, by rw [HE.out]; exact hw2.hO.vw, hbr.out.trans hb2⟩

set_option maxHeartbeats 1000000 in
theorem put_i64 (sz : Nat) (h18 : 18 ≤ sz) (hsz : sz ≤ 65536) (vs : List Value) (es : List (List Int)) (a : Option Addr) (c : Nat) (w : World) (hl : es.length = vs.length) (hn : vs.length ≤ 1000) (hr : Rd w a vs)
    (hw : ∀ i (h : i < es.length), Wrts 23 (vs.getD i undef) es[i]) (hM : ∀ i (h : i < es.length), es[i].length ≤ 1000000) :
    Calls Try.prog 11 #[.int .i64 sz, .slice a vs.length c] w (Wrote es w) := by
  have H := Lib.hid (written_i64 sz h18 hsz vs es a c w hl hn hr hw hM)
  clear hl hn hr hw hM
  go_enter Try.func11, Try.ntmps11
  go_wp2_with fail
  refine H.out.mono ?_
  rintro e w1 ⟨a1, n1, c1, rfl, h1, h2⟩
  go_wp2_with fail
  go_ret2
  exact ⟨a1, n1, c1, rfl, h1, h2⟩

theorem clo_u64 (u : Int) (enc : List Int) (h : Wrts 16 (.int .u64 u) enc) : Wrts 15 (.int .u64 u) enc := by
  intro B K W sz wl tot w hw hn
  have H := Lib.hid (h B K W sz wl tot w hw hn)
  go_enter Try.func15, Try.ntmps15
  go_wp2_with fail
  refine H.out.mono ?_
  rintro e w1 ⟨rfl, h1, h2, h3⟩
  go_wp2_with fail
  go_ret
  exact ⟨rfl, h1, h2, h3⟩
theorem clo_i64 (u : Int) (enc : List Int) (h : Wrts 24 (.int .i64 u) enc) : Wrts 23 (.int .i64 u) enc := by
  intro B K W sz wl tot w hw hn
  have H := Lib.hid (h B K W sz wl tot w hw hn)
  go_enter Try.func23, Try.ntmps23
  go_wp2_with fail
  refine H.out.mono ?_
  rintro e w1 ⟨rfl, h1, h2, h3⟩
  go_wp2_with fail
  go_ret
  exact ⟨rfl, h1, h2, h3⟩
theorem clo_u8 (u : Int) (h0 : 0 ≤ u) (h1 : u < 256) (enc : List Int) (h : Wrts 16 (.int .u64 u) enc) : Wrts 20 (.int .u8 u) enc := by
  intro B K W sz wl tot w hw hn
  have H := Lib.hid (h B K W sz wl tot w hw hn)
  go_enter Try.func20, Try.ntmps20
  go_wp2_with (first | (go_at_call 21; go_in) | (go_at_call 41; go_in))
  refine H.out.mono ?_
  rintro e w1 ⟨rfl, h1, h2, h3⟩
  go_wp2_with fail
  go_ret
  exact ⟨rfl, h1, h2, h3⟩

end Go.Proofs.Ytliaiaefhbgblaa
