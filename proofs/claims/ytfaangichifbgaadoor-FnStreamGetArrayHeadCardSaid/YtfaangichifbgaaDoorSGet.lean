/- What the laws FnStreamGet.. share. -/
import Derived.Test.YtfaangichifbgaaDoorAllW
namespace Go.Proofs.YtfaangichifbgaaDoor
open Go.RowKit
set_option linter.unusedVariables false
set_option linter.unusedSimpArgs false

theorem infoPk : (Tryd.prog.info? 38).map (fun i => (i.zero.map (·.cells.size), i.size, i.bytes)) = some (some 5, 5, 64) := by kernel_rfl
def Asked (bf ch : Int) : Prop := 18 ≤ bf ∧ bf ≤ 65536 ∧ 1 ≤ ch ∧ ch ≤ 65536
def BufRes (bf ch : Int) (w : World) (e : Ending) (w' : World) : Prop := ∃ b : Bool, e = .returned (.bool b) ∧ (b = true ↔ Asked bf ch) ∧ w = w'
theorem buffers_any (bf ch : Int) (w : World) : Calls Tryd.prog 10 #[.int .i64 bf, .int .i64 ch] w (BufRes bf ch w) := by
  by_cases h1 : 18 ≤ bf
  · have d1 : decide ((18 : Int) ≤ bf) = true := by simpa using h1
    by_cases h2 : bf ≤ 65536
    · have d2 : decide (bf ≤ (65536 : Int)) = true := by simpa using h2
      by_cases h3 : 1 ≤ ch
      · have d3 : decide ((1 : Int) ≤ ch) = true := by simpa using h3
        by_cases h4 : ch ≤ 65536
        · have d4 : decide (ch ≤ (65536 : Int)) = true := by simpa using h4
          go_enter Tryd.func10, Tryd.ntmps10
          go_wp2
          go_ret
          exact ⟨true, rfl, ⟨fun _ => ⟨h1, h2, h3, h4⟩, fun _ => rfl⟩, rfl⟩
        · have d4 : decide (ch ≤ (65536 : Int)) = false := by simp; omega
          go_enter Tryd.func10, Tryd.ntmps10
          go_wp2
          go_ret
          exact ⟨false, rfl, ⟨fun h => (by cases h), fun h => (by have := h; unfold Asked at this; omega)⟩, rfl⟩
      · have d3 : decide ((1 : Int) ≤ ch) = false := by simp; omega
        go_enter Tryd.func10, Tryd.ntmps10
        go_wp2
        go_ret
        exact ⟨false, rfl, ⟨fun h => (by cases h), fun h => (by have := h; unfold Asked at this; omega)⟩, rfl⟩
    · have d2 : decide (bf ≤ (65536 : Int)) = false := by simp; omega
      go_enter Tryd.func10, Tryd.ntmps10
      go_wp2
      go_ret
      exact ⟨false, rfl, ⟨fun h => (by cases h), fun h => (by have := h; unfold Asked at this; omega)⟩, rfl⟩
  · have d1 : decide ((18 : Int) ≤ bf) = false := by simp; omega
    go_enter Tryd.func10, Tryd.ntmps10
    go_wp2
    go_ret
    exact ⟨false, rfl, ⟨fun h => (by cases h), fun h => (by have := h; unfold Asked at this; omega)⟩, rfl⟩

theorem gets_int (v : Int) (h0 : -9223372036854775808 ≤ v) (h1 : v < 9223372036854775808) (x : List Int) (h : PE (2, v % 18446744073709551616) x) : Gets 56 (.int .i64 v) x := by
  have hw : wrap64 (v % 18446744073709551616) = v := by unfold wrap64; omega
  refine Gets.of_int v x fun t => ?_
  unfold PE PEnc at h
  simp only at h
  rcases h with ⟨h, _⟩ | ⟨h, _⟩ | ⟨_, hb, hn⟩ | ⟨hb, hp⟩ | ⟨h, _⟩ | ⟨h, _⟩ | ⟨h, _⟩ | ⟨h, _⟩ | ⟨h, _⟩ | ⟨h, _⟩ | ⟨h, _⟩
  · omega
  · omega
  · have := (dInt_neg _ (by omega) (by omega) x hb hn).1 t
    rw [hw] at this; exact this
  · have := (dInt_pos _ (by omega) (by omega) x (by omega) hp).1 t
    rw [hw] at this; exact this
  all_goals omega
theorem gets_uint (v : Int) (h0 : 0 ≤ v) (h1 : v < 18446744073709551616) (x : List Int) (h : PE (3, v) x) : Gets 57 (.int .u64 v) x := by
  refine Gets.of_uint v x fun t => ?_
  unfold PE PEnc at h
  simp only at h
  rcases h with ⟨h, _⟩ | ⟨h, _⟩ | ⟨h, hb, hn⟩ | ⟨hb, hp⟩ | ⟨h, _⟩ | ⟨h, _⟩ | ⟨h, _⟩ | ⟨h, _⟩ | ⟨h, _⟩ | ⟨h, _⟩ | ⟨h, _⟩
  · omega
  · omega
  · omega
  · exact (dUint_pos _ (by omega) (by omega) x (by omega) hp).1 t
  all_goals omega
theorem gets_f64 (v : Int) (h0 : 0 ≤ v) (h1 : v < 18446744073709551616) (x : List Int) (h : PE (5, v) x) : Gets 27 (.float .f64 v.toNat) x := by
  unfold PE PEnc at h
  simp only at h
  rcases h with ⟨h, _⟩ | ⟨h, _⟩ | ⟨h, hb, hn⟩ | ⟨hb, hp⟩ | ⟨h, _⟩ | ⟨_, h⟩ | ⟨h, _⟩ | ⟨h, _⟩ | ⟨h, _⟩ | ⟨h, _⟩ | ⟨h, _⟩
  · omega
  · omega
  · omega
  · omega
  · omega
  · subst h
    intro B K R rest w hr
    rw [beL_8] at hr
    have := rdf64 B K R _ _ _ _ _ _ _ _ rest w hr
    rw [beN_8] at this
    rw [show v % 18446744073709551616 = v by omega] at this
    exact this
  all_goals omega
theorem enc_Int8 (x : Int) (h : -128 ≤ x ∧ x < 128) (enc : List Int) (he : PE (2, x % 18446744073709551616) enc) : Gets 34 (.int .i8 x) enc :=
  clo_int8 x enc (gets_int8 x (by omega) (by omega) enc (gets_int x (by omega) (by omega) enc he))
theorem enc_Uint8 (x : Int) (h : 0 ≤ x ∧ x < 256) (enc : List Int) (he : PE (3, x) enc) : Gets 37 (.int .u8 x) enc :=
  clo_uint8 x enc (gets_uint8 x (by omega) (by omega) enc (gets_uint x (by omega) (by omega) enc he))
theorem enc_Duration (x : Int) (h : -9223372036854775808 ≤ x ∧ x < 9223372036854775808) (enc : List Int) (he : PE (2, x % 18446744073709551616) enc) : Gets 31 (.int .i64 x) enc :=
  clo_dur x (by omega) (by omega) enc (gets_dur x enc (gets_int x (by omega) (by omega) enc he))
theorem enc_Float64 (x : Int) (h : 0 ≤ x ∧ x < 18446744073709551616) (enc : List Int) (he : PE (5, x) enc) : Gets 26 (.int .u64 x) enc :=
  clo_f64 x (by omega) enc (gets_f64 x (by omega) (by omega) enc he)

def YesRes (w : World) (e : Ending) (w' : World) : Prop := e = .returned (.bool true) ∧ Below w.heap.size w w'
set_option maxHeartbeats 1000000 in
theorem get_i8 (sz : Nat) (h18 : 18 ≤ sz) (hsz : sz ≤ 65536) (ch : Nat) (hch : 1 ≤ ch) (vs : List Int) (es : List (List Int)) (a : Option Addr) (n c : Nat) (w : World) (hl : es.length = vs.length) (hm : vs.length ≤ 1000) (hv : Vw w a n c (flatE es)) (hn : n ≤ 1099511627776)
    (hf : ∀ i (h : i < es.length), Gets 34 (.int .i8 (vs.getD i 0)) es[i]) :
    Calls Tryd.prog 17 #[.slice a n c, .int .i64 (vs.length : Int), .int .i64 sz, .int .i64 ch] w (Taken .i8 vs.length vs w) := by
  have H := Lib.hid (taking_i8 sz h18 hsz ch hch vs es a n c w hl hm hv hn hf)
  clear hl hm hv hf
  go_enter Tryd.func17, Tryd.ntmps17
  go_wp2_with fail
  refine H.out.mono ?_
  rintro e w1 ⟨oa, oc, rfl, h1, h2⟩
  have HX := Lib.hid (And.intro h1 h2)
  clear h1 h2
  go_wp2_with fail
  go_ret2
  exact ⟨oa, oc, rfl, HX.out.1, HX.out.2⟩
set_option maxHeartbeats 1000000 in
theorem same_i8 (vs : List Int) (a b : Option Addr) (c1 c2 : Nat) (w : World) (hm : vs.length ≤ 1000) (hr1 : Rd w a (vs.map (Value.int .i8))) (hr2 : Rd w b (vs.map (Value.int .i8))) :
    Calls Tryd.prog 18 #[.slice a vs.length c1, .slice b vs.length c2] w (YesRes w) := by
  obtain ⟨m, hmv⟩ : ∃ m, m = vs.length := ⟨_, rfl⟩
  rw [← hmv] at hm ⊢
  have HM := Lib.hid hmv
  have H1 := Lib.hid hr1
  have H2 := Lib.hid hr2
  clear hmv hr1 hr2
  go_enter Tryd.func18, Tryd.ntmps18
  go_wp2_with fail
  go_loopw [13] (fun i wr => ∃ j : Nat, j ≤ m ∧ i = .int .i64 j ∧ Hid (Below w.heap.size w wr)) (fun i _ => m - (intOf i).toNat)
  case atStart => exact ⟨0, Nat.zero_le _, rfl, Lib.hid (Below.refl _ _)⟩
  case round =>
    obtain ⟨j, hj, rfl, hbr⟩ := hrel
    by_cases hlt : j < m
    · have hli : (j : Int) < m := by omega
      have hjv : j < vs.length := by have := HM.out; omega
      obtain ⟨b1, o1, rfl, g1⟩ := (H1.out.below hbr.out (Nat.le_refl _)).at_ (by simp; omega)
      obtain ⟨b2, o2, rfl, g2⟩ := (H2.out.below hbr.out (Nat.le_refl _)).at_ (by simp; omega)
      obtain ⟨v, hv⟩ : ∃ v, v = vs[j] := ⟨_, rfl⟩
      have k1 : wr.cell? ⟨b1, o1 + j, none⟩ = some (.int .i8 v) := by rw [g1 j (by simp; omega), hv]; simp [List.getD, List.getElem?_eq_getElem hjv]
      have k2 : wr.cell? ⟨b2, o2 + j, none⟩ = some (.int .i8 v) := by rw [g2 j (by simp; omega), hv]; simp [List.getD, List.getElem?_eq_getElem hjv]
      clear g1 g2 hv
      go_wp2_with fail
      go_quiet (fail)
      go_wp2_with fail
      go_roundw
      case rel => exact ⟨j + 1, by omega, by go_num, Lib.hid (below_drewN hbr.out _)⟩
      case measure => simp [intOf]; omega
    · have hli : ¬ (j : Int) < m := by omega
      obtain rfl : j = m := by omega
      go_wp2_with fail
      go_ret
      exact ⟨rfl, hbr.out⟩
set_option maxHeartbeats 1000000 in
theorem get_u8 (sz : Nat) (h18 : 18 ≤ sz) (hsz : sz ≤ 65536) (ch : Nat) (hch : 1 ≤ ch) (vs : List Int) (es : List (List Int)) (a : Option Addr) (n c : Nat) (w : World) (hl : es.length = vs.length) (hm : vs.length ≤ 1000) (hv : Vw w a n c (flatE es)) (hn : n ≤ 1099511627776)
    (hf : ∀ i (h : i < es.length), Gets 37 (.int .u8 (vs.getD i 0)) es[i]) :
    Calls Tryd.prog 19 #[.slice a n c, .int .i64 (vs.length : Int), .int .i64 sz, .int .i64 ch] w (Taken .u8 vs.length vs w) := by
  have H := Lib.hid (taking_u8 sz h18 hsz ch hch vs es a n c w hl hm hv hn hf)
  clear hl hm hv hf
  go_enter Tryd.func19, Tryd.ntmps19
  go_wp2_with fail
  refine H.out.mono ?_
  rintro e w1 ⟨oa, oc, rfl, h1, h2⟩
  have HX := Lib.hid (And.intro h1 h2)
  clear h1 h2
  go_wp2_with fail
  go_ret2
  exact ⟨oa, oc, rfl, HX.out.1, HX.out.2⟩
set_option maxHeartbeats 1000000 in
theorem same_u8 (vs : List Int) (a b : Option Addr) (c1 c2 : Nat) (w : World) (hm : vs.length ≤ 1000) (hr1 : Rd w a (vs.map (Value.int .u8))) (hr2 : Rd w b (vs.map (Value.int .u8))) :
    Calls Tryd.prog 20 #[.slice a vs.length c1, .slice b vs.length c2] w (YesRes w) := by
  obtain ⟨m, hmv⟩ : ∃ m, m = vs.length := ⟨_, rfl⟩
  rw [← hmv] at hm ⊢
  have HM := Lib.hid hmv
  have H1 := Lib.hid hr1
  have H2 := Lib.hid hr2
  clear hmv hr1 hr2
  go_enter Tryd.func20, Tryd.ntmps20
  go_wp2_with fail
  go_loopw [13] (fun i wr => ∃ j : Nat, j ≤ m ∧ i = .int .i64 j ∧ Hid (Below w.heap.size w wr)) (fun i _ => m - (intOf i).toNat)
  case atStart => exact ⟨0, Nat.zero_le _, rfl, Lib.hid (Below.refl _ _)⟩
  case round =>
    obtain ⟨j, hj, rfl, hbr⟩ := hrel
    by_cases hlt : j < m
    · have hli : (j : Int) < m := by omega
      have hjv : j < vs.length := by have := HM.out; omega
      obtain ⟨b1, o1, rfl, g1⟩ := (H1.out.below hbr.out (Nat.le_refl _)).at_ (by simp; omega)
      obtain ⟨b2, o2, rfl, g2⟩ := (H2.out.below hbr.out (Nat.le_refl _)).at_ (by simp; omega)
      obtain ⟨v, hv⟩ : ∃ v, v = vs[j] := ⟨_, rfl⟩
      have k1 : wr.cell? ⟨b1, o1 + j, none⟩ = some (.int .u8 v) := by rw [g1 j (by simp; omega), hv]; simp [List.getD, List.getElem?_eq_getElem hjv]
      have k2 : wr.cell? ⟨b2, o2 + j, none⟩ = some (.int .u8 v) := by rw [g2 j (by simp; omega), hv]; simp [List.getD, List.getElem?_eq_getElem hjv]
      clear g1 g2 hv
      go_wp2_with fail
      go_quiet (fail)
      go_wp2_with fail
      go_roundw
      case rel => exact ⟨j + 1, by omega, by go_num, Lib.hid (below_drewN hbr.out _)⟩
      case measure => simp [intOf]; omega
    · have hli : ¬ (j : Int) < m := by omega
      obtain rfl : j = m := by omega
      go_wp2_with fail
      go_ret
      exact ⟨rfl, hbr.out⟩
set_option maxHeartbeats 1000000 in
theorem get_i64 (sz : Nat) (h18 : 18 ≤ sz) (hsz : sz ≤ 65536) (ch : Nat) (hch : 1 ≤ ch) (vs : List Int) (es : List (List Int)) (a : Option Addr) (n c : Nat) (w : World) (hl : es.length = vs.length) (hm : vs.length ≤ 1000) (hv : Vw w a n c (flatE es)) (hn : n ≤ 1099511627776)
    (hf : ∀ i (h : i < es.length), Gets 31 (.int .i64 (vs.getD i 0)) es[i]) :
    Calls Tryd.prog 15 #[.slice a n c, .int .i64 (vs.length : Int), .int .i64 sz, .int .i64 ch] w (Taken .i64 vs.length vs w) := by
  have H := Lib.hid (taking_i64 sz h18 hsz ch hch vs es a n c w hl hm hv hn hf)
  clear hl hm hv hf
  go_enter Tryd.func15, Tryd.ntmps15
  go_wp2_with fail
  refine H.out.mono ?_
  rintro e w1 ⟨oa, oc, rfl, h1, h2⟩
  have HX := Lib.hid (And.intro h1 h2)
  clear h1 h2
  go_wp2_with fail
  go_ret2
  exact ⟨oa, oc, rfl, HX.out.1, HX.out.2⟩
set_option maxHeartbeats 1000000 in
theorem same_i64 (vs : List Int) (a b : Option Addr) (c1 c2 : Nat) (w : World) (hm : vs.length ≤ 1000) (hr1 : Rd w a (vs.map (Value.int .i64))) (hr2 : Rd w b (vs.map (Value.int .i64))) :
    Calls Tryd.prog 16 #[.slice a vs.length c1, .slice b vs.length c2] w (YesRes w) := by
  obtain ⟨m, hmv⟩ : ∃ m, m = vs.length := ⟨_, rfl⟩
  rw [← hmv] at hm ⊢
  have HM := Lib.hid hmv
  have H1 := Lib.hid hr1
  have H2 := Lib.hid hr2
  clear hmv hr1 hr2
  go_enter Tryd.func16, Tryd.ntmps16
  go_wp2_with fail
  go_loopw [13] (fun i wr => ∃ j : Nat, j ≤ m ∧ i = .int .i64 j ∧ Hid (Below w.heap.size w wr)) (fun i _ => m - (intOf i).toNat)
  case atStart => exact ⟨0, Nat.zero_le _, rfl, Lib.hid (Below.refl _ _)⟩
  case round =>
    obtain ⟨j, hj, rfl, hbr⟩ := hrel
    by_cases hlt : j < m
    · have hli : (j : Int) < m := by omega
      have hjv : j < vs.length := by have := HM.out; omega
      obtain ⟨b1, o1, rfl, g1⟩ := (H1.out.below hbr.out (Nat.le_refl _)).at_ (by simp; omega)
      obtain ⟨b2, o2, rfl, g2⟩ := (H2.out.below hbr.out (Nat.le_refl _)).at_ (by simp; omega)
      obtain ⟨v, hv⟩ : ∃ v, v = vs[j] := ⟨_, rfl⟩
      have k1 : wr.cell? ⟨b1, o1 + j, none⟩ = some (.int .i64 v) := by rw [g1 j (by simp; omega), hv]; simp [List.getD, List.getElem?_eq_getElem hjv]
      have k2 : wr.cell? ⟨b2, o2 + j, none⟩ = some (.int .i64 v) := by rw [g2 j (by simp; omega), hv]; simp [List.getD, List.getElem?_eq_getElem hjv]
      clear g1 g2 hv
      go_wp2_with fail
      go_quiet (fail)
      go_wp2_with fail
      go_roundw
      case rel => exact ⟨j + 1, by omega, by go_num, Lib.hid (below_drewN hbr.out _)⟩
      case measure => simp [intOf]; omega
    · have hli : ¬ (j : Int) < m := by omega
      obtain rfl : j = m := by omega
      go_wp2_with fail
      go_ret
      exact ⟨rfl, hbr.out⟩
set_option maxHeartbeats 1000000 in
theorem get_u64 (sz : Nat) (h18 : 18 ≤ sz) (hsz : sz ≤ 65536) (ch : Nat) (hch : 1 ≤ ch) (vs : List Int) (es : List (List Int)) (a : Option Addr) (n c : Nat) (w : World) (hl : es.length = vs.length) (hm : vs.length ≤ 1000) (hv : Vw w a n c (flatE es)) (hn : n ≤ 1099511627776)
    (hf : ∀ i (h : i < es.length), Gets 26 (.int .u64 (vs.getD i 0)) es[i]) :
    Calls Tryd.prog 12 #[.slice a n c, .int .i64 (vs.length : Int), .int .i64 sz, .int .i64 ch] w (Taken .u64 vs.length vs w) := by
  have H := Lib.hid (taking_u64 sz h18 hsz ch hch vs es a n c w hl hm hv hn hf)
  clear hl hm hv hf
  go_enter Tryd.func12, Tryd.ntmps12
  go_wp2_with fail
  refine H.out.mono ?_
  rintro e w1 ⟨oa, oc, rfl, h1, h2⟩
  have HX := Lib.hid (And.intro h1 h2)
  clear h1 h2
  go_wp2_with fail
  go_ret2
  exact ⟨oa, oc, rfl, HX.out.1, HX.out.2⟩
set_option maxHeartbeats 1000000 in
theorem same_u64 (vs : List Int) (a b : Option Addr) (c1 c2 : Nat) (w : World) (hm : vs.length ≤ 1000) (hr1 : Rd w a (vs.map (Value.int .u64))) (hr2 : Rd w b (vs.map (Value.int .u64))) :
    Calls Tryd.prog 14 #[.slice a vs.length c1, .slice b vs.length c2] w (YesRes w) := by
  obtain ⟨m, hmv⟩ : ∃ m, m = vs.length := ⟨_, rfl⟩
  rw [← hmv] at hm ⊢
  have HM := Lib.hid hmv
  have H1 := Lib.hid hr1
  have H2 := Lib.hid hr2
  clear hmv hr1 hr2
  go_enter Tryd.func14, Tryd.ntmps14
  go_wp2_with fail
  go_loopw [13] (fun i wr => ∃ j : Nat, j ≤ m ∧ i = .int .i64 j ∧ Hid (Below w.heap.size w wr)) (fun i _ => m - (intOf i).toNat)
  case atStart => exact ⟨0, Nat.zero_le _, rfl, Lib.hid (Below.refl _ _)⟩
  case round =>
    obtain ⟨j, hj, rfl, hbr⟩ := hrel
    by_cases hlt : j < m
    · have hli : (j : Int) < m := by omega
      have hjv : j < vs.length := by have := HM.out; omega
      obtain ⟨b1, o1, rfl, g1⟩ := (H1.out.below hbr.out (Nat.le_refl _)).at_ (by simp; omega)
      obtain ⟨b2, o2, rfl, g2⟩ := (H2.out.below hbr.out (Nat.le_refl _)).at_ (by simp; omega)
      obtain ⟨v, hv⟩ : ∃ v, v = vs[j] := ⟨_, rfl⟩
      have k1 : wr.cell? ⟨b1, o1 + j, none⟩ = some (.int .u64 v) := by rw [g1 j (by simp; omega), hv]; simp [List.getD, List.getElem?_eq_getElem hjv]
      have k2 : wr.cell? ⟨b2, o2 + j, none⟩ = some (.int .u64 v) := by rw [g2 j (by simp; omega), hv]; simp [List.getD, List.getElem?_eq_getElem hjv]
      clear g1 g2 hv
      go_wp2_with fail
      go_quiet (fail)
      go_wp2_with fail
      go_roundw
      case rel => exact ⟨j + 1, by omega, by go_num, Lib.hid (below_drewN hbr.out _)⟩
      case measure => simp [intOf]; omega
    · have hli : ¬ (j : Int) < m := by omega
      obtain rfl : j = m := by omega
      go_wp2_with fail
      go_ret
      exact ⟨rfl, hbr.out⟩
set_option maxHeartbeats 1000000 in
theorem get_u32 (sz : Nat) (h18 : 18 ≤ sz) (hsz : sz ≤ 65536) (ch : Nat) (hch : 1 ≤ ch) (vs : List Int) (es : List (List Int)) (a : Option Addr) (n c : Nat) (w : World) (hl : es.length = vs.length) (hm : vs.length ≤ 1000) (hv : Vw w a n c (flatE es)) (hn : n ≤ 1099511627776)
    (hf : ∀ i (h : i < es.length), Gets 22 (.int .u32 (vs.getD i 0)) es[i]) :
    Calls Tryd.prog 8 #[.slice a n c, .int .i64 (vs.length : Int), .int .i64 sz, .int .i64 ch] w (Taken .u32 vs.length vs w) := by
  have H := Lib.hid (taking_u32 sz h18 hsz ch hch vs es a n c w hl hm hv hn hf)
  clear hl hm hv hf
  go_enter Tryd.func8, Tryd.ntmps8
  go_wp2_with fail
  refine H.out.mono ?_
  rintro e w1 ⟨oa, oc, rfl, h1, h2⟩
  have HX := Lib.hid (And.intro h1 h2)
  clear h1 h2
  go_wp2_with fail
  go_ret2
  exact ⟨oa, oc, rfl, HX.out.1, HX.out.2⟩
set_option maxHeartbeats 1000000 in
theorem same_u32 (vs : List Int) (a b : Option Addr) (c1 c2 : Nat) (w : World) (hm : vs.length ≤ 1000) (hr1 : Rd w a (vs.map (Value.int .u32))) (hr2 : Rd w b (vs.map (Value.int .u32))) :
    Calls Tryd.prog 11 #[.slice a vs.length c1, .slice b vs.length c2] w (YesRes w) := by
  obtain ⟨m, hmv⟩ : ∃ m, m = vs.length := ⟨_, rfl⟩
  rw [← hmv] at hm ⊢
  have HM := Lib.hid hmv
  have H1 := Lib.hid hr1
  have H2 := Lib.hid hr2
  clear hmv hr1 hr2
  go_enter Tryd.func11, Tryd.ntmps11
  go_wp2_with fail
  go_loopw [13] (fun i wr => ∃ j : Nat, j ≤ m ∧ i = .int .i64 j ∧ Hid (Below w.heap.size w wr)) (fun i _ => m - (intOf i).toNat)
  case atStart => exact ⟨0, Nat.zero_le _, rfl, Lib.hid (Below.refl _ _)⟩
  case round =>
    obtain ⟨j, hj, rfl, hbr⟩ := hrel
    by_cases hlt : j < m
    · have hli : (j : Int) < m := by omega
      have hjv : j < vs.length := by have := HM.out; omega
      obtain ⟨b1, o1, rfl, g1⟩ := (H1.out.below hbr.out (Nat.le_refl _)).at_ (by simp; omega)
      obtain ⟨b2, o2, rfl, g2⟩ := (H2.out.below hbr.out (Nat.le_refl _)).at_ (by simp; omega)
      obtain ⟨v, hv⟩ : ∃ v, v = vs[j] := ⟨_, rfl⟩
      have k1 : wr.cell? ⟨b1, o1 + j, none⟩ = some (.int .u32 v) := by rw [g1 j (by simp; omega), hv]; simp [List.getD, List.getElem?_eq_getElem hjv]
      have k2 : wr.cell? ⟨b2, o2 + j, none⟩ = some (.int .u32 v) := by rw [g2 j (by simp; omega), hv]; simp [List.getD, List.getElem?_eq_getElem hjv]
      clear g1 g2 hv
      go_wp2_with fail
      go_quiet (fail)
      go_wp2_with fail
      go_roundw
      case rel => exact ⟨j + 1, by omega, by go_num, Lib.hid (below_drewN hbr.out _)⟩
      case measure => simp [intOf]; omega
    · have hli : ¬ (j : Int) < m := by omega
      obtain rfl : j = m := by omega
      go_wp2_with fail
      go_ret
      exact ⟨rfl, hbr.out⟩
end Go.Proofs.YtfaangichifbgaaDoor
