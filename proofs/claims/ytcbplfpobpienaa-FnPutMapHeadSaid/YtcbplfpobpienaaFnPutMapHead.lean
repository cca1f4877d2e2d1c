/- msgp.AppendMapHeader, impl.PutMapHead, the walk of laws.FnPutMapHead. -/
import Derived.Test.YtcbplfpobpienaaAppended
import Derived.Test.YtcbplfpobpienaaHead
import Derived.Test.YtcbplfpobpienaaPutInt
namespace Go.Proofs.Ytcbplfpobpienaa
open Go.RowKit
set_option linter.unusedVariables false

theorem u8_fixmap (x : Int) (h0 : 0 ≤ x) (h1 : x < 16) : bits .or .u8 128 (x % 16) = 128 + x := by
  rw [Int.emod_eq_of_lt h0 h1, u8_or 128 _ (by omega) (by omega) (by omega) (by omega), show (128 : Int).toNat = 128 from rfl, nat_join 4 128 x.toNat (by decide) (by omega)]
  omega

set_option maxHeartbeats 1000000 in
theorem appendMap_1 (u : Int) (h0 : 0 ≤ u) (h1 : u < 16) (B : Nat) (a : Option Addr) (n c : Nat) (l : List Int) (w : World) (hv : O8 w B a n c l) (hB : B ≤ w.heap.size) (hn : n ≤ 1099511627776) :
    Calls Try.prog 23 #[.slice a n c, .int .u32 u] w fun e w' => ∃ a' c', e = .returned (.slice a' (n + 1) c') ∧ O8 w' B a' (n + 1) c' (l ++ [128 + u]) ∧ Below B w w' := by
  have hl := Own.lit 5 w [128 + u] (by simp; omega) (by simp)
  have hfix := u8_fixmap u h0 h1
  go_enter Try.func23, Try.ntmps23
  go_wp2_with (first | (at_builtin; refine app8 (by rfl) _ _ (by rfl) B _ n c l (by rfl) (hv.alloc _) _ 1 1 [128 + u] (by rfl) hl.vw (by omega) (by simp <;> omega) ?_; intro a' c' w1 ho hg) | (go_at_call 34; go_in))
  go_wp2_with fail
  go_ret
  refine ⟨a', c', rfl, ho, ?_⟩
  exact Below.trans (b := w.alloc _) ((Below.refl _ _).alloc hB _) (below_of_grown hg (by simp <;> omega) hv.ge)

set_option maxHeartbeats 1000000 in
theorem appendMap_3 (u : Int) (h0 : 16 ≤ u) (h1 : u < 65536) (B : Nat) (a : Option Addr) (n c : Nat) (l : List Int) (w : World) (hv : O8 w B a n c l) (hB : B ≤ w.heap.size) (hn : n ≤ 1099511627776) :
    Calls Try.prog 23 #[.slice a n c, .int .u32 u] w fun e w' => ∃ a' c', e = .returned (.slice a' (n + 3) c') ∧ O8 w' B a' (n + 3) c' (l ++ [222, u / 256, u % 256]) ∧ Below B w w' := by
  have hl := hv.vw.len
  go_enter Try.func23, Try.ntmps23
  go_wp2_with (go_at_call 35; refine (ensure_any B _ _ _ l 3 3 rfl _ hv hB hn (by omega) (by omega)).mono ?_; rintro e w1 ⟨g, c1, rfl, hg, hr, hb1⟩; obtain ⟨cur, hblk, hcs, hfit, hcb⟩ := hr.blk; have hne : ¬ c1 = n := by omega)
  refine (prefixu16_t g n 3 (c1 - n) 222 _ w1 (by omega) (by omega) cur hblk (by omega) (by omega)).mono ?_
  rintro e w2 ⟨rfl, rfl⟩
  go_wp2_with fail
  go_ret
  have ho := room_own hr B hg [222, u / 256, u % 256] rfl (by simp; omega)
  rw [hl] at ho
  exact ⟨_, _, rfl, ho, hb1.trans (puts_below hg _ _ _)⟩

set_option maxHeartbeats 1000000 in
theorem appendMap_5 (u : Int) (h0 : 65536 ≤ u) (h1 : u < 4294967296) (B : Nat) (a : Option Addr) (n c : Nat) (l : List Int) (w : World) (hv : O8 w B a n c l) (hB : B ≤ w.heap.size) (hn : n ≤ 1099511627776) :
    Calls Try.prog 23 #[.slice a n c, .int .u32 u] w fun e w' => ∃ a' c', e = .returned (.slice a' (n + 5) c') ∧ O8 w' B a' (n + 5) c' (l ++ [223, u / 16777216, u / 65536 % 256, u / 256 % 256, u % 256]) ∧ Below B w w' := by
  have hl := hv.vw.len
  go_enter Try.func23, Try.ntmps23
  go_wp2_with (go_at_call 35; refine (ensure_any B _ _ _ l 5 5 rfl _ hv hB hn (by omega) (by omega)).mono ?_; rintro e w1 ⟨g, c1, rfl, hg, hr, hb1⟩; obtain ⟨cur, hblk, hcs, hfit, hcb⟩ := hr.blk; have hne : ¬ c1 = n := by omega)
  refine (prefixu32_t g n 5 (c1 - n) 223 _ w1 (by omega) (by omega) cur hblk (by omega) (by omega)).mono ?_
  rintro e w2 ⟨rfl, rfl⟩
  go_wp2_with fail
  go_ret
  have ho := room_own hr B hg [223, u / 16777216, u / 65536 % 256, u / 256 % 256, u % 256] rfl (by simp; omega)
  rw [hl] at ho
  exact ⟨_, _, rfl, ho, hb1.trans (puts_below hg _ _ _)⟩

/-- What TakeHead tells of written bytes. -/
def HeadReads (enc : List Int) (u : Int) : Prop :=
  ∀ (w0 : World) (a : Option Addr) (n c : Nat), Vw w0 a n c enc → ∃ a' c', ∀ w, Below w0.heap.size w0 w → Head a n c w 9 u a' 0 c'

theorem apps_map (u : Int) (h0 : 0 ≤ u) (h1 : u < 4294967296) : ∃ enc, 1 ≤ enc.length ∧ enc.length ≤ 5 ∧ HeadReads enc u ∧ Apps 23 (.int .u32 u) enc := by
  by_cases c1 : u < 16
  · refine ⟨[128 + u], by simp, by simp, fun w0 a n c hv => ?_, fun B a n c l w hv hB hn => appendMap_1 u h0 c1 B a n c l w hv hB hn⟩
    obtain ⟨a', h2, h3⟩ := takeHead_fixmap (128 + u) (by omega) (by omega) a n c [] w0 hv
    have e : n - 1 = 0 := by have := h2.len; simpa using this.symm
    rw [e, show 128 + u - 128 = u by omega] at h3
    exact ⟨a', _, h3⟩
  · by_cases c2 : u < 65536
    · refine ⟨[222, u / 256, u % 256], by simp, by simp, fun w0 a n c hv => ?_, fun B a n c l w hv hB hn => appendMap_3 u (by omega) c2 B a n c l w hv hB hn⟩
      have hn : n = 3 := by have := hv.len; simpa using this.symm
      subst hn
      obtain ⟨a', h2, h3⟩ := takeHead_map 222 2 (by omega) a 3 c [u / 256, u % 256] w0 hv (by omega)
      have e : beN ([u / 256, u % 256].take 2) = u := by simp only [List.take, beN, List.foldl]; omega
      rw [e] at h3
      exact ⟨a', _, h3⟩
    · refine ⟨[223, u / 16777216, u / 65536 % 256, u / 256 % 256, u % 256], by simp, by simp, fun w0 a n c hv => ?_, fun B a n c l w hv hB hn => appendMap_5 u (by omega) h1 B a n c l w hv hB hn⟩
      have hn : n = 5 := by have := hv.len; simpa using this.symm
      subst hn
      obtain ⟨a', h2, h3⟩ := takeHead_map 223 4 (by omega) a 5 c [u / 16777216, u / 65536 % 256, u / 256 % 256, u % 256] w0 hv (by omega)
      have e : beN ([u / 16777216, u / 65536 % 256, u / 256 % 256, u % 256].take 4) = u := by simp only [List.take, beN, List.foldl]; omega
      rw [e] at h3
      exact ⟨a', _, h3⟩

theorem puts_PutMapHead (u : Int) (enc : List Int) (h : Apps 23 (.int .u32 u) enc) : Puts 13 (.int .u32 u) enc := by
  intro a n c l w hv hn
  have H := Lib.hid h
  clear h
  go_enter Try.func13, Try.ntmps13
  go_wp2_with (go_at_call 19; refine (copied_any _ _ _ _ _ hv hn).mono ?_; rintro e w1 ⟨a1, c1, rfl, h1, hb1⟩)
  refine (H.out _ _ _ _ _ _ h1 hb1.size hn).mono ?_
  rintro e w2 ⟨a2, c2, rfl, h2, hb2⟩
  go_wp2_with fail
  go_ret
  exact ⟨a2, c2, rfl, h2, Below.trans hb1 hb2⟩

set_option maxRecDepth 100000 in
set_option maxHeartbeats 1000000 in
theorem fnPutMapHead_walk (a : Option Addr) (n c : Nat) (l : List Int) (u : Int) (w : World) (hv : Vw w a n c l) (h0 : 0 ≤ u) (h1 : u < 4294967296) :
    Calls Try.prog 5 #[.slice a n c, .int .u32 u] w fun e w' => e = .returned (.bool true) ∧ Below w.heap.size w w' := by
  by_cases hbig : 2147483647 < n
  · have hb : (2147483647 : Int) < n := by omega
    go_enter Try.func5, Try.ntmps5
    go_wp2_with fail
    go_ret
    exact ⟨rfl, Below.refl _ _⟩
  · have hb : ¬ ((2147483647 : Int) < n) := by omega
    obtain ⟨enc5, l5, _, _, ap5⟩ := apps_map 5 (by omega) (by omega)
    obtain ⟨enc, l1, l2, hrd, ap⟩ := apps_map u h0 h1
    have P5 := Lib.hid (puts_PutMapHead 5 enc5 ap5)
    have PU := Lib.hid (puts_PutMapHead u enc ap)
    have HR := Lib.hid hrd
    have hpos : decide (0 < enc5.length) = true := by simp; omega
    have hpos' : 0 < enc5.length := by omega
    clear ap5 ap hrd
    go_enter Try.func5, Try.ntmps5
    go_wp2_with fail
    refine (P5.out none 0 0 [] _ (Vw.nil _) (by omega)).mono ?_
    rintro e w1 ⟨a1, c1, rfl, ho1, hb1⟩
    go_wp2_with fail
    by_cases hf : n ≤ 200
    · refine (few_yes _ _ _ _ hf).mono ?_
      rintro e w1 ⟨rfl, rfl⟩
      have hv1 := Vw.below hb1 (Nat.le_refl _) hv
      go_wp2_with (at_builtin; refine app8_copy (by rfl) _ _ (by rfl) (by rfl) a n c l (by rfl) hv1 (by omega) ?_; intro a2 c2 w2 ho hb2)
      go_wp2_with fail
      refine (PU.out _ _ _ _ _ ho.vw (by omega)).mono ?_
      rintro e w3 ⟨a3, c3, rfl, h3, hb3⟩
      have hv3 := Vw.below hb3 (Nat.le_refl _) (Vw.below hb2 (Nat.le_refl _) hv1)
      have hlb := hv3.len
      have hcc := h3.vw.cap
      have hcb := h3.vw.big
      have hmn : ((n + enc.length : Nat) : Int) < (n : Int) ↔ False := by simp; omega
      obtain ⟨b1, hs, hvb⟩ := off_of h3.vw (n : Int) n rfl (by omega)
      have e1 : List.drop n (l ++ enc) = enc := by rw [← hlb, List.drop_left]
      rw [e1, Nat.add_sub_cancel_left] at hvb
      obtain ⟨b2, c4, hcall⟩ := HR.out w3 b1 _ _ hvb
      have HC := Lib.hid hcall
      unfold Off at hs
      have hvt := h3.vw.take (k := n) (by omega)
      have e2 : List.take n (l ++ enc) = l := by rw [← hlb, List.take_left]
      rw [e2] at hvt
      have hc1 := fun nq => conv_of (hvt.drewN nq)
      have hc2 := fun nq => conv_of (hv3.drewN nq)
      have hnc : n ≤ c3 := by omega
      clear hcall e1 e2
      have hlt : decide ((n : Int) + (enc.length : Int) < (n : Int)) = false := by simp; omega
      go_wp2_with fail
      go_quiet (fail)
      go_wp2_with fail
      refine Calls.mono (HC.out _ (by (repeat (first | with_reducible exact Below.refl _ _ | with_reducible assumption | with_reducible refine below_drewN ?_ _ | with_reducible refine Below.drew ?_ | with_reducible refine below_row ?_ (by first | omega | (simp; done) | (simp; omega)) _ | with_reducible refine Below.alloc ?_ (by first | omega | (simp; done) | (simp; omega)) _ | with_reducible refine Below.setCell ?_ (by first | omega | (simp; done) | (simp; omega)) _)))) ?_
      rintro e w4 ⟨rfl, hb4⟩
      go_wp2_with fail
      go_ret
      refine ⟨rfl, hb1.trans ((hb2.mono hb1.size).trans ((hb3.mono (Nat.le_trans hb1.size hb2.size)).trans (Below.trans ?_ (hb4.mono (Nat.le_trans hb1.size (Nat.le_trans hb2.size hb3.size))))))⟩
      (repeat (first | with_reducible exact Below.refl _ _ | with_reducible assumption | with_reducible refine below_drewN ?_ _ | with_reducible refine Below.drew ?_ | with_reducible refine below_row ?_ (by first | omega | (simp; done) | (simp; omega)) _ | with_reducible refine Below.alloc ?_ (by first | omega | (simp; done) | (simp; omega)) _ | with_reducible refine Below.setCell ?_ (by first | omega | (simp; done) | (simp; omega)) _))
    · refine (few_no _ _ _ _ (by omega)).mono ?_
      rintro e w1 ⟨rfl, rfl⟩
      go_wp2_with fail
      go_ret
      exact ⟨rfl, hb1⟩
end Go.Proofs.Ytcbplfpobpienaa
