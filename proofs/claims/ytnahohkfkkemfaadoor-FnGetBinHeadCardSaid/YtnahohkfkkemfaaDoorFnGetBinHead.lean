/- THE WALK of laws.FnGetBinHead. -/
import Derived.Test.YtnahohkfkkemfaaDoorPutHead
import Derived.Test.YtnahohkfkkemfaaDoorGetBin
namespace Go.Proofs.YtnahohkfkkemfaaDoor
open Go.RowKit
set_option linter.unusedVariables false
set_option linter.unusedSimpArgs false

theorem nat_of_u32 (k : Int) (h : (Lit.int .u32 k).wf = true) : ∃ n : Nat, k = n ∧ n ≤ 4294967295 := by
  have h2 : IntKind.u32.min ≤ k ∧ k ≤ IntKind.u32.max := by simpa [Lit.wf] using h
  have h3 : 0 ≤ k ∧ k ≤ 4294967295 := h2
  exact ⟨k.toNat, by omega, by omega⟩
theorem mem_may {u : Int} {l : List (Int × Nat)} {f : Int × Nat} (h : f ∈ may u l) : f ∈ l ∧ (8 ≤ f.2 ∨ u / 2 ^ (8 * f.2) = 0) := by
  have := List.mem_filter.1 h
  refine ⟨this.1, ?_⟩
  have h2 := this.2
  simp only [holds, Bool.or_eq_true, decide_eq_true_eq] at h2
  exact h2

theorem beL1 (u : Int) : beL u 1 = [u % 256] := by simp [beL, List.range_succ, byteAt]
theorem beL2 (u : Int) : beL u 2 = [u / 256 % 256, u % 256] := by simp [beL, List.range_succ, byteAt]
theorem beL4 (u : Int) : beL u 4 = [u / 16777216 % 256, u / 65536 % 256, u / 256 % 256, u % 256] := by simp [beL, List.range_succ, byteAt]

theorem head7 (n : Nat) (x : List Int) (h : HeadK 7 n x) (t : List Int) : isBin (x ++ t) = some ((n : Int), x.length) ∧ 0 < x.length ∧ isBin (x.take (x.length - 1)) = none := by
  unfold HeadK at h
  rw [if_neg (by omega), if_neg (by omega), if_pos rfl] at h
  rcases h with ⟨h0, _⟩ | ⟨⟨z, s⟩, hf, rfl⟩
  · omega
  · obtain ⟨hm, hh⟩ := mem_may hf
    simp only [List.mem_cons, Prod.mk.injEq, List.not_mem_nil, or_false] at hm
    rcases hm with ⟨rfl, rfl⟩ | ⟨rfl, rfl⟩ | ⟨rfl, rfl⟩
    · have hn : (n : Int) / 256 = 0 := by rcases hh with h | h; omega; exact h
      refine ⟨?_, by simp, ?_⟩
      · simp [isBin, beL1]; omega
      · simp [isBin, beL1]
    · have hn : (n : Int) / 65536 = 0 := by rcases hh with h | h; omega; exact h
      refine ⟨?_, by simp, ?_⟩
      · simp [isBin, beL2, beN]; omega
      · simp [isBin, beL2]
    · have hn : (n : Int) / 4294967296 = 0 := by rcases hh with h | h; omega; exact h
      refine ⟨?_, by simp, ?_⟩
      · simp [isBin, beL4, beN]; omega
      · simp [isBin, beL4]

theorem isBin_other (z : Int) (t : List Int) (h : z ≠ 196 ∧ z ≠ 197 ∧ z ≠ 198) : isBin (z :: t) = none := by
  simp [isBin, h.1, h.2.1, h.2.2]
theorem isBin_nil : isBin [] = none := by simp [isBin]

theorem head_other (k : Int) (n : Nat) (x : List Int) (hk : k = 8 ∨ k = 9 ∨ k = 6) (h : HeadK k n x) (t : List Int) : isBin (x ++ t) = none ∧ 0 < x.length ∧ isBin (x.take (x.length - 1)) = none := by
  have key : ∃ z r, x = z :: r ∧ z ≠ 196 ∧ z ≠ 197 ∧ z ≠ 198 := by
    unfold HeadK at h
    rcases hk with rfl | rfl | rfl
    · rw [if_pos rfl] at h
      rcases h with ⟨h0, h1, rfl⟩ | ⟨⟨z, s⟩, hf, rfl⟩
      · exact ⟨_, _, rfl, by omega, by omega, by omega⟩
      · obtain ⟨hm, hh⟩ := mem_may hf
        simp only [List.mem_cons, Prod.mk.injEq, List.not_mem_nil, or_false] at hm
        exact ⟨_, _, rfl, by rcases hm with ⟨rfl, rfl⟩ | ⟨rfl, rfl⟩ <;> omega⟩
    · rw [if_neg (by omega), if_pos rfl] at h
      rcases h with ⟨h0, h1, rfl⟩ | ⟨⟨z, s⟩, hf, rfl⟩
      · exact ⟨_, _, rfl, by omega, by omega, by omega⟩
      · obtain ⟨hm, hh⟩ := mem_may hf
        simp only [List.mem_cons, Prod.mk.injEq, List.not_mem_nil, or_false] at hm
        exact ⟨_, _, rfl, by rcases hm with ⟨rfl, rfl⟩ | ⟨rfl, rfl⟩ <;> omega⟩
    · rw [if_neg (by omega), if_neg (by omega), if_neg (by omega)] at h
      rcases h with ⟨h0, h1, rfl⟩ | ⟨⟨z, s⟩, hf, rfl⟩
      · exact ⟨_, _, rfl, by omega, by omega, by omega⟩
      · obtain ⟨hm, hh⟩ := mem_may hf
        simp only [List.mem_cons, Prod.mk.injEq, List.not_mem_nil, or_false] at hm
        exact ⟨_, _, rfl, by rcases hm with ⟨rfl, rfl⟩ | ⟨rfl, rfl⟩ | ⟨rfl, rfl⟩ <;> omega⟩
  obtain ⟨z, r, rfl, hz⟩ := key
  refine ⟨isBin_other z _ hz, by simp, ?_⟩
  cases r with
  | nil => simp [isBin_nil]
  | cons y r => simp; exact isBin_other z _ hz

theorem headK_len (k : Int) (n : Nat) (x : List Int) (h : HeadK k n x) : x.length ≤ 9 := by
  have : ∀ fx un l, HeadL n fx un l x → (∀ f ∈ l, f.2 ≤ 8) → x.length ≤ 9 := by
    rintro fx un l (⟨_, _, rfl⟩ | ⟨f, hf, rfl⟩) hl
    · simp
    · have := hl f (mem_may hf).1
      simp [beL_len]; omega
  unfold HeadK at h
  split at h
  · exact this _ _ _ h (by simp)
  · split at h
    · exact this _ _ _ h (by simp)
    · split at h
      · exact this _ _ _ h (by simp)
      · exact this _ _ _ h (by simp)

theorem Gl.below {w w' : World} {B : Nat} (h : Gl w) (hb : Below B w w') (hB : w.heap.size ≤ B) : Gl w' := by
  obtain ⟨T, v, hc⟩ := h
  have := World.block_lt_of_cell? w _ hc
  exact ⟨T, v, by rw [hb.cell (p := ⟨0, 0, none⟩) (by simp at this ⊢; omega)]; exact hc⟩
theorem Gl.alloc {w : World} (h : Gl w) (o : Obj) : Gl (w.alloc o) := h.below ((Below.refl w.heap.size w).alloc (Nat.le_refl _) o) (Nat.le_refl _)

set_option maxRecDepth 100000 in
set_option maxHeartbeats 4000000 in
theorem fnGetBinHead_walk (k : Int) (n : Nat) (hn : n ≤ 4294967295) (s : Int) (hs0 : 0 ≤ s) (hs1 : s < 18446744073709551616) (a0 : Option Addr) (m0 c0 : Nat) (l : List Int) (cut : Bool) (w : World) (hv : Vw w a0 m0 c0 l) (hg : Gl w) :
    Calls Tryd.prog 4 #[.int .i64 k, .int .u32 n, .int .u64 s, .slice a0 m0 c0, .bool cut] w fun e w' => e = .returned (.bool true) ∧ Below w.heap.size w w' := by
  have HG := Lib.hid hg
  have hm0 := hv.len
  clear hg
  by_cases hbig : m0 ≤ 2147483647
  · have e0 : decide ((m0 : Int) > 2147483647) = false := by simp; omega
    have hl := Own.lit 5 w [196, 5] (by simp) (by simp)
    go_enter Tryd.func4, Tryd.ntmps4
    go_wp2_with fail
    refine (getBin_good _ 2 2 [196, 5] (by simp) 5 2 (by simp [isBin]) _ hl.vw).mono ?_
    rintro e w1 ⟨a1, c1, rfl, hv1, hb1⟩
    have hbw1 : Below w.heap.size w w1 := Below.trans (b := _) (by (repeat (first | with_reducible exact Below.refl _ _ | with_reducible assumption | with_reducible refine below_drewN ?_ _ | with_reducible refine Below.drew ?_ | with_reducible refine below_row ?_ (by first | omega | (simp; done) | (simp; omega)) _ | with_reducible refine Below.alloc ?_ (by first | omega | (simp; done) | (simp; omega)) _ | with_reducible refine Below.setCell ?_ (by first | omega | (simp; done) | (simp; omega)) _))) (hb1.mono (by (first | omega | (simp; done) | (simp; omega))))
    have hs1' : w.heap.size + 1 ≤ w1.heap.size := by have := hb1.size; simp at this; omega
    clear hl hv1 hb1
    by_cases hk : (k = 8 ∨ k = 9 ∨ k = 7 ∨ k = 6) ∧ m0 ≤ 100
    · obtain ⟨hk, hm⟩ := hk
      have e1 : decide ((m0 : Int) > 100) = false := by simp; omega
      have HKK := Lib.hid hk
      have hFB : FB (w1.alloc (.cells #[.int .u64 s, .bool false] 39)) w1.heap.size false := ⟨s, hs0, hs1, Blk.new _ _ _⟩
      have hput := PutHead_any k n hn w1.heap.size false _ hFB
      have HP := Lib.hid hput
      clear hput hFB
      rcases hk with rfl | rfl | rfl | rfl
      · go_wp2_with fail
        refine HP.out.mono ?_
        rintro e w2 ⟨a2, n2, c2, x, rfl, ho2, hL, hF2, hk2⟩
        have hbk : Below w1.heap.size (w1.alloc (.cells #[.int .u64 s, .bool false] 39)) w2 := hk2.below (by simp) (Nat.le_refl _)
        have hs2 : w1.heap.size + 1 ≤ w2.heap.size := by have := hk2.size; simp at this; omega
        have hbw2 : Below w.heap.size w w2 := Below.trans (b := _) (by (repeat (first | with_reducible exact Below.refl _ _ | with_reducible assumption | with_reducible refine below_drewN ?_ _ | with_reducible refine Below.drew ?_ | with_reducible refine below_row ?_ (by first | omega | (simp; done) | (simp; omega)) _ | with_reducible refine Below.alloc ?_ (by first | omega | (simp; done) | (simp; omega)) _ | with_reducible refine Below.setCell ?_ (by first | omega | (simp; done) | (simp; omega)) _))) (hbk.mono (by omega))
        obtain ⟨hgood, hx0, hcutx⟩ := (head_other 8 n x (by omega) hL l)
        have hxl := headK_len _ n x hL
        have hx2 := ho2.vw.len
        have hG2 := HG.out.below hbw2 (Nat.le_refl _)
        have hv2 := Vw.below hbw2 (Nat.le_refl _) hv
        have hcap2 := ho2.vw.cap
        have hbig2 := ho2.vw.big
        have H1 := Lib.hid hgood
        have H2 := Lib.hid hcutx
        have H3 := Lib.hid hx2
        have H4 := Lib.hid hm0
        have hn2 : 0 < n2 := by omega
        have hn9 : n2 ≤ 9 := by omega
        clear hgood hcutx hx2 hk2 hL hF2 hx0
        cases cut with
        | true =>
          obtain ⟨q, rfl⟩ : ∃ q : Nat, n2 = q + 1 := ⟨n2 - 1, by omega⟩
          have hvt := ho2.vw.take (k := q) (by omega)
          rw [show q = x.length - 1 by have := H3.out; omega] at hvt
          have hbad := getBin_bad a2 _ c2 _ H2.out w2 hvt hG2
          rw [show x.length - 1 = q by have := H3.out; omega] at hbad
          have HB := Lib.hid hbad
          clear hvt hbad
          go_wp2_with fail
          refine HB.out.mono ?_
          rintro e w3 ⟨rfl, hb3⟩
          go_wp2_with fail
          go_ret
          exact ⟨rfl, hbw2.trans (hb3.mono hbw2.size)⟩
        | false =>
          go_wp2_with (at_builtin; refine app8 (by rfl) _ _ (by rfl) (w1.heap.size + 1) a2 n2 c2 x (by rfl) (by simpa using ho2) a0 m0 c0 l (by rfl) hv2 (by omega) (by omega) ?_; intro a3 c3 w3 ho3 hg3; have hb3 := below_of_grown (B := w1.heap.size + 1) hg3 (by omega) (by simpa using ho2.ge))
          have hbw3 : Below w.heap.size w w3 := hbw2.trans (hb3.mono (by omega))
          have hlen : (x ++ l).length ≤ 1099511627776 := by rw [List.length_append]; have := H3.out; have := H4.out; omega
          have hgd := getBin_bad a3 (n2 + m0) c3 (x ++ l) H1.out w3 ho3.vw (HG.out.below hbw3 (Nat.le_refl _))
          have HB := Lib.hid hgd
          clear hgd
          refine HB.out.mono ?_
          rintro e w4 ⟨rfl, hb4⟩
          have hbw4 := hbw3.trans (hb4.mono hbw3.size)
          go_wp2_with fail
          go_ret
          exact ⟨rfl, hbw4⟩
      · go_wp2_with fail
        refine HP.out.mono ?_
        rintro e w2 ⟨a2, n2, c2, x, rfl, ho2, hL, hF2, hk2⟩
        have hbk : Below w1.heap.size (w1.alloc (.cells #[.int .u64 s, .bool false] 39)) w2 := hk2.below (by simp) (Nat.le_refl _)
        have hs2 : w1.heap.size + 1 ≤ w2.heap.size := by have := hk2.size; simp at this; omega
        have hbw2 : Below w.heap.size w w2 := Below.trans (b := _) (by (repeat (first | with_reducible exact Below.refl _ _ | with_reducible assumption | with_reducible refine below_drewN ?_ _ | with_reducible refine Below.drew ?_ | with_reducible refine below_row ?_ (by first | omega | (simp; done) | (simp; omega)) _ | with_reducible refine Below.alloc ?_ (by first | omega | (simp; done) | (simp; omega)) _ | with_reducible refine Below.setCell ?_ (by first | omega | (simp; done) | (simp; omega)) _))) (hbk.mono (by omega))
        obtain ⟨hgood, hx0, hcutx⟩ := (head_other 9 n x (by omega) hL l)
        have hxl := headK_len _ n x hL
        have hx2 := ho2.vw.len
        have hG2 := HG.out.below hbw2 (Nat.le_refl _)
        have hv2 := Vw.below hbw2 (Nat.le_refl _) hv
        have hcap2 := ho2.vw.cap
        have hbig2 := ho2.vw.big
        have H1 := Lib.hid hgood
        have H2 := Lib.hid hcutx
        have H3 := Lib.hid hx2
        have H4 := Lib.hid hm0
        have hn2 : 0 < n2 := by omega
        have hn9 : n2 ≤ 9 := by omega
        clear hgood hcutx hx2 hk2 hL hF2 hx0
        cases cut with
        | true =>
          obtain ⟨q, rfl⟩ : ∃ q : Nat, n2 = q + 1 := ⟨n2 - 1, by omega⟩
          have hvt := ho2.vw.take (k := q) (by omega)
          rw [show q = x.length - 1 by have := H3.out; omega] at hvt
          have hbad := getBin_bad a2 _ c2 _ H2.out w2 hvt hG2
          rw [show x.length - 1 = q by have := H3.out; omega] at hbad
          have HB := Lib.hid hbad
          clear hvt hbad
          go_wp2_with fail
          refine HB.out.mono ?_
          rintro e w3 ⟨rfl, hb3⟩
          go_wp2_with fail
          go_ret
          exact ⟨rfl, hbw2.trans (hb3.mono hbw2.size)⟩
        | false =>
          go_wp2_with (at_builtin; refine app8 (by rfl) _ _ (by rfl) (w1.heap.size + 1) a2 n2 c2 x (by rfl) (by simpa using ho2) a0 m0 c0 l (by rfl) hv2 (by omega) (by omega) ?_; intro a3 c3 w3 ho3 hg3; have hb3 := below_of_grown (B := w1.heap.size + 1) hg3 (by omega) (by simpa using ho2.ge))
          have hbw3 : Below w.heap.size w w3 := hbw2.trans (hb3.mono (by omega))
          have hlen : (x ++ l).length ≤ 1099511627776 := by rw [List.length_append]; have := H3.out; have := H4.out; omega
          have hgd := getBin_bad a3 (n2 + m0) c3 (x ++ l) H1.out w3 ho3.vw (HG.out.below hbw3 (Nat.le_refl _))
          have HB := Lib.hid hgd
          clear hgd
          refine HB.out.mono ?_
          rintro e w4 ⟨rfl, hb4⟩
          have hbw4 := hbw3.trans (hb4.mono hbw3.size)
          go_wp2_with fail
          go_ret
          exact ⟨rfl, hbw4⟩
      · go_wp2_with fail
        refine HP.out.mono ?_
        rintro e w2 ⟨a2, n2, c2, x, rfl, ho2, hL, hF2, hk2⟩
        have hbk : Below w1.heap.size (w1.alloc (.cells #[.int .u64 s, .bool false] 39)) w2 := hk2.below (by simp) (Nat.le_refl _)
        have hs2 : w1.heap.size + 1 ≤ w2.heap.size := by have := hk2.size; simp at this; omega
        have hbw2 : Below w.heap.size w w2 := Below.trans (b := _) (by (repeat (first | with_reducible exact Below.refl _ _ | with_reducible assumption | with_reducible refine below_drewN ?_ _ | with_reducible refine Below.drew ?_ | with_reducible refine below_row ?_ (by first | omega | (simp; done) | (simp; omega)) _ | with_reducible refine Below.alloc ?_ (by first | omega | (simp; done) | (simp; omega)) _ | with_reducible refine Below.setCell ?_ (by first | omega | (simp; done) | (simp; omega)) _))) (hbk.mono (by omega))
        obtain ⟨hgood, hx0, hcutx⟩ := (head7 n x hL l)
        have hxl := headK_len _ n x hL
        have hx2 := ho2.vw.len
        have hG2 := HG.out.below hbw2 (Nat.le_refl _)
        have hv2 := Vw.below hbw2 (Nat.le_refl _) hv
        have hcap2 := ho2.vw.cap
        have hbig2 := ho2.vw.big
        have H1 := Lib.hid hgood
        have H2 := Lib.hid hcutx
        have H3 := Lib.hid hx2
        have H4 := Lib.hid hm0
        have hn2 : 0 < n2 := by omega
        have hn9 : n2 ≤ 9 := by omega
        clear hgood hcutx hx2 hk2 hL hF2 hx0
        cases cut with
        | true =>
          obtain ⟨q, rfl⟩ : ∃ q : Nat, n2 = q + 1 := ⟨n2 - 1, by omega⟩
          have hvt := ho2.vw.take (k := q) (by omega)
          rw [show q = x.length - 1 by have := H3.out; omega] at hvt
          have hbad := getBin_bad a2 _ c2 _ H2.out w2 hvt hG2
          rw [show x.length - 1 = q by have := H3.out; omega] at hbad
          have HB := Lib.hid hbad
          clear hvt hbad
          go_wp2_with fail
          refine HB.out.mono ?_
          rintro e w3 ⟨rfl, hb3⟩
          go_wp2_with fail
          go_ret
          exact ⟨rfl, hbw2.trans (hb3.mono hbw2.size)⟩
        | false =>
          go_wp2_with (at_builtin; refine app8 (by rfl) _ _ (by rfl) (w1.heap.size + 1) a2 n2 c2 x (by rfl) (by simpa using ho2) a0 m0 c0 l (by rfl) hv2 (by omega) (by omega) ?_; intro a3 c3 w3 ho3 hg3; have hb3 := below_of_grown (B := w1.heap.size + 1) hg3 (by omega) (by simpa using ho2.ge))
          have hbw3 : Below w.heap.size w w3 := hbw2.trans (hb3.mono (by omega))
          have hlen : (x ++ l).length ≤ 1099511627776 := by rw [List.length_append]; have := H3.out; have := H4.out; omega
          have hgd := getBin_good a3 (n2 + m0) c3 (x ++ l) hlen (n : Int) x.length H1.out w3 ho3.vw
          rw [List.drop_left' rfl, show n2 + m0 - x.length = m0 by have := H3.out; omega] at hgd
          have HB := Lib.hid hgd
          clear hgd
          refine HB.out.mono ?_
          rintro e w4 ⟨a4, c4, rfl, hv4, hb4⟩
          have hbw4 := hbw3.trans (hb4.mono hbw3.size)
          go_wp2_with fail
          refine (left_any a4 a0 m0 m0 c4 c0 l _ hv4 (Vw.below hbw4 (Nat.le_refl _) hv)).mono ?_
          rintro e w5 ⟨rfl, rfl⟩
          go_wp2_with fail
          go_ret
          exact ⟨rfl, hbw4⟩
      · go_wp2_with fail
        refine HP.out.mono ?_
        rintro e w2 ⟨a2, n2, c2, x, rfl, ho2, hL, hF2, hk2⟩
        have hbk : Below w1.heap.size (w1.alloc (.cells #[.int .u64 s, .bool false] 39)) w2 := hk2.below (by simp) (Nat.le_refl _)
        have hs2 : w1.heap.size + 1 ≤ w2.heap.size := by have := hk2.size; simp at this; omega
        have hbw2 : Below w.heap.size w w2 := Below.trans (b := _) (by (repeat (first | with_reducible exact Below.refl _ _ | with_reducible assumption | with_reducible refine below_drewN ?_ _ | with_reducible refine Below.drew ?_ | with_reducible refine below_row ?_ (by first | omega | (simp; done) | (simp; omega)) _ | with_reducible refine Below.alloc ?_ (by first | omega | (simp; done) | (simp; omega)) _ | with_reducible refine Below.setCell ?_ (by first | omega | (simp; done) | (simp; omega)) _))) (hbk.mono (by omega))
        obtain ⟨hgood, hx0, hcutx⟩ := (head_other 6 n x (by omega) hL l)
        have hxl := headK_len _ n x hL
        have hx2 := ho2.vw.len
        have hG2 := HG.out.below hbw2 (Nat.le_refl _)
        have hv2 := Vw.below hbw2 (Nat.le_refl _) hv
        have hcap2 := ho2.vw.cap
        have hbig2 := ho2.vw.big
        have H1 := Lib.hid hgood
        have H2 := Lib.hid hcutx
        have H3 := Lib.hid hx2
        have H4 := Lib.hid hm0
        have hn2 : 0 < n2 := by omega
        have hn9 : n2 ≤ 9 := by omega
        clear hgood hcutx hx2 hk2 hL hF2 hx0
        cases cut with
        | true =>
          obtain ⟨q, rfl⟩ : ∃ q : Nat, n2 = q + 1 := ⟨n2 - 1, by omega⟩
          have hvt := ho2.vw.take (k := q) (by omega)
          rw [show q = x.length - 1 by have := H3.out; omega] at hvt
          have hbad := getBin_bad a2 _ c2 _ H2.out w2 hvt hG2
          rw [show x.length - 1 = q by have := H3.out; omega] at hbad
          have HB := Lib.hid hbad
          clear hvt hbad
          go_wp2_with fail
          refine HB.out.mono ?_
          rintro e w3 ⟨rfl, hb3⟩
          go_wp2_with fail
          go_ret
          exact ⟨rfl, hbw2.trans (hb3.mono hbw2.size)⟩
        | false =>
          go_wp2_with (at_builtin; refine app8 (by rfl) _ _ (by rfl) (w1.heap.size + 1) a2 n2 c2 x (by rfl) (by simpa using ho2) a0 m0 c0 l (by rfl) hv2 (by omega) (by omega) ?_; intro a3 c3 w3 ho3 hg3; have hb3 := below_of_grown (B := w1.heap.size + 1) hg3 (by omega) (by simpa using ho2.ge))
          have hbw3 : Below w.heap.size w w3 := hbw2.trans (hb3.mono (by omega))
          have hlen : (x ++ l).length ≤ 1099511627776 := by rw [List.length_append]; have := H3.out; have := H4.out; omega
          have hgd := getBin_bad a3 (n2 + m0) c3 (x ++ l) H1.out w3 ho3.vw (HG.out.below hbw3 (Nat.le_refl _))
          have HB := Lib.hid hgd
          clear hgd
          refine HB.out.mono ?_
          rintro e w4 ⟨rfl, hb4⟩
          have hbw4 := hbw3.trans (hb4.mono hbw3.size)
          go_wp2_with fail
          go_ret
          exact ⟨rfl, hbw4⟩
    · have HN := Lib.hid hk
      clear hk
      by_cases k8 : k = 8
      · have hm : ¬ m0 ≤ 100 := fun h => HN.out ⟨.inl k8, h⟩
        have e1 : decide ((m0 : Int) > 100) = true := by simp; omega
        subst k8
        go_wp2_with fail
        go_ret
        exact ⟨rfl, hbw1⟩
      · have d8 : (k != 8) = true := by simpa using k8
        by_cases k9 : k = 9
        · have hm : ¬ m0 ≤ 100 := fun h => HN.out ⟨.inr (.inl k9), h⟩
          have e1 : decide ((m0 : Int) > 100) = true := by simp; omega
          subst k9
          go_wp2_with fail
          go_ret
          exact ⟨rfl, hbw1⟩
        · have d9 : (k != 9) = true := by simpa using k9
          by_cases k7 : k = 7
          · have hm : ¬ m0 ≤ 100 := fun h => HN.out ⟨.inr (.inr (.inl k7)), h⟩
            have e1 : decide ((m0 : Int) > 100) = true := by simp; omega
            subst k7
            go_wp2_with fail
            go_ret
            exact ⟨rfl, hbw1⟩
          · have d7 : (k != 7) = true := by simpa using k7
            by_cases k6 : k = 6
            · have hm : ¬ m0 ≤ 100 := fun h => HN.out ⟨.inr (.inr (.inr k6)), h⟩
              have e1 : decide ((m0 : Int) > 100) = true := by simp; omega
              subst k6
              go_wp2_with fail
              go_ret
              exact ⟨rfl, hbw1⟩
            · have d6 : (k != 6) = true := by simpa using k6
              clear k8 k9 k7 k6
              go_wp2_with fail
              go_ret
              exact ⟨rfl, hbw1⟩
  · have e0 : decide ((m0 : Int) > 2147483647) = true := by simp; omega
    go_enter Tryd.func4, Tryd.ntmps4
    go_wp2_with fail
    go_ret
    exact ⟨rfl, Below.refl _ _⟩
end Go.Proofs.YtnahohkfkkemfaaDoor
