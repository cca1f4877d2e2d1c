/- The walk of laws.FnStreamGetArrayHead. -/
import Derived.Test.YtfaangichifbgaaDoorHeadsW
namespace Go.Proofs.YtfaangichifbgaaDoor
open Go.RowKit
set_option linter.unusedVariables false
set_option linter.unusedSimpArgs false

set_option maxRecDepth 100000 in
set_option maxHeartbeats 8000000 in
theorem fnStreamGetArrayHead_walk (a : Option Addr) (c : Nat) (ls : List Int) (s : Int) (h0 : 0 ≤ s) (h1 : s < 18446744073709551616) (bf ch : Int) (w : World) (hr : Rd w a (ls.map (Value.int .u32))) (hls : ∀ x ∈ ls, 0 ≤ x ∧ x < 4294967296) :
    Calls Tryd.prog 3 #[.slice a ls.length c, .int .u64 s, .int .i64 bf, .int .i64 ch] w (YesRes w) := by
  by_cases hbig : 2147483647 < ls.length
  · have hb : (2147483647 : Int) < ls.length := by omega
    go_enter Tryd.func3, Tryd.ntmps3
    go_wp2_with fail
    go_ret
    exact ⟨rfl, Below.refl _ _⟩
  have hb : ¬ ((2147483647 : Int) < ls.length) := by omega
  have HA5 := fun (w0 : World) (a0 : Option Addr) (hr0 : Rd w0 a0 ([5].map (Value.int .u32))) => Lib.hid (headsW_any [5] a0 1 0 (by omega) (by omega) w0 hr0 (by intro p hp; simp at hp; subst hp; omega) (by simp))
  obtain ⟨n, hn⟩ : ∃ n, n = ls.length := ⟨_, rfl⟩
  rw [← hn] at hb hbig ⊢
  have HNL := Lib.hid hn
  have HR := Lib.hid hr
  have HLS := Lib.hid hls
  clear hn hr hls
  by_cases hg3 : n ≤ 100
  · have hd3 : decide ((100 : Int) < n) = false := by simp; omega
    go_enter Tryd.func3, Tryd.ntmps3
    go_wp2_with fail
    refine (HA5 _ _ (Rd.lit w 28 [.int .u32 5])).out.mono ?_
    rintro e w1 ⟨a1, n1, c1, es1, rfl, hv1, hl1, hp1, hn1, hb1⟩
    have HG1 := fun (hx : Vw w1 a1 n1 c1 (flatE es1)) => Lib.hid (get_u32 100 (by omega) (by omega) 1 (by omega) [5] es1 a1 n1 c1 w1 (by simpa using hl1) (by simp) hx (by simp at hn1; omega) (by
      intro i hi
      have hi0 : i = 0 := by simp at hl1; omega
      subst hi0
      exact enc_ArrayHead 5 (by omega) _ (hp1 0 (by simp) hi)))
    have HV1 := Lib.hid hv1
    have hb1w : Below w.heap.size w w1 := Below.trans (b := w.alloc _) ((Below.refl _ _).alloc (Nat.le_refl _) _) (hb1.mono (by simp))
    have HB1 := Lib.hid hb1w
    clear hv1 hl1 hp1 hn1 hb1 hb1w
    go_wp2_with fail
    refine (HG1 HV1.out).out.mono ?_
    rintro e w2 ⟨oa, oc, rfl, ho, hb2⟩
    obtain ⟨ob, oo, rfl, hc⟩ := ho.at_ (by simp)
    have hc0 := hc 0 (by simp)
    simp at hc0
    have hobl := World.block_lt_of_cell? w2 _ hc0
    have HB2 := Lib.hid (HB1.out.trans (hb2.mono HB1.out.size))
    clear ho hb2 hc
    go_wp2_with fail
    refine (buffers_any bf ch _).mono ?_
    rintro e w3 ⟨bb, rfl, hbb, rfl⟩
    clear hc0 hobl
    cases bb with
    | false =>
      clear hbb
      go_wp2_with fail
      go_ret
      exact ⟨rfl, HB2.out⟩
    | true =>
      obtain ⟨g1, g2, g3, g4⟩ := hbb.1 rfl
      clear hbb
      obtain ⟨sz, rfl⟩ : ∃ sz : Nat, bf = sz := ⟨bf.toNat, by omega⟩
      obtain ⟨cn, rfl⟩ : ∃ cn : Nat, ch = cn := ⟨ch.toNat, by omega⟩
      go_wp2_with fail
      go_loopw [49] (fun i wr => ∃ j : Nat, j ≤ n ∧ i = .int .i64 j ∧ Hid (Below w.heap.size w wr)) (fun i _ => n - (intOf i).toNat)
      case atStart => exact ⟨0, Nat.zero_le _, rfl, HB2⟩
      case round =>
        obtain ⟨j, hj, rfl, hbr⟩ := hrel
        by_cases hlt : j < n
        · have hli : (j : Int) < n := by omega
          have hjl : j < ls.length := by have := HNL.out; omega
          obtain ⟨ba, bo, rfl, hc⟩ := (HR.out.below hbr.out (Nat.le_refl _)).at_ (by simp; omega)
          obtain ⟨x, hx⟩ : ∃ x, x = ls[j] := ⟨_, rfl⟩
          have hck : wr.cell? ⟨ba, bo + j, none⟩ = some (.int .u32 x) := by rw [hc j (by simp; omega), hx]; simp [List.getD, List.getElem?_eq_getElem hjl]
          have hbl := World.block_lt_of_cell? wr _ hck
          clear hc hx
          by_cases hxb : 1048576 < x
          · go_wp2_with fail
            go_ret
            exact ⟨rfl, hbr.out⟩
          · go_wp2_with fail
            go_roundw
            case rel => exact ⟨j + 1, by omega, by go_num, hbr⟩
            case measure => simp [intOf]; omega
        · have hli : ¬ (j : Int) < n := by omega
          obtain rfl : j = n := by omega
          have HAW := Lib.hid (headsW_any ls a c s h0 h1 wr (HR.out.below hbr.out (Nat.le_refl _)) (by intro x hx; have := HLS.out x hx; omega) (by have := HNL.out; omega))
          rw [← HNL.out] at HAW
          go_wp2_with fail
          refine HAW.out.mono ?_
          rintro e w6 ⟨a6, n6, c6, es6, rfl, hv6, hl6, hp6, hn6, hb6⟩
          have hn6' : n6 ≤ 900 := by have := HNL.out; omega
          have HG := Lib.hid (get_u32 sz (by omega) (by omega) cn (by omega) ls es6 a6 n6 c6 w6 hl6 (by have := HNL.out; omega) hv6 (by omega) (by
            intro i hi
            have hil : i < ls.length := by omega
            have h := hp6 i hil hi
            have h2 := enc_ArrayHead ls[i] (HLS.out _ (List.getElem_mem _)) _ h
            simpa [List.getD, List.getElem?_eq_getElem hil] using h2))
          rw [← HNL.out] at HG
          have hb6w := hbr.out.trans (hb6.mono hbr.out.size)
          have HB6 := Lib.hid hb6w
          clear hv6 hl6 hp6 hn6 hb6 hb6w
          go_wp2_with fail
          refine HG.out.mono ?_
          rintro e w7 ⟨oa7, oc7, rfl, ho7, hb7⟩
          have hb7w := HB6.out.trans (hb7.mono HB6.out.size)
          have HS := Lib.hid (same_u32 ls oa7 a oc7 c w7 (by have := HNL.out; omega) ho7 (HR.out.below hb7w (Nat.le_refl _)))
          rw [← HNL.out] at HS
          have HB7 := Lib.hid hb7w
          clear ho7 hb7 hb7w
          go_wp2_with fail
          refine HS.out.mono ?_
          rintro e w8 ⟨rfl, hb8⟩
          have HB8 := Lib.hid hb8
          clear hb8
          go_wp2_with fail
          go_ret
          exact ⟨rfl, HB7.out.trans (HB8.out.mono HB7.out.size)⟩
  · have hd3 : decide ((100 : Int) < n) = true := by simp; omega
    go_enter Tryd.func3, Tryd.ntmps3
    go_wp2_with fail
    refine (HA5 _ _ (Rd.lit w 28 [.int .u32 5])).out.mono ?_
    rintro e w1 ⟨a1, n1, c1, es1, rfl, hv1, hl1, hp1, hn1, hb1⟩
    have HG1 := fun (hx : Vw w1 a1 n1 c1 (flatE es1)) => Lib.hid (get_u32 100 (by omega) (by omega) 1 (by omega) [5] es1 a1 n1 c1 w1 (by simpa using hl1) (by simp) hx (by simp at hn1; omega) (by
      intro i hi
      have hi0 : i = 0 := by simp at hl1; omega
      subst hi0
      exact enc_ArrayHead 5 (by omega) _ (hp1 0 (by simp) hi)))
    have HV1 := Lib.hid hv1
    have hb1w : Below w.heap.size w w1 := Below.trans (b := w.alloc _) ((Below.refl _ _).alloc (Nat.le_refl _) _) (hb1.mono (by simp))
    have HB1 := Lib.hid hb1w
    clear hv1 hl1 hp1 hn1 hb1 hb1w
    go_wp2_with fail
    refine (HG1 HV1.out).out.mono ?_
    rintro e w2 ⟨oa, oc, rfl, ho, hb2⟩
    obtain ⟨ob, oo, rfl, hc⟩ := ho.at_ (by simp)
    have hc0 := hc 0 (by simp)
    simp at hc0
    have hobl := World.block_lt_of_cell? w2 _ hc0
    have HB2 := Lib.hid (HB1.out.trans (hb2.mono HB1.out.size))
    clear ho hb2 hc
    go_wp2_with fail
    refine (buffers_any bf ch _).mono ?_
    rintro e w3 ⟨bb, rfl, hbb, rfl⟩
    clear hc0 hobl
    clear hbb
    cases bb with
    | false =>
      go_wp2_with fail
      go_ret
      exact ⟨rfl, HB2.out⟩
    | true =>
      go_wp2_with fail
      go_ret
      exact ⟨rfl, HB2.out⟩
#print axioms fnStreamGetArrayHead_walk
end Go.Proofs.YtfaangichifbgaaDoor
