/- encoding.Symbol.Marshal, impl.WriteSymbol, the walk of laws.FnWriteSymbol. -/
import Derived.Test.YtkbfppjniaejnaaDoorStr
namespace Go.Proofs.YtkbfppjniaejnaaDoor
open Go.RowKit
set_option linter.unusedVariables false
set_option linter.unusedSimpArgs false

def symB (t : ByteArray) : List Int := if t.size < 256 then 163 :: (t.size : Int) :: ints t else 179 :: ((t.size : Int) / 16777216) :: ((t.size : Int) / 65536 % 256) :: ((t.size : Int) / 256 % 256) :: ((t.size : Int) % 256) :: ints t

theorem symB_len (t : ByteArray) (h : t.size ≤ 131072) : (symB t).length ≤ 1099511627776 := by
  unfold symB
  split <;> simp [ints_length] <;> omega

theorem ints_take (t : ByteArray) : (ints t).take t.size = ints t := List.take_of_length_le (by rw [ints_length]; exact Nat.le_refl _)

theorem symB_whole (t : ByteArray) (h : t.size ≤ 131072) (hA : Asc t) : Whole (symB t) 20 0 t := by
  unfold symB
  intro w0 a n c hv
  have hn := hv.len
  split at hn
  · rename_i hs
    simp [ints_length] at hn
    rw [if_pos hs] at hv
    obtain ⟨a1, hv1, h1⟩ := takeValue_of 163 (by omega) a n c _ 8 (by omega) w0 hv
    obtain ⟨a2, hv2, ht⟩ := take_sym 163 1 ⟨rfl, rfl⟩ (by omega) (by omega) none 0 0 a1 (n - 1) (c - 1) _ 8 w0 hv1 (by omega) t.size (by simp [beN]) (by omega) t (by simp [ints_take, strOfNums_ints]) (by omega) hA
    rw [show n - 1 - 1 - t.size = 0 by omega] at ht
    exact ⟨a2, _, h1 _ _ _ _ _ _ _ _ _ _ ht⟩
  · rename_i hs
    simp [ints_length] at hn
    rw [if_neg hs] at hv
    obtain ⟨a1, hv1, h1⟩ := takeValue_of 179 (by omega) a n c _ 8 (by omega) w0 hv
    obtain ⟨a2, hv2, ht⟩ := take_sym 179 4 ⟨rfl, rfl⟩ (by omega) (by omega) none 0 0 a1 (n - 1) (c - 1) _ 8 w0 hv1 (by omega) t.size (by simp [beN]; omega) (by omega) t (by simp [ints_take, strOfNums_ints]) (by omega) hA
    rw [show n - 1 - 4 - t.size = 0 by omega] at ht
    exact ⟨a2, _, h1 _ _ _ _ _ _ _ _ _ _ ht⟩

set_option maxRecDepth 100000 in
set_option maxHeartbeats 4000000 in
theorem sym_buf (t : ByteArray) (h : t.size ≤ 131072) (g : Nat) (w : World) (hb : Bf w g []) :
    Calls Tryd.prog 33 #[.string t, .pointer (some ⟨g, 0, none⟩)] w fun e w' => e = .returned .nilIface ∧ Bf w' g (symB t) ∧ Below g w w' := by
  unfold symB
  have hbl := hb.lt
  have hbx : ∀ o, Bf (w.alloc o) g [] := fun o => by
    obtain ⟨a, n, c, hB, ho⟩ := hb.ex
    exact ⟨a, n, c, hB.alloc o, ho.alloc o⟩
  obtain ⟨z, hz⟩ : ∃ z : Int, z = t.size := ⟨_, rfl⟩
  by_cases hs : t.size < 256
  · rw [if_pos hs]
    have hlt : decide ((t.size : Int) < 256) = true := by simp; omega
    have hm : (t.size : Int) % 256 = t.size := by omega
    have hl := Own.lit 5 w [163, (t.size : Int)] (by simp; omega) (by simp)
    go_enter Tryd.func33, Tryd.ntmps33
    go_wp2_with (go_at_call 40; refine (bufAppend g [] _ 2 2 [163, (t.size : Int)] _ (hbx _) hl.vw (by simp)).mono ?_; rintro e w1 ⟨rfl, hb1, hl1⟩)
    refine (bufString g _ t _ hb1 (by simp; omega)).mono ?_
    rintro e w2 ⟨rfl, hb2, hl2⟩
    go_wp2_with fail
    go_ret
    exact ⟨rfl, by simpa using hb2, (Below.trans ((Below.refl _ _).alloc (by omega) _) hl1).trans hl2⟩
  · rw [if_neg hs]
    have hlt : decide ((t.size : Int) < 256) = false := by simp; omega
    have hm : (t.size : Int) % 4294967296 = t.size := by omega
    have hm2 : (t.size : Int) % 18446744073709551616 = t.size := by omega
    have hlt2 : decide ((t.size : Int) < 4294967295) = true := by simp; omega
    go_enter Tryd.func33, Tryd.ntmps33
    go_wp2_with (go_at_call 46; refine (bufByte g [] 179 _ hb (by omega) (by omega) (by simp)).mono ?_; rintro e w1 ⟨rfl, hb1, hl1⟩)
    refine (bufU32 g _ (t.size : Int) _ hb1 (by omega) (by omega) (by simp)).mono ?_
    rintro e w2 ⟨rfl, hb2, hl2⟩
    go_wp2_with fail
    refine (bufString g _ t _ hb2 (by simp; omega)).mono ?_
    rintro e w3 ⟨rfl, hb3, hl3⟩
    go_wp2_with fail
    go_ret
    exact ⟨rfl, by simpa using hb3, hl1.trans (hl2.trans hl3)⟩

set_option maxRecDepth 100000 in
set_option maxHeartbeats 4000000 in
theorem implWriteSymbol (t : ByteArray) (h : t.size ≤ 131072) (w : World) :
    Calls Tryd.prog 16 #[.string t] w fun e w' => ∃ a n c, e = .returned (.tuple #[.slice a n c, .bool true]) ∧ Vw w' a n c (symB t) ∧ Below w.heap.size w w' := by
  have hlen : (symB t).length ≤ 1099511627776 := by exact symB_len t h
  go_enter_defers Tryd.func16, Tryd.ntmps16
  go_wp2_with (go_at_call 33; refine (sym_buf t h (w.heap.size + 2) _ (by simpa using Bf.new ((w.alloc _).alloc _))).mono ?_; rintro e w1 ⟨rfl, hb1, hl1⟩)
  refine (bufBytes (w.heap.size + 2) _ _ hb1).mono ?_
  rintro e w2 ⟨a, n, c, nq, rfl, rfl, hv⟩
  have hB2 : Blk w1 w.heap.size 22 #[nilS] := Blk.below (((Blk.new _ _ _).alloc _).alloc _) hl1 (by omega)
  have hB3 : Blk w1 (w.heap.size + 1) 4 #[.bool false] := Blk.below ((by simpa using Blk.new (w.alloc _) _ _ : Blk ((w.alloc _).alloc _) (w.heap.size + 1) _ _).alloc _) hl1 (by omega)
  have hs1 : w.heap.size + 3 ≤ w1.heap.size := by have := hl1.size; simp at this; omega
  go_wp2_with (go_at_call 27; refine (copied_any a n c _ _ (hv.drewN nq) (by have := hv.len; omega)).mono ?_; rintro e w3 ⟨a3, c3, rfl, h3, hb3⟩; have hC2 := (hB2.drewN nq).below hb3 (by simp; omega); have hC3 := (hB3.drewN nq).below hb3 (by simp; omega); have q20 := hC2.cell (i := 0) rfl; have q30 := hC3.cell (i := 0) rfl; have f2 := hC2.frozen 0; have f3 := hC3.frozen 0)
  refine leaves_cons (f := 25) (args := #[.pointer (some ⟨w.heap.size, 0, none⟩), .pointer (some ⟨w.heap.size + 1, 0, none⟩)]) (by simp) (by simp [go_sem]) ?_
  refine (noData_idle ⟨w.heap.size, 0, none⟩ ⟨w.heap.size + 1, 0, none⟩ _).mono ?_
  rintro e u' w'' ⟨rfl, rfl, rfl⟩
  have D2 := (hC2.set 0 (.slice a3 n c3)).other (p := ⟨w.heap.size + 1, 0, none⟩) (by simp) (.bool true)
  have D3 := (hC3.other (p := ⟨w.heap.size, 0, none⟩) (by simp) (.slice a3 n c3)).set 0 (.bool true)
  have hV := ((h3.otherBlk (p := ⟨w.heap.size, 0, none⟩) (by simp; omega) (.slice a3 n c3)).otherBlk (p := ⟨w.heap.size + 1, 0, none⟩) (by simp; omega) (.bool true)).vw
  have hb13 : Below w.heap.size w w3 := (below_drewN (((((Below.refl _ _).alloc (Nat.le_refl _) _).alloc (by simp) _).alloc (by simp; omega) _).trans (hl1.mono (by omega))) nq).trans (hb3.mono (by simp; omega))
  have hBel : Below w.heap.size w ((w3.setCell ⟨w.heap.size, 0, none⟩ (.slice a3 n c3)).setCell ⟨w.heap.size + 1, 0, none⟩ (.bool true)) := (hb13.setCell (by simp) _).setCell (by simp) _
  generalize hW4 : (w3.setCell ⟨w.heap.size, 0, none⟩ (.slice a3 n c3)).setCell ⟨w.heap.size + 1, 0, none⟩ (.bool true) = W4 at D2 D3 hV hBel ⊢
  have d2 := D2.cell (i := 0) rfl
  have d3 := D3.cell (i := 0) rfl
  simp at d2 d3
  simp [Leaves, settle, results, Tryd.results16, go_sem, d2, d3]
  exact ⟨_, _, _, ⟨rfl, rfl, rfl⟩, hV, hBel⟩

set_option maxRecDepth 100000 in
set_option maxHeartbeats 2000000 in
theorem fnWriteSymbol_walk (t : ByteArray) (w : World) :
    Calls Tryd.prog 6 #[.string t] w fun e w' => e = .returned (.bool true) ∧ Below w.heap.size w w' := by
  have ha : Asc ⟨#[97]⟩ := by
    intro i h
    have : i = 0 := by have : (⟨#[97]⟩ : ByteArray).size = 1 := rfl; omega
    subst this
    show (((97 : UInt8).toNat : Nat) : Int) < 128
    decide
  by_cases hbig : t.size ≤ 2147483647
  · have e0 : decide ((t.size : Int) > 2147483647) = false := by simp; omega
    go_enter Tryd.func6, Tryd.ntmps6
    go_wp2_with (go_at_call 16; refine (implWriteSymbol ⟨#[97]⟩ (by decide) _).mono ?_; rintro e w1 ⟨a1, n1, c1, rfl, hv1, hb1⟩)
    refine (wrote_whole _ 20 0 _ (symB_whole ⟨#[97]⟩ (by decide) ha) a1 n1 c1 _ hv1).mono ?_
    rintro e w2 ⟨rfl, hb2⟩
    have hb12 := hb1.trans (hb2.mono hb1.size)
    by_cases hs : t.size ≤ 131072
    · go_wp2_with (go_at_call 17; refine (short_yes t hs _).mono ?_; rintro e w3 ⟨rfl, rfl⟩)
      refine (ASCII_any t (by omega) _).mono ?_
      rintro e w3 ⟨b, rfl, hbA, rfl⟩
      cases b with
      | true =>
        have hA := hbA.1 rfl
        have HA := Lib.hid hA
        have HQ := Lib.hid ha
        clear hA hbA ha
        go_wp2_with (go_at_call 16; refine (implWriteSymbol t hs _).mono ?_; rintro e w4 ⟨a4, n4, c4, rfl, hv4, hb4⟩)
        go_wp2_with fail
        refine (wrote_whole _ 20 0 _ (symB_whole t hs HA.out) a4 n4 c4 _ hv4).mono ?_
        rintro e w5 ⟨rfl, hb5⟩
        go_wp2_with fail
        go_ret
        exact ⟨rfl, hb12.trans ((hb4.mono hb12.size).trans (hb5.mono (Nat.le_trans hb12.size hb4.size)))⟩
      | false =>
        clear hbA ha
        go_wp2_with fail
        go_ret
        exact ⟨rfl, hb12⟩
    · go_wp2_with (go_at_call 17; refine (short_no t (by omega) _).mono ?_; rintro e w3 ⟨rfl, rfl⟩)
      go_ret
      exact ⟨rfl, hb12⟩
  · have e0 : decide ((t.size : Int) > 2147483647) = true := by simp; omega
    go_enter Tryd.func6, Tryd.ntmps6
    go_wp2_with fail
    go_ret
    exact ⟨rfl, Below.refl _ _⟩
end Go.Proofs.YtkbfppjniaejnaaDoor
