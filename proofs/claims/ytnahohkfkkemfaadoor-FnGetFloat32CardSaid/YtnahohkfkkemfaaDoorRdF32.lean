/- msgp.ReadFloat32Bytes, impl.GetFloat32. -/
import Derived.Test.YtnahohkfkkemfaaDoorFixW
namespace Go.Proofs.YtnahohkfkkemfaaDoor
open Go.RowKit
set_option linter.unusedVariables false
set_option linter.unusedSimpArgs false

theorem or32r (i : Nat) (A lo : Int) (h0 : 0 ≤ A) (hA : A.toNat % 2 ^ i = 0) (l0 : 0 ≤ lo) (l1 : lo.toNat < 2 ^ i) (h : A + lo < 4294967296) : bits .or .u32 A lo = A + lo := by
  rw [u32_or _ _ h0 (by omega) l0 (by omega), nat_join i _ _ hA l1]
  omega
theorem f32_from (n : Int) (w : World) : (callFunc 43 #[.int .u32 n]).run Tryd.prog w = .ok (.value (.float .f32 n.toNat)) w :=
  (run_callFunc_extern (P := Tryd.prog) (e := Extern.MathFloatBits.float32frombits) Tryd.func43 (by kernel_rfl) (by kernel_rfl) (by kernel_rfl) (by kernel_rfl) #[.int .u32 n] w).trans rfl
theorem f32_to (n : Nat) (w : World) : (callFunc 25 #[.float .f32 n]).run Tryd.prog w = .ok (.value (.int .u32 n)) w :=
  (run_callFunc_extern (P := Tryd.prog) (e := Extern.MathFloatBits.float32bits) Tryd.func25 (by kernel_rfl) (by kernel_rfl) (by kernel_rfl) (by kernel_rfl) #[.float .f32 n] w).trans rfl
set_option maxRecDepth 100000 in
set_option maxHeartbeats 8000000 in
theorem getMu32_any (a : Option Addr) (n c : Nat) (x0 x1 x2 x3 x4 : Int) (l : List Int) (w : World) (hv : Vw w a n c (x0 :: x1 :: x2 :: x3 :: x4 :: l)) :
    Calls Tryd.prog 44 #[.slice a n c] w fun e w' => e = .returned (.int .u32 (beN [x1, x2, x3, x4])) ∧ Below w.heap.size w w' := by
  have hn := hv.len
  simp at hn
  obtain ⟨x1l, x1h⟩ := hv.byt x1 (by simp)
  obtain ⟨x2l, x2h⟩ := hv.byt x2 (by simp)
  obtain ⟨x3l, x3h⟩ := hv.byt x3 (by simp)
  obtain ⟨x4l, x4h⟩ := hv.byt x4 (by simp)
  rcases hv.cells with h0 | ⟨b, off, rfl, hc⟩
  · omega
  have q1 : w.cell? ⟨b, off + 1, none⟩ = some (.int .u8 x1) := by simpa using hc 1 (by omega)
  have q2 : w.cell? ⟨b, off + 2, none⟩ = some (.int .u8 x2) := by simpa using hc 2 (by omega)
  have q3 : w.cell? ⟨b, off + 3, none⟩ = some (.int .u8 x3) := by simpa using hc 3 (by omega)
  have q4 : w.cell? ⟨b, off + 4, none⟩ = some (.int .u8 x4) := by simpa using hc 4 (by omega)
  have b1 : (1 : Int) < (n : Int) := by omega
  have b2 : (2 : Int) < (n : Int) := by omega
  have b3 : (3 : Int) < (n : Int) := by omega
  have b4 : (4 : Int) < (n : Int) := by omega
  have s1 : bits .or .u32 (x1 * 16777216) (x2 * 65536) = x1 * 16777216 + x2 * 65536 := or32r 24 _ _ (by omega) (by omega) (by omega) (by omega) (by omega)
  have s2 : bits .or .u32 (x1 * 16777216 + x2 * 65536) (x3 * 256) = x1 * 16777216 + x2 * 65536 + x3 * 256 := or32r 16 _ _ (by omega) (by omega) (by omega) (by omega) (by omega)
  have s3 : bits .or .u32 (x1 * 16777216 + x2 * 65536 + x3 * 256) x4 = x1 * 16777216 + x2 * 65536 + x3 * 256 + x4 := or32r 8 _ _ (by omega) (by omega) (by omega) (by omega) (by omega)
  have hbe : beN [x1, x2, x3, x4] = x1 * 16777216 + x2 * 65536 + x3 * 256 + x4 := by simp [beN]; omega
  have HB := Lib.hid hbe
  clear hc hbe hn
  go_enter Tryd.func44, Tryd.ntmps44
  go_wp2_with fail
  go_quiet (fail)
  go_wp2_with fail
  go_ret
  exact ⟨by rw [HB.out]; rfl, by (repeat (first | with_reducible exact Below.refl _ _ | with_reducible assumption | with_reducible refine below_drewN ?_ _ | with_reducible refine Below.drew ?_ | with_reducible refine below_row ?_ (by first | omega | (simp; done) | (simp; omega)) _ | with_reducible refine Below.alloc ?_ (by first | omega | (simp; done) | (simp; omega)) _ | with_reducible refine Below.setCell ?_ (by first | omega | (simp; done) | (simp; omega)) _))⟩

def dF32 (l : List Int) : Option (Int × Nat) :=
  if l.length < 5 then none else if l.getD 0 0 = 202 then some (beN [l.getD 1 0, l.getD 2 0, l.getD 3 0, l.getD 4 0], 5) else none

set_option maxRecDepth 100000 in
set_option maxHeartbeats 8000000 in
theorem rf32_good (a : Option Addr) (n c : Nat) (l : List Int) (u : Int) (k : Nat) (hd : dF32 l = some (u, k)) (w : World) (hv : Vw w a n c l) :
    0 ≤ u ∧ u < 4294967296 ∧ k = 5 ∧ ∃ a', Vw w a' (n - k) (c - k) (l.drop k) ∧ Calls Tryd.prog 24 #[.slice a n c] w fun e w' => e = .returned (.tuple #[.float .f32 u.toNat, .slice a' (n - k) (c - k), .nilIface]) ∧ Below w.heap.size w w' := by
  have hn := hv.len
  have hcn := hv.cap
  have hcb := hv.big
  unfold dF32 at hd
  by_cases h1 : l.length < 5
  · rw [if_pos h1] at hd; cases hd
  rw [if_neg h1] at hd
  by_cases hz' : ¬ l.getD 0 0 = 202
  · rw [if_neg hz'] at hd; cases hd
  have hz : l.getD 0 0 = 202 := by omega
  clear hz'
  rw [if_pos hz] at hd
  injection hd with hd
  injection hd with hu hk
  subst hk
  have hub : 0 ≤ u ∧ u < 4294967296 := by
    rw [← hu]
    have := beN_bds [l.getD 1 0, l.getD 2 0, l.getD 3 0, l.getD 4 0] (by intro x hx; simp only [List.mem_cons, List.not_mem_nil, or_false] at hx; rcases hx with rfl | rfl | rfl | rfl <;> exact hv.byt _ (getD_mem l _ (by omega)))
    simpa using this
  refine ⟨hub.1, hub.2, rfl, ?_⟩
  rcases hv.cells with h0 | ⟨b, off, rfl, hc⟩
  · omega
  have q0 : w.cell? ⟨b, off, none⟩ = some (.int .u8 202) := by rw [← hz]; simpa using hc 0 (by omega)
  have b0 : (0 : Int) < (n : Int) := by omega
  have d1 : decide ((n : Int) < 5) = false := by simp; omega
  obtain ⟨a1, ho1, hv1⟩ := off_of hv 5 5 rfl (by omega)
  unfold Off at ho1
  refine ⟨a1, hv1, ?_⟩
  obtain ⟨r, hr⟩ := drop_cells l 0 5 (by omega)
  have hr2 : l = l.getD 0 0 :: l.getD 1 0 :: l.getD 2 0 :: l.getD 3 0 :: l.getD 4 0 :: r := by simpa [List.range_succ] using hr
  have hbe := getMu32_any (some ⟨b, off, none⟩) n c (l.getD 0 0) (l.getD 1 0) (l.getD 2 0) (l.getD 3 0) (l.getD 4 0) r w (by rw [← hr2]; exact hv)
  rw [hu] at hbe
  have hff := f32_from u
  have HB := Lib.hid hbe
  clear hbe hz h1 hn hc hu hr hr2 hv1 hub
  go_enter Tryd.func24, Tryd.ntmps24
  go_wp2_with fail
  refine HB.out.mono ?_
  rintro e w1 ⟨rfl, hb1⟩
  go_wp2_with fail
  go_ret3
  exact ⟨rfl, hb1⟩
def BadRes3f (w : World) (e : Ending) (w' : World) : Prop := ∃ (v : Value) (a : Option Addr) (n c : Nat) (T : TypeId) (x : Value), e = .returned (.tuple #[v, .slice a n c, .iface T x]) ∧ Below w.heap.size w w'
set_option maxRecDepth 100000 in
set_option maxHeartbeats 8000000 in
theorem rf32_bad (a : Option Addr) (n c : Nat) (l : List Int) (hd : dF32 l = none) (w : World) (hv : Vw w a n c l) (hg : Gl w) :
    Calls Tryd.prog 24 #[.slice a n c] w (BadRes3f w) := by
  obtain ⟨T, v, hgl⟩ := hg
  have hn := hv.len
  have hcn := hv.cap
  have hcb := hv.big
  unfold dF32 at hd
  by_cases h1 : l.length < 5
  · have d1 : decide ((n : Int) < 5) = true := by simp; omega
    clear hd hn h1
    go_enter Tryd.func24, Tryd.ntmps24
    go_wp2_with fail
    go_ret3
    exact ⟨_, _, _, _, _, _, rfl, by (repeat (first | with_reducible exact Below.refl _ _ | with_reducible assumption | with_reducible refine below_drewN ?_ _ | with_reducible refine Below.drew ?_ | with_reducible refine below_row ?_ (by first | omega | (simp; done) | (simp; omega)) _ | with_reducible refine Below.alloc ?_ (by first | omega | (simp; done) | (simp; omega)) _ | with_reducible refine Below.setCell ?_ (by first | omega | (simp; done) | (simp; omega)) _))⟩
  rw [if_neg h1] at hd
  rcases hv.cells with h0 | ⟨b, off, rfl, hc⟩
  · omega
  obtain ⟨z, hz⟩ : ∃ z, z = l.getD 0 0 := ⟨_, rfl⟩
  have q0 : w.cell? ⟨b, off, none⟩ = some (.int .u8 z) := by rw [hz]; simpa using hc 0 (by omega)
  have hzb := hv.byt _ (getD_mem l 0 (by omega))
  rw [← hz] at hd hzb
  obtain ⟨hz0, hz1⟩ := hzb
  have b0 : (0 : Int) < (n : Int) := by omega
  have d1 : decide ((n : Int) < 5) = false := by simp; omega
  by_cases z1 : z = 202
  · rw [if_pos z1] at hd; cases hd
  have e1 : (z != 202) = true := by simpa using z1
  clear hd hn h1 hc hz z1
  go_enter Tryd.func24, Tryd.ntmps24
  go_wp2_with fail
  refine (getType_any z hz0 (by omega) _).mono ?_
  rintro e w1 ⟨t, rfl, hb1⟩
  go_wp2_with fail
  go_ret3
  exact ⟨_, _, _, _, _, _, rfl, hb1⟩
set_option maxRecDepth 100000 in
set_option maxHeartbeats 8000000 in
theorem getF32_good (a : Option Addr) (n c : Nat) (l : List Int) (hl : l.length ≤ 1099511627776) (u : Int) (k : Nat) (hd : dF32 l = some (u, k)) (w : World) (hv : Vw w a n c l) :
    Calls Tryd.prog 10 #[.slice a n c] w fun e w' => ∃ a' c', e = .returned (.tuple #[.int .u32 u, .slice a' (n - k) c', .bool true]) ∧ Vw w' a' (n - k) c' (l.drop k) ∧ Below w.heap.size w w' := by
  have hn := hv.len
  obtain ⟨hu0, hu1, rfl, a1, hv1, hc⟩ := rf32_good a n c l u k hd w hv
  have hft := f32_to u.toNat
  rw [Int.toNat_of_nonneg hu0] at hft
  obtain ⟨U, hU⟩ : ∃ U, U = u.toNat := ⟨_, rfl⟩
  rw [← hU] at hc hft
  have HC := Lib.hid hc
  have HD := Lib.hid hd
  have HN := Lib.hid hn
  clear hc hd hn hU
  go_enter Tryd.func10, Tryd.ntmps10
  go_wp2_with fail
  refine HC.out.mono ?_
  rintro e w1 ⟨rfl, hb1⟩
  go_wp2_with fail
  refine (copied_any a1 (n - 5) (c - 5) _ _ (Vw.below hb1 (Nat.le_refl _) hv1) (by have := HN.out; omega)).mono ?_
  rintro e w2 ⟨a2, c2, rfl, ho2, hb2⟩
  go_wp2_with fail
  go_ret3
  exact ⟨a2, c2, rfl, ho2.vw, hb1.trans (hb2.mono hb1.size)⟩
set_option maxRecDepth 100000 in
set_option maxHeartbeats 8000000 in
theorem getF32_bad (a : Option Addr) (n c : Nat) (l : List Int) (hd : dF32 l = none) (w : World) (hv : Vw w a n c l) (hg : Gl w) :
    Calls Tryd.prog 10 #[.slice a n c] w fun e w' => e = .returned (.tuple #[.int .u32 0, .slice none 0 0, .bool false]) ∧ Below w.heap.size w w' := by
  have hc := rf32_bad a n c l hd w hv hg
  have HC := Lib.hid hc
  have HD := Lib.hid hd
  clear hc hd
  go_enter Tryd.func10, Tryd.ntmps10
  go_wp2_with fail
  refine HC.out.mono ?_
  rintro e w1 ⟨z, a1, n1, c1, T, v, rfl, hb1⟩
  go_wp2_with fail
  go_ret3
  exact ⟨rfl, hb1⟩
end Go.Proofs.YtnahohkfkkemfaaDoor
