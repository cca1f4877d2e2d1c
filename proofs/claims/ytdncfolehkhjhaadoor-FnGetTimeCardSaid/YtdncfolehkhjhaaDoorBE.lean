/- encoding/binary.BigEndian: Uint16, Uint32, Uint64. -/
import Derived.Test.YtdncfolehkhjhaaDoorBigB
namespace Go.Proofs.YtdncfolehkhjhaaDoor
open Go.RowKit
set_option linter.unusedVariables false
set_option linter.unusedSimpArgs false

theorem join16 (i : Nat) (M : Int) (hM : M = ((2 ^ i : Nat) : Int)) (lo hi : Int) (h0 : 0 ≤ lo) (h1 : lo < M) (h2 : 0 ≤ hi) (h3 : hi * M + lo < 65536) : bits .or .u16 lo (hi * M) = hi * M + lo := by
  have hm : 0 ≤ hi * M := Int.mul_nonneg h2 (by omega)
  rw [u16_or _ _ h0 (by omega) hm (by omega), Nat.or_comm, nat_join i _ _ ?_ (by omega)]
  · omega
  · obtain ⟨q, rfl⟩ : ∃ q : Nat, hi = q := ⟨hi.toNat, by omega⟩
    rw [hM, ← Int.natCast_mul, Int.toNat_natCast]
    exact Nat.mul_mod_left _ _
theorem join32 (i : Nat) (M : Int) (hM : M = ((2 ^ i : Nat) : Int)) (lo hi : Int) (h0 : 0 ≤ lo) (h1 : lo < M) (h2 : 0 ≤ hi) (h3 : hi * M + lo < 4294967296) : bits .or .u32 lo (hi * M) = hi * M + lo := by
  have hm : 0 ≤ hi * M := Int.mul_nonneg h2 (by omega)
  rw [u32_or _ _ h0 (by omega) hm (by omega), Nat.or_comm, nat_join i _ _ ?_ (by omega)]
  · omega
  · obtain ⟨q, rfl⟩ : ∃ q : Nat, hi = q := ⟨hi.toNat, by omega⟩
    rw [hM, ← Int.natCast_mul, Int.toNat_natCast]
    exact Nat.mul_mod_left _ _
theorem join64 (i : Nat) (M : Int) (hM : M = ((2 ^ i : Nat) : Int)) (lo hi : Int) (h0 : 0 ≤ lo) (h1 : lo < M) (h2 : 0 ≤ hi) (h3 : hi * M + lo < 18446744073709551616) : bits .or .u64 lo (hi * M) = hi * M + lo := by
  have hm : 0 ≤ hi * M := Int.mul_nonneg h2 (by omega)
  rw [u64_or _ _ h0 (by omega) hm (by omega), Nat.or_comm, nat_join i _ _ ?_ (by omega)]
  · omega
  · obtain ⟨q, rfl⟩ : ∃ q : Nat, hi = q := ⟨hi.toNat, by omega⟩
    rw [hM, ← Int.natCast_mul, Int.toNat_natCast]
    exact Nat.mul_mod_left _ _
set_option maxRecDepth 100000 in
set_option maxHeartbeats 4000000 in
theorem be16_any (a : Option Addr) (n c : Nat) (x0 x1 : Int) (l : List Int) (w : World) (hv : Vw w a n c (x0 :: x1 :: l)) :
    Calls Tryd.prog 66 #[.agg #[], .slice a n c] w fun e w' => e = .returned (.int .u16 (beN [x0, x1])) ∧ Below w.heap.size w w' := by
  have hn := hv.len
  simp at hn
  obtain ⟨x0l, x0h⟩ := hv.byt x0 (by simp)
  obtain ⟨x1l, x1h⟩ := hv.byt x1 (by simp)
  rcases hv.cells with h0 | ⟨b, off, rfl, hc⟩
  · omega
  · have hal : ∀ i, i < n → ∀ o, (w.alloc o).cell? ⟨b, off + i, none⟩ = some (.int .u8 ((x0 :: x1 :: l).getD i 0)) := fun i hi o => by
      rw [World.cell?_alloc_some _ _ _ (by rw [hc i hi]; rfl)]; exact hc i hi
    have q0 : ∀ o, (w.alloc o).cell? ⟨b, off, none⟩ = some (.int .u8 x0) := fun o => by simpa using hal 0 (by omega) o
    have b0 : (0 : Int) < (n : Int) := by omega
    have q1 : ∀ o, (w.alloc o).cell? ⟨b, off + 1, none⟩ = some (.int .u8 x1) := fun o => by simpa using hal 1 (by omega) o
    have b1 : (1 : Int) < (n : Int) := by omega
    have s1 : bits .or .u16 (x1) (x0 * 256) = x0 * 256 + x1 := join16 8 256 (by decide) _ _ (by omega) (by omega) (by omega) (by omega)
    have hbe : beN [x0, x1] = x0 * 256 + x1 := by first | (simp [beN]; done) | (simp [beN]; omega)
    have HB := Lib.hid hbe
    clear hc hal hbe
    go_enter Tryd.func66, Tryd.ntmps66
    go_wp2_with fail
    go_quiet (fail)
    go_wp2_with fail
    go_ret
    refine ⟨by rw [HB.out]; rfl, ?_⟩
    (repeat (first | with_reducible exact Below.refl _ _ | with_reducible assumption | with_reducible refine below_drewN ?_ _ | with_reducible refine Below.drew ?_ | with_reducible refine below_row ?_ (by first | omega | (simp; done) | (simp; omega)) _ | with_reducible refine Below.alloc ?_ (by first | omega | (simp; done) | (simp; omega)) _ | with_reducible refine Below.setCell ?_ (by first | omega | (simp; done) | (simp; omega)) _))


set_option maxRecDepth 100000 in
set_option maxHeartbeats 4000000 in
theorem be32_any (a : Option Addr) (n c : Nat) (x0 x1 x2 x3 : Int) (l : List Int) (w : World) (hv : Vw w a n c (x0 :: x1 :: x2 :: x3 :: l)) :
    Calls Tryd.prog 61 #[.agg #[], .slice a n c] w fun e w' => e = .returned (.int .u32 (beN [x0, x1, x2, x3])) ∧ Below w.heap.size w w' := by
  have hn := hv.len
  simp at hn
  obtain ⟨x0l, x0h⟩ := hv.byt x0 (by simp)
  obtain ⟨x1l, x1h⟩ := hv.byt x1 (by simp)
  obtain ⟨x2l, x2h⟩ := hv.byt x2 (by simp)
  obtain ⟨x3l, x3h⟩ := hv.byt x3 (by simp)
  rcases hv.cells with h0 | ⟨b, off, rfl, hc⟩
  · omega
  · have hal : ∀ i, i < n → ∀ o, (w.alloc o).cell? ⟨b, off + i, none⟩ = some (.int .u8 ((x0 :: x1 :: x2 :: x3 :: l).getD i 0)) := fun i hi o => by
      rw [World.cell?_alloc_some _ _ _ (by rw [hc i hi]; rfl)]; exact hc i hi
    have q0 : ∀ o, (w.alloc o).cell? ⟨b, off, none⟩ = some (.int .u8 x0) := fun o => by simpa using hal 0 (by omega) o
    have b0 : (0 : Int) < (n : Int) := by omega
    have q1 : ∀ o, (w.alloc o).cell? ⟨b, off + 1, none⟩ = some (.int .u8 x1) := fun o => by simpa using hal 1 (by omega) o
    have b1 : (1 : Int) < (n : Int) := by omega
    have q2 : ∀ o, (w.alloc o).cell? ⟨b, off + 2, none⟩ = some (.int .u8 x2) := fun o => by simpa using hal 2 (by omega) o
    have b2 : (2 : Int) < (n : Int) := by omega
    have q3 : ∀ o, (w.alloc o).cell? ⟨b, off + 3, none⟩ = some (.int .u8 x3) := fun o => by simpa using hal 3 (by omega) o
    have b3 : (3 : Int) < (n : Int) := by omega
    have s1 : bits .or .u32 (x3) (x2 * 256) = x2 * 256 + x3 := join32 8 256 (by decide) _ _ (by omega) (by omega) (by omega) (by omega)
    have s2 : bits .or .u32 (x2 * 256 + x3) (x1 * 65536) = x1 * 65536 + (x2 * 256 + x3) := join32 16 65536 (by decide) _ _ (by omega) (by omega) (by omega) (by omega)
    have s3 : bits .or .u32 (x1 * 65536 + (x2 * 256 + x3)) (x0 * 16777216) = x0 * 16777216 + (x1 * 65536 + (x2 * 256 + x3)) := join32 24 16777216 (by decide) _ _ (by omega) (by omega) (by omega) (by omega)
    have hbe : beN [x0, x1, x2, x3] = x0 * 16777216 + (x1 * 65536 + (x2 * 256 + x3)) := by first | (simp [beN]; done) | (simp [beN]; omega)
    have HB := Lib.hid hbe
    clear hc hal hbe
    go_enter Tryd.func61, Tryd.ntmps61
    go_wp2_with fail
    go_quiet (fail)
    go_wp2_with fail
    go_ret
    refine ⟨by rw [HB.out]; rfl, ?_⟩
    (repeat (first | with_reducible exact Below.refl _ _ | with_reducible assumption | with_reducible refine below_drewN ?_ _ | with_reducible refine Below.drew ?_ | with_reducible refine below_row ?_ (by first | omega | (simp; done) | (simp; omega)) _ | with_reducible refine Below.alloc ?_ (by first | omega | (simp; done) | (simp; omega)) _ | with_reducible refine Below.setCell ?_ (by first | omega | (simp; done) | (simp; omega)) _))


set_option maxRecDepth 100000 in
set_option maxHeartbeats 4000000 in
theorem be64_any (a : Option Addr) (n c : Nat) (x0 x1 x2 x3 x4 x5 x6 x7 : Int) (l : List Int) (w : World) (hv : Vw w a n c (x0 :: x1 :: x2 :: x3 :: x4 :: x5 :: x6 :: x7 :: l)) :
    Calls Tryd.prog 62 #[.agg #[], .slice a n c] w fun e w' => e = .returned (.int .u64 (beN [x0, x1, x2, x3, x4, x5, x6, x7])) ∧ Below w.heap.size w w' := by
  have hn := hv.len
  simp at hn
  obtain ⟨x0l, x0h⟩ := hv.byt x0 (by simp)
  obtain ⟨x1l, x1h⟩ := hv.byt x1 (by simp)
  obtain ⟨x2l, x2h⟩ := hv.byt x2 (by simp)
  obtain ⟨x3l, x3h⟩ := hv.byt x3 (by simp)
  obtain ⟨x4l, x4h⟩ := hv.byt x4 (by simp)
  obtain ⟨x5l, x5h⟩ := hv.byt x5 (by simp)
  obtain ⟨x6l, x6h⟩ := hv.byt x6 (by simp)
  obtain ⟨x7l, x7h⟩ := hv.byt x7 (by simp)
  rcases hv.cells with h0 | ⟨b, off, rfl, hc⟩
  · omega
  · have hal : ∀ i, i < n → ∀ o, (w.alloc o).cell? ⟨b, off + i, none⟩ = some (.int .u8 ((x0 :: x1 :: x2 :: x3 :: x4 :: x5 :: x6 :: x7 :: l).getD i 0)) := fun i hi o => by
      rw [World.cell?_alloc_some _ _ _ (by rw [hc i hi]; rfl)]; exact hc i hi
    have q0 : ∀ o, (w.alloc o).cell? ⟨b, off, none⟩ = some (.int .u8 x0) := fun o => by simpa using hal 0 (by omega) o
    have b0 : (0 : Int) < (n : Int) := by omega
    have q1 : ∀ o, (w.alloc o).cell? ⟨b, off + 1, none⟩ = some (.int .u8 x1) := fun o => by simpa using hal 1 (by omega) o
    have b1 : (1 : Int) < (n : Int) := by omega
    have q2 : ∀ o, (w.alloc o).cell? ⟨b, off + 2, none⟩ = some (.int .u8 x2) := fun o => by simpa using hal 2 (by omega) o
    have b2 : (2 : Int) < (n : Int) := by omega
    have q3 : ∀ o, (w.alloc o).cell? ⟨b, off + 3, none⟩ = some (.int .u8 x3) := fun o => by simpa using hal 3 (by omega) o
    have b3 : (3 : Int) < (n : Int) := by omega
    have q4 : ∀ o, (w.alloc o).cell? ⟨b, off + 4, none⟩ = some (.int .u8 x4) := fun o => by simpa using hal 4 (by omega) o
    have b4 : (4 : Int) < (n : Int) := by omega
    have q5 : ∀ o, (w.alloc o).cell? ⟨b, off + 5, none⟩ = some (.int .u8 x5) := fun o => by simpa using hal 5 (by omega) o
    have b5 : (5 : Int) < (n : Int) := by omega
    have q6 : ∀ o, (w.alloc o).cell? ⟨b, off + 6, none⟩ = some (.int .u8 x6) := fun o => by simpa using hal 6 (by omega) o
    have b6 : (6 : Int) < (n : Int) := by omega
    have q7 : ∀ o, (w.alloc o).cell? ⟨b, off + 7, none⟩ = some (.int .u8 x7) := fun o => by simpa using hal 7 (by omega) o
    have b7 : (7 : Int) < (n : Int) := by omega
    have s1 : bits .or .u64 (x7) (x6 * 256) = x6 * 256 + x7 := join64 8 256 (by decide) _ _ (by omega) (by omega) (by omega) (by omega)
    have s2 : bits .or .u64 (x6 * 256 + x7) (x5 * 65536) = x5 * 65536 + (x6 * 256 + x7) := join64 16 65536 (by decide) _ _ (by omega) (by omega) (by omega) (by omega)
    have s3 : bits .or .u64 (x5 * 65536 + (x6 * 256 + x7)) (x4 * 16777216) = x4 * 16777216 + (x5 * 65536 + (x6 * 256 + x7)) := join64 24 16777216 (by decide) _ _ (by omega) (by omega) (by omega) (by omega)
    have s4 : bits .or .u64 (x4 * 16777216 + (x5 * 65536 + (x6 * 256 + x7))) (x3 * 4294967296) = x3 * 4294967296 + (x4 * 16777216 + (x5 * 65536 + (x6 * 256 + x7))) := join64 32 4294967296 (by decide) _ _ (by omega) (by omega) (by omega) (by omega)
    have s5 : bits .or .u64 (x3 * 4294967296 + (x4 * 16777216 + (x5 * 65536 + (x6 * 256 + x7)))) (x2 * 1099511627776) = x2 * 1099511627776 + (x3 * 4294967296 + (x4 * 16777216 + (x5 * 65536 + (x6 * 256 + x7)))) := join64 40 1099511627776 (by decide) _ _ (by omega) (by omega) (by omega) (by omega)
    have s6 : bits .or .u64 (x2 * 1099511627776 + (x3 * 4294967296 + (x4 * 16777216 + (x5 * 65536 + (x6 * 256 + x7))))) (x1 * 281474976710656) = x1 * 281474976710656 + (x2 * 1099511627776 + (x3 * 4294967296 + (x4 * 16777216 + (x5 * 65536 + (x6 * 256 + x7))))) := join64 48 281474976710656 (by decide) _ _ (by omega) (by omega) (by omega) (by omega)
    have s7 : bits .or .u64 (x1 * 281474976710656 + (x2 * 1099511627776 + (x3 * 4294967296 + (x4 * 16777216 + (x5 * 65536 + (x6 * 256 + x7)))))) (x0 * 72057594037927936) = x0 * 72057594037927936 + (x1 * 281474976710656 + (x2 * 1099511627776 + (x3 * 4294967296 + (x4 * 16777216 + (x5 * 65536 + (x6 * 256 + x7)))))) := join64 56 72057594037927936 (by decide) _ _ (by omega) (by omega) (by omega) (by omega)
    have hbe : beN [x0, x1, x2, x3, x4, x5, x6, x7] = x0 * 72057594037927936 + (x1 * 281474976710656 + (x2 * 1099511627776 + (x3 * 4294967296 + (x4 * 16777216 + (x5 * 65536 + (x6 * 256 + x7)))))) := by first | (simp [beN]; done) | (simp [beN]; omega)
    have HB := Lib.hid hbe
    clear hc hal hbe
    go_enter Tryd.func62, Tryd.ntmps62
    go_wp2_with fail
    go_quiet (fail)
    go_wp2_with fail
    go_ret
    refine ⟨by rw [HB.out]; rfl, ?_⟩
    (repeat (first | with_reducible exact Below.refl _ _ | with_reducible assumption | with_reducible refine below_drewN ?_ _ | with_reducible refine Below.drew ?_ | with_reducible refine below_row ?_ (by first | omega | (simp; done) | (simp; omega)) _ | with_reducible refine Below.alloc ?_ (by first | omega | (simp; done) | (simp; omega)) _ | with_reducible refine Below.setCell ?_ (by first | omega | (simp; done) | (simp; omega)) _))


end Go.Proofs.YtdncfolehkhjhaaDoor
