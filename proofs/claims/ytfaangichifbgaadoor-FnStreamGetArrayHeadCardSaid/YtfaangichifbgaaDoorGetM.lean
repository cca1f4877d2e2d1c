/- msgp.getMint8 to getMuint64: numbers behind a code. -/
import Derived.Test.YtfaangichifbgaaDoorFixW
namespace Go.Proofs.YtfaangichifbgaaDoor
open Go.RowKit
set_option linter.unusedVariables false
set_option linter.unusedSimpArgs false

theorem orU32 (i : Nat) (A lo : Int) (h0 : 0 ≤ A) (hA : A.toNat % 2 ^ i = 0) (l0 : 0 ≤ lo) (l1 : lo.toNat < 2 ^ i) (h : A + lo < 4294967296) : bits .or .u32 A lo = A + lo := by
  rw [u32_or _ _ h0 (by omega) l0 (by omega), nat_join i _ _ hA l1]
  omega
theorem orS32 (i : Nat) (A lo : Int) (h0 : 0 ≤ A) (hA : A.toNat % 2 ^ i = 0) (l0 : 0 ≤ lo) (l1 : lo.toNat < 2 ^ i) (h : A + lo < 4294967296) : bits .or .i32 (wrap32 A) lo = wrap32 (A + lo) := by
  have e1 : (BitVec.ofInt 32 (wrap32 A)).toNat = A.toNat := by
    rw [BitVec.toNat_ofInt]; unfold wrap32; omega
  have e2 : (BitVec.ofInt 32 lo).toNat = lo.toNat := by
    rw [BitVec.toNat_ofInt]; congr 1; omega
  show IntKind.i32.wrap ((BitVec.ofInt 32 (wrap32 A) ||| BitVec.ofInt 32 lo).toNat : Nat) = _
  rw [BitVec.toNat_or, e1, e2, nat_join i _ _ hA l1, IntKind.wrap_i32]
  unfold wrap32
  omega
theorem orU64 (i : Nat) (A lo : Int) (h0 : 0 ≤ A) (hA : A.toNat % 2 ^ i = 0) (l0 : 0 ≤ lo) (l1 : lo.toNat < 2 ^ i) (h : A + lo < 18446744073709551616) : bits .or .u64 A lo = A + lo := by
  rw [u64_or _ _ h0 (by omega) l0 (by omega), nat_join i _ _ hA l1]
  omega
theorem orS64 (i : Nat) (A lo : Int) (h0 : 0 ≤ A) (hA : A.toNat % 2 ^ i = 0) (l0 : 0 ≤ lo) (l1 : lo.toNat < 2 ^ i) (h : A + lo < 18446744073709551616) : bits .or .i64 (wrap64 A) lo = wrap64 (A + lo) := by
  have e1 : (BitVec.ofInt 64 (wrap64 A)).toNat = A.toNat := by
    rw [BitVec.toNat_ofInt]; unfold wrap64; omega
  have e2 : (BitVec.ofInt 64 lo).toNat = lo.toNat := by
    rw [BitVec.toNat_ofInt]; congr 1; omega
  show IntKind.i64.wrap ((BitVec.ofInt 64 (wrap64 A) ||| BitVec.ofInt 64 lo).toNat : Nat) = _
  rw [BitVec.toNat_or, e1, e2, nat_join i _ _ hA l1, IntKind.wrap_i64]
  unfold wrap64
  omega

def hd (l : List Int) (i : Nat) : Int := l.getD i 0
set_option maxRecDepth 100000 in
set_option maxHeartbeats 8000000 in
theorem getMint8_any (a : Option Addr) (n c : Nat) (z x1 : Int) (l : List Int) (w : World) (hv : Vw w a n c (z :: x1 :: l)) :
    Calls Tryd.prog 74 #[.slice a n c] w fun e w' => e = .returned (.int .i8 (IntKind.i8.wrap x1)) ∧ Below w.heap.size w w' := by
  have hn := hv.len
  simp at hn
  obtain ⟨x1l, x1h⟩ := hv.byt x1 (by simp)
  rcases hv.cells with h0 | ⟨b, off, rfl, hc⟩
  · omega
  have q1 : w.cell? ⟨b, off + 1, none⟩ = some (.int .u8 x1) := by simpa using hc 1 (by omega)
  have b1 : (1 : Int) < (n : Int) := by omega
  clear hc hn
  go_enter Tryd.func74, Tryd.ntmps74
  go_wp2_with fail
  go_ret
  exact ⟨by rfl, by (repeat (first | with_reducible exact Below.refl _ _ | with_reducible assumption | with_reducible refine below_drewN ?_ _ | with_reducible refine Below.drew ?_ | with_reducible refine below_row ?_ (by first | omega | (simp; done) | (simp; omega)) _ | with_reducible refine Below.alloc ?_ (by first | omega | (simp; done) | (simp; omega)) _ | with_reducible refine Below.setCell ?_ (by first | omega | (simp; done) | (simp; omega)) _))⟩

set_option maxRecDepth 100000 in
set_option maxHeartbeats 8000000 in
theorem getMuint8_any (a : Option Addr) (n c : Nat) (z x1 : Int) (l : List Int) (w : World) (hv : Vw w a n c (z :: x1 :: l)) :
    Calls Tryd.prog 75 #[.slice a n c] w fun e w' => e = .returned (.int .u8 (x1)) ∧ Below w.heap.size w w' := by
  have hn := hv.len
  simp at hn
  obtain ⟨x1l, x1h⟩ := hv.byt x1 (by simp)
  rcases hv.cells with h0 | ⟨b, off, rfl, hc⟩
  · omega
  have q1 : w.cell? ⟨b, off + 1, none⟩ = some (.int .u8 x1) := by simpa using hc 1 (by omega)
  have b1 : (1 : Int) < (n : Int) := by omega
  clear hc hn
  go_enter Tryd.func75, Tryd.ntmps75
  go_wp2_with fail
  go_ret
  exact ⟨by rfl, by (repeat (first | with_reducible exact Below.refl _ _ | with_reducible assumption | with_reducible refine below_drewN ?_ _ | with_reducible refine Below.drew ?_ | with_reducible refine below_row ?_ (by first | omega | (simp; done) | (simp; omega)) _ | with_reducible refine Below.alloc ?_ (by first | omega | (simp; done) | (simp; omega)) _ | with_reducible refine Below.setCell ?_ (by first | omega | (simp; done) | (simp; omega)) _))⟩

set_option maxRecDepth 100000 in
set_option maxHeartbeats 8000000 in
theorem getMint16_any (a : Option Addr) (n c : Nat) (z x1 x2 : Int) (l : List Int) (w : World) (hv : Vw w a n c (z :: x1 :: x2 :: l)) :
    Calls Tryd.prog 76 #[.slice a n c] w fun e w' => e = .returned (.int .i16 (IntKind.i16.wrap (beN [x1, x2]))) ∧ Below w.heap.size w w' := by
  have hn := hv.len
  simp at hn
  obtain ⟨x1l, x1h⟩ := hv.byt x1 (by simp)
  obtain ⟨x2l, x2h⟩ := hv.byt x2 (by simp)
  rcases hv.cells with h0 | ⟨b, off, rfl, hc⟩
  · omega
  have q1 : w.cell? ⟨b, off + 1, none⟩ = some (.int .u8 x1) := by simpa using hc 1 (by omega)
  have b1 : (1 : Int) < (n : Int) := by omega
  have q2 : w.cell? ⟨b, off + 2, none⟩ = some (.int .u8 x2) := by simpa using hc 2 (by omega)
  have b2 : (2 : Int) < (n : Int) := by omega
  have s1 := or16s x1 x2 x1l (by omega) x2l (by omega)
  have hbe : beN [x1, x2] = x1 * 256 + x2 := by first | (simp [beN]; done) | (simp [beN]; omega)
  have HB := Lib.hid hbe
  clear hbe
  clear hc hn
  go_enter Tryd.func76, Tryd.ntmps76
  go_wp2_with fail
  go_quiet (fail)
  go_wp2_with fail
  go_ret
  exact ⟨by rw [HB.out]; rfl, by (repeat (first | with_reducible exact Below.refl _ _ | with_reducible assumption | with_reducible refine below_drewN ?_ _ | with_reducible refine Below.drew ?_ | with_reducible refine below_row ?_ (by first | omega | (simp; done) | (simp; omega)) _ | with_reducible refine Below.alloc ?_ (by first | omega | (simp; done) | (simp; omega)) _ | with_reducible refine Below.setCell ?_ (by first | omega | (simp; done) | (simp; omega)) _))⟩

set_option maxRecDepth 100000 in
set_option maxHeartbeats 8000000 in
theorem getMuint16_any (a : Option Addr) (n c : Nat) (z x1 x2 : Int) (l : List Int) (w : World) (hv : Vw w a n c (z :: x1 :: x2 :: l)) :
    Calls Tryd.prog 77 #[.slice a n c] w fun e w' => e = .returned (.int .u16 (beN [x1, x2])) ∧ Below w.heap.size w w' := by
  have hn := hv.len
  simp at hn
  obtain ⟨x1l, x1h⟩ := hv.byt x1 (by simp)
  obtain ⟨x2l, x2h⟩ := hv.byt x2 (by simp)
  rcases hv.cells with h0 | ⟨b, off, rfl, hc⟩
  · omega
  have q1 : w.cell? ⟨b, off + 1, none⟩ = some (.int .u8 x1) := by simpa using hc 1 (by omega)
  have b1 : (1 : Int) < (n : Int) := by omega
  have q2 : w.cell? ⟨b, off + 2, none⟩ = some (.int .u8 x2) := by simpa using hc 2 (by omega)
  have b2 : (2 : Int) < (n : Int) := by omega
  have s1 : bits .or .u16 (x1 * 256) x2 = x1 * 256 + x2 := by rw [u16_or _ _ (by omega) (by omega) (by omega) (by omega), nat_join 8 _ _ (by omega) (by omega)]; omega
  have hbe : beN [x1, x2] = x1 * 256 + x2 := by first | (simp [beN]; done) | (simp [beN]; omega)
  have HB := Lib.hid hbe
  clear hbe
  clear hc hn
  go_enter Tryd.func77, Tryd.ntmps77
  go_wp2_with fail
  go_quiet (fail)
  go_wp2_with fail
  go_ret
  exact ⟨by rw [HB.out]; rfl, by (repeat (first | with_reducible exact Below.refl _ _ | with_reducible assumption | with_reducible refine below_drewN ?_ _ | with_reducible refine Below.drew ?_ | with_reducible refine below_row ?_ (by first | omega | (simp; done) | (simp; omega)) _ | with_reducible refine Below.alloc ?_ (by first | omega | (simp; done) | (simp; omega)) _ | with_reducible refine Below.setCell ?_ (by first | omega | (simp; done) | (simp; omega)) _))⟩

set_option maxRecDepth 100000 in
set_option maxHeartbeats 8000000 in
theorem getMint32_any (a : Option Addr) (n c : Nat) (z x1 x2 x3 x4 : Int) (l : List Int) (w : World) (hv : Vw w a n c (z :: x1 :: x2 :: x3 :: x4 :: l)) :
    Calls Tryd.prog 78 #[.slice a n c] w fun e w' => e = .returned (.int .i32 (wrap32 (beN [x1, x2, x3, x4]))) ∧ Below w.heap.size w w' := by
  have hn := hv.len
  simp at hn
  obtain ⟨x1l, x1h⟩ := hv.byt x1 (by simp)
  obtain ⟨x2l, x2h⟩ := hv.byt x2 (by simp)
  obtain ⟨x3l, x3h⟩ := hv.byt x3 (by simp)
  obtain ⟨x4l, x4h⟩ := hv.byt x4 (by simp)
  rcases hv.cells with h0 | ⟨b, off, rfl, hc⟩
  · omega
  have q1 : w.cell? ⟨b, off + 1, none⟩ = some (.int .u8 x1) := by simpa using hc 1 (by omega)
  have b1 : (1 : Int) < (n : Int) := by omega
  have q2 : w.cell? ⟨b, off + 2, none⟩ = some (.int .u8 x2) := by simpa using hc 2 (by omega)
  have b2 : (2 : Int) < (n : Int) := by omega
  have q3 : w.cell? ⟨b, off + 3, none⟩ = some (.int .u8 x3) := by simpa using hc 3 (by omega)
  have b3 : (3 : Int) < (n : Int) := by omega
  have q4 : w.cell? ⟨b, off + 4, none⟩ = some (.int .u8 x4) := by simpa using hc 4 (by omega)
  have b4 : (4 : Int) < (n : Int) := by omega
  have s1 : bits .or .i32 (wrap32 (x1 * 16777216)) (x2 * 65536) = wrap32 (x1 * 16777216 + x2 * 65536) := orS32 24 _ _ (by omega) (by omega) (by omega) (by omega) (by omega)
  have s2 : bits .or .i32 (wrap32 (x1 * 16777216 + x2 * 65536)) (x3 * 256) = wrap32 (x1 * 16777216 + x2 * 65536 + x3 * 256) := orS32 16 _ _ (by omega) (by omega) (by omega) (by omega) (by omega)
  have s3 : bits .or .i32 (wrap32 (x1 * 16777216 + x2 * 65536 + x3 * 256)) (x4) = wrap32 (x1 * 16777216 + x2 * 65536 + x3 * 256 + x4) := orS32 8 _ _ (by omega) (by omega) (by omega) (by omega) (by omega)
  have hbe : beN [x1, x2, x3, x4] = x1 * 16777216 + x2 * 65536 + x3 * 256 + x4 := by first | (simp [beN]; done) | (simp [beN]; omega)
  have HB := Lib.hid hbe
  clear hbe
  clear hc hn
  go_enter Tryd.func78, Tryd.ntmps78
  go_wp2_with fail
  go_quiet (fail)
  go_wp2_with fail
  go_ret
  exact ⟨by rw [HB.out]; rfl, by (repeat (first | with_reducible exact Below.refl _ _ | with_reducible assumption | with_reducible refine below_drewN ?_ _ | with_reducible refine Below.drew ?_ | with_reducible refine below_row ?_ (by first | omega | (simp; done) | (simp; omega)) _ | with_reducible refine Below.alloc ?_ (by first | omega | (simp; done) | (simp; omega)) _ | with_reducible refine Below.setCell ?_ (by first | omega | (simp; done) | (simp; omega)) _))⟩

set_option maxRecDepth 100000 in
set_option maxHeartbeats 8000000 in
theorem getMuint32_any (a : Option Addr) (n c : Nat) (z x1 x2 x3 x4 : Int) (l : List Int) (w : World) (hv : Vw w a n c (z :: x1 :: x2 :: x3 :: x4 :: l)) :
    Calls Tryd.prog 68 #[.slice a n c] w fun e w' => e = .returned (.int .u32 (beN [x1, x2, x3, x4])) ∧ Below w.heap.size w w' := by
  have hn := hv.len
  simp at hn
  obtain ⟨x1l, x1h⟩ := hv.byt x1 (by simp)
  obtain ⟨x2l, x2h⟩ := hv.byt x2 (by simp)
  obtain ⟨x3l, x3h⟩ := hv.byt x3 (by simp)
  obtain ⟨x4l, x4h⟩ := hv.byt x4 (by simp)
  rcases hv.cells with h0 | ⟨b, off, rfl, hc⟩
  · omega
  have q1 : w.cell? ⟨b, off + 1, none⟩ = some (.int .u8 x1) := by simpa using hc 1 (by omega)
  have b1 : (1 : Int) < (n : Int) := by omega
  have q2 : w.cell? ⟨b, off + 2, none⟩ = some (.int .u8 x2) := by simpa using hc 2 (by omega)
  have b2 : (2 : Int) < (n : Int) := by omega
  have q3 : w.cell? ⟨b, off + 3, none⟩ = some (.int .u8 x3) := by simpa using hc 3 (by omega)
  have b3 : (3 : Int) < (n : Int) := by omega
  have q4 : w.cell? ⟨b, off + 4, none⟩ = some (.int .u8 x4) := by simpa using hc 4 (by omega)
  have b4 : (4 : Int) < (n : Int) := by omega
  have s1 : bits .or .u32 (x1 * 16777216) (x2 * 65536) = x1 * 16777216 + x2 * 65536 := orU32 24 _ _ (by omega) (by omega) (by omega) (by omega) (by omega)
  have s2 : bits .or .u32 (x1 * 16777216 + x2 * 65536) (x3 * 256) = x1 * 16777216 + x2 * 65536 + x3 * 256 := orU32 16 _ _ (by omega) (by omega) (by omega) (by omega) (by omega)
  have s3 : bits .or .u32 (x1 * 16777216 + x2 * 65536 + x3 * 256) (x4) = x1 * 16777216 + x2 * 65536 + x3 * 256 + x4 := orU32 8 _ _ (by omega) (by omega) (by omega) (by omega) (by omega)
  have hbe : beN [x1, x2, x3, x4] = x1 * 16777216 + x2 * 65536 + x3 * 256 + x4 := by first | (simp [beN]; done) | (simp [beN]; omega)
  have HB := Lib.hid hbe
  clear hbe
  clear hc hn
  go_enter Tryd.func68, Tryd.ntmps68
  go_wp2_with fail
  go_quiet (fail)
  go_wp2_with fail
  go_ret
  exact ⟨by rw [HB.out]; rfl, by (repeat (first | with_reducible exact Below.refl _ _ | with_reducible assumption | with_reducible refine below_drewN ?_ _ | with_reducible refine Below.drew ?_ | with_reducible refine below_row ?_ (by first | omega | (simp; done) | (simp; omega)) _ | with_reducible refine Below.alloc ?_ (by first | omega | (simp; done) | (simp; omega)) _ | with_reducible refine Below.setCell ?_ (by first | omega | (simp; done) | (simp; omega)) _))⟩

set_option maxRecDepth 100000 in
set_option maxHeartbeats 8000000 in
theorem getMint64_any (a : Option Addr) (n c : Nat) (z x1 x2 x3 x4 x5 x6 x7 x8 : Int) (l : List Int) (w : World) (hv : Vw w a n c (z :: x1 :: x2 :: x3 :: x4 :: x5 :: x6 :: x7 :: x8 :: l)) :
    Calls Tryd.prog 79 #[.slice a n c] w fun e w' => e = .returned (.int .i64 (wrap64 (beN [x1, x2, x3, x4, x5, x6, x7, x8]))) ∧ Below w.heap.size w w' := by
  have hn := hv.len
  simp at hn
  obtain ⟨x1l, x1h⟩ := hv.byt x1 (by simp)
  obtain ⟨x2l, x2h⟩ := hv.byt x2 (by simp)
  obtain ⟨x3l, x3h⟩ := hv.byt x3 (by simp)
  obtain ⟨x4l, x4h⟩ := hv.byt x4 (by simp)
  obtain ⟨x5l, x5h⟩ := hv.byt x5 (by simp)
  obtain ⟨x6l, x6h⟩ := hv.byt x6 (by simp)
  obtain ⟨x7l, x7h⟩ := hv.byt x7 (by simp)
  obtain ⟨x8l, x8h⟩ := hv.byt x8 (by simp)
  rcases hv.cells with h0 | ⟨b, off, rfl, hc⟩
  · omega
  have q1 : w.cell? ⟨b, off + 1, none⟩ = some (.int .u8 x1) := by simpa using hc 1 (by omega)
  have b1 : (1 : Int) < (n : Int) := by omega
  have q2 : w.cell? ⟨b, off + 2, none⟩ = some (.int .u8 x2) := by simpa using hc 2 (by omega)
  have b2 : (2 : Int) < (n : Int) := by omega
  have q3 : w.cell? ⟨b, off + 3, none⟩ = some (.int .u8 x3) := by simpa using hc 3 (by omega)
  have b3 : (3 : Int) < (n : Int) := by omega
  have q4 : w.cell? ⟨b, off + 4, none⟩ = some (.int .u8 x4) := by simpa using hc 4 (by omega)
  have b4 : (4 : Int) < (n : Int) := by omega
  have q5 : w.cell? ⟨b, off + 5, none⟩ = some (.int .u8 x5) := by simpa using hc 5 (by omega)
  have b5 : (5 : Int) < (n : Int) := by omega
  have q6 : w.cell? ⟨b, off + 6, none⟩ = some (.int .u8 x6) := by simpa using hc 6 (by omega)
  have b6 : (6 : Int) < (n : Int) := by omega
  have q7 : w.cell? ⟨b, off + 7, none⟩ = some (.int .u8 x7) := by simpa using hc 7 (by omega)
  have b7 : (7 : Int) < (n : Int) := by omega
  have q8 : w.cell? ⟨b, off + 8, none⟩ = some (.int .u8 x8) := by simpa using hc 8 (by omega)
  have b8 : (8 : Int) < (n : Int) := by omega
  have s1 : bits .or .i64 (wrap64 (x1 * 72057594037927936)) (x2 * 281474976710656) = wrap64 (x1 * 72057594037927936 + x2 * 281474976710656) := orS64 56 _ _ (by omega) (by omega) (by omega) (by omega) (by omega)
  have s2 : bits .or .i64 (wrap64 (x1 * 72057594037927936 + x2 * 281474976710656)) (x3 * 1099511627776) = wrap64 (x1 * 72057594037927936 + x2 * 281474976710656 + x3 * 1099511627776) := orS64 48 _ _ (by omega) (by omega) (by omega) (by omega) (by omega)
  have s3 : bits .or .i64 (wrap64 (x1 * 72057594037927936 + x2 * 281474976710656 + x3 * 1099511627776)) (x4 * 4294967296) = wrap64 (x1 * 72057594037927936 + x2 * 281474976710656 + x3 * 1099511627776 + x4 * 4294967296) := orS64 40 _ _ (by omega) (by omega) (by omega) (by omega) (by omega)
  have s4 : bits .or .i64 (wrap64 (x1 * 72057594037927936 + x2 * 281474976710656 + x3 * 1099511627776 + x4 * 4294967296)) (x5 * 16777216) = wrap64 (x1 * 72057594037927936 + x2 * 281474976710656 + x3 * 1099511627776 + x4 * 4294967296 + x5 * 16777216) := orS64 32 _ _ (by omega) (by omega) (by omega) (by omega) (by omega)
  have s5 : bits .or .i64 (wrap64 (x1 * 72057594037927936 + x2 * 281474976710656 + x3 * 1099511627776 + x4 * 4294967296 + x5 * 16777216)) (x6 * 65536) = wrap64 (x1 * 72057594037927936 + x2 * 281474976710656 + x3 * 1099511627776 + x4 * 4294967296 + x5 * 16777216 + x6 * 65536) := orS64 24 _ _ (by omega) (by omega) (by omega) (by omega) (by omega)
  have s6 : bits .or .i64 (wrap64 (x1 * 72057594037927936 + x2 * 281474976710656 + x3 * 1099511627776 + x4 * 4294967296 + x5 * 16777216 + x6 * 65536)) (x7 * 256) = wrap64 (x1 * 72057594037927936 + x2 * 281474976710656 + x3 * 1099511627776 + x4 * 4294967296 + x5 * 16777216 + x6 * 65536 + x7 * 256) := orS64 16 _ _ (by omega) (by omega) (by omega) (by omega) (by omega)
  have s7 : bits .or .i64 (wrap64 (x1 * 72057594037927936 + x2 * 281474976710656 + x3 * 1099511627776 + x4 * 4294967296 + x5 * 16777216 + x6 * 65536 + x7 * 256)) (x8) = wrap64 (x1 * 72057594037927936 + x2 * 281474976710656 + x3 * 1099511627776 + x4 * 4294967296 + x5 * 16777216 + x6 * 65536 + x7 * 256 + x8) := orS64 8 _ _ (by omega) (by omega) (by omega) (by omega) (by omega)
  have hbe : beN [x1, x2, x3, x4, x5, x6, x7, x8] = x1 * 72057594037927936 + x2 * 281474976710656 + x3 * 1099511627776 + x4 * 4294967296 + x5 * 16777216 + x6 * 65536 + x7 * 256 + x8 := by first | (simp [beN]; done) | (simp [beN]; omega)
  have HB := Lib.hid hbe
  clear hbe
  clear hc hn
  go_enter Tryd.func79, Tryd.ntmps79
  go_wp2_with fail
  go_quiet (fail)
  go_wp2_with fail
  go_ret
  exact ⟨by rw [HB.out]; rfl, by (repeat (first | with_reducible exact Below.refl _ _ | with_reducible assumption | with_reducible refine below_drewN ?_ _ | with_reducible refine Below.drew ?_ | with_reducible refine below_row ?_ (by first | omega | (simp; done) | (simp; omega)) _ | with_reducible refine Below.alloc ?_ (by first | omega | (simp; done) | (simp; omega)) _ | with_reducible refine Below.setCell ?_ (by first | omega | (simp; done) | (simp; omega)) _))⟩

set_option maxRecDepth 100000 in
set_option maxHeartbeats 8000000 in
theorem getMuint64_any (a : Option Addr) (n c : Nat) (z x1 x2 x3 x4 x5 x6 x7 x8 : Int) (l : List Int) (w : World) (hv : Vw w a n c (z :: x1 :: x2 :: x3 :: x4 :: x5 :: x6 :: x7 :: x8 :: l)) :
    Calls Tryd.prog 52 #[.slice a n c] w fun e w' => e = .returned (.int .u64 (beN [x1, x2, x3, x4, x5, x6, x7, x8])) ∧ Below w.heap.size w w' := by
  have hn := hv.len
  simp at hn
  obtain ⟨x1l, x1h⟩ := hv.byt x1 (by simp)
  obtain ⟨x2l, x2h⟩ := hv.byt x2 (by simp)
  obtain ⟨x3l, x3h⟩ := hv.byt x3 (by simp)
  obtain ⟨x4l, x4h⟩ := hv.byt x4 (by simp)
  obtain ⟨x5l, x5h⟩ := hv.byt x5 (by simp)
  obtain ⟨x6l, x6h⟩ := hv.byt x6 (by simp)
  obtain ⟨x7l, x7h⟩ := hv.byt x7 (by simp)
  obtain ⟨x8l, x8h⟩ := hv.byt x8 (by simp)
  rcases hv.cells with h0 | ⟨b, off, rfl, hc⟩
  · omega
  have q1 : w.cell? ⟨b, off + 1, none⟩ = some (.int .u8 x1) := by simpa using hc 1 (by omega)
  have b1 : (1 : Int) < (n : Int) := by omega
  have q2 : w.cell? ⟨b, off + 2, none⟩ = some (.int .u8 x2) := by simpa using hc 2 (by omega)
  have b2 : (2 : Int) < (n : Int) := by omega
  have q3 : w.cell? ⟨b, off + 3, none⟩ = some (.int .u8 x3) := by simpa using hc 3 (by omega)
  have b3 : (3 : Int) < (n : Int) := by omega
  have q4 : w.cell? ⟨b, off + 4, none⟩ = some (.int .u8 x4) := by simpa using hc 4 (by omega)
  have b4 : (4 : Int) < (n : Int) := by omega
  have q5 : w.cell? ⟨b, off + 5, none⟩ = some (.int .u8 x5) := by simpa using hc 5 (by omega)
  have b5 : (5 : Int) < (n : Int) := by omega
  have q6 : w.cell? ⟨b, off + 6, none⟩ = some (.int .u8 x6) := by simpa using hc 6 (by omega)
  have b6 : (6 : Int) < (n : Int) := by omega
  have q7 : w.cell? ⟨b, off + 7, none⟩ = some (.int .u8 x7) := by simpa using hc 7 (by omega)
  have b7 : (7 : Int) < (n : Int) := by omega
  have q8 : w.cell? ⟨b, off + 8, none⟩ = some (.int .u8 x8) := by simpa using hc 8 (by omega)
  have b8 : (8 : Int) < (n : Int) := by omega
  have s1 : bits .or .u64 (x1 * 72057594037927936) (x2 * 281474976710656) = x1 * 72057594037927936 + x2 * 281474976710656 := orU64 56 _ _ (by omega) (by omega) (by omega) (by omega) (by omega)
  have s2 : bits .or .u64 (x1 * 72057594037927936 + x2 * 281474976710656) (x3 * 1099511627776) = x1 * 72057594037927936 + x2 * 281474976710656 + x3 * 1099511627776 := orU64 48 _ _ (by omega) (by omega) (by omega) (by omega) (by omega)
  have s3 : bits .or .u64 (x1 * 72057594037927936 + x2 * 281474976710656 + x3 * 1099511627776) (x4 * 4294967296) = x1 * 72057594037927936 + x2 * 281474976710656 + x3 * 1099511627776 + x4 * 4294967296 := orU64 40 _ _ (by omega) (by omega) (by omega) (by omega) (by omega)
  have s4 : bits .or .u64 (x1 * 72057594037927936 + x2 * 281474976710656 + x3 * 1099511627776 + x4 * 4294967296) (x5 * 16777216) = x1 * 72057594037927936 + x2 * 281474976710656 + x3 * 1099511627776 + x4 * 4294967296 + x5 * 16777216 := orU64 32 _ _ (by omega) (by omega) (by omega) (by omega) (by omega)
  have s5 : bits .or .u64 (x1 * 72057594037927936 + x2 * 281474976710656 + x3 * 1099511627776 + x4 * 4294967296 + x5 * 16777216) (x6 * 65536) = x1 * 72057594037927936 + x2 * 281474976710656 + x3 * 1099511627776 + x4 * 4294967296 + x5 * 16777216 + x6 * 65536 := orU64 24 _ _ (by omega) (by omega) (by omega) (by omega) (by omega)
  have s6 : bits .or .u64 (x1 * 72057594037927936 + x2 * 281474976710656 + x3 * 1099511627776 + x4 * 4294967296 + x5 * 16777216 + x6 * 65536) (x7 * 256) = x1 * 72057594037927936 + x2 * 281474976710656 + x3 * 1099511627776 + x4 * 4294967296 + x5 * 16777216 + x6 * 65536 + x7 * 256 := orU64 16 _ _ (by omega) (by omega) (by omega) (by omega) (by omega)
  have s7 : bits .or .u64 (x1 * 72057594037927936 + x2 * 281474976710656 + x3 * 1099511627776 + x4 * 4294967296 + x5 * 16777216 + x6 * 65536 + x7 * 256) (x8) = x1 * 72057594037927936 + x2 * 281474976710656 + x3 * 1099511627776 + x4 * 4294967296 + x5 * 16777216 + x6 * 65536 + x7 * 256 + x8 := orU64 8 _ _ (by omega) (by omega) (by omega) (by omega) (by omega)
  have hbe : beN [x1, x2, x3, x4, x5, x6, x7, x8] = x1 * 72057594037927936 + x2 * 281474976710656 + x3 * 1099511627776 + x4 * 4294967296 + x5 * 16777216 + x6 * 65536 + x7 * 256 + x8 := by first | (simp [beN]; done) | (simp [beN]; omega)
  have HB := Lib.hid hbe
  clear hbe
  clear hc hn
  go_enter Tryd.func52, Tryd.ntmps52
  go_wp2_with fail
  go_quiet (fail)
  go_wp2_with fail
  go_ret
  exact ⟨by rw [HB.out]; rfl, by (repeat (first | with_reducible exact Below.refl _ _ | with_reducible assumption | with_reducible refine below_drewN ?_ _ | with_reducible refine Below.drew ?_ | with_reducible refine below_row ?_ (by first | omega | (simp; done) | (simp; omega)) _ | with_reducible refine Below.alloc ?_ (by first | omega | (simp; done) | (simp; omega)) _ | with_reducible refine Below.setCell ?_ (by first | omega | (simp; done) | (simp; omega)) _))⟩

end Go.Proofs.YtfaangichifbgaaDoor
