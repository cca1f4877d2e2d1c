/- msgp.AppendUint64, msgp.AppendInt64. -/
import Derived.Test.YtcbplfpobpienaaEnsure
namespace Go.Proofs.Ytcbplfpobpienaa
open Go.RowKit
set_option linter.unusedVariables false

theorem u8_and127 (x : Int) (h0 : 0 ≤ x) (h1 : x < 128) : bits .and .u8 x 127 = x := by
  rw [u8_and x 127 h0 (by omega) (by omega) (by omega)]
  have := nat_mask7 x.toNat
  simp only [show (127 : Int).toNat = 127 from rfl, this]
  omega

set_option maxHeartbeats 1000000 in
theorem appendUint64_1 (u : Int) (h0 : 0 ≤ u) (h1 : u < 128) (B : Nat) (a : Option Addr) (n c : Nat) (l : List Int) (w : World) (hv : O8 w B a n c l) (hB : B ≤ w.heap.size) (hn : n ≤ 1099511627776) :
    Calls Try.prog 37 #[.slice a n c, .int .u64 u] w fun e w' => ∃ a' c', e = .returned (.slice a' (n + 1) c') ∧ O8 w' B a' (n + 1) c' (l ++ [u]) ∧ Below B w w' := by
  have hl := Own.lit 5 w [u] (by simp; omega) (by simp)
  have hand := u8_and127 u h0 h1
  go_enter Try.func37, Try.ntmps37
  go_wp2_with (first | (at_builtin; refine app8 (by rfl) _ _ (by rfl) B _ n c l (by rfl) (hv.alloc _) _ 1 1 [u] (by rfl) hl.vw (by omega) (by simp <;> omega) ?_; intro a' c' w1 ho hg) | go_in)
  go_wp2_with fail
  go_ret
  refine ⟨a', c', rfl, ho, ?_⟩
  exact Below.trans (b := w.alloc _) ((Below.refl _ _).alloc hB _) (below_of_grown hg (by simp <;> omega) hv.ge)

theorem u8_or224 (x : Int) (h0 : -32 ≤ x) (h1 : x < 0) : bits .or .u8 (x % 256) 224 = x + 256 := by
  rw [u8_or (x % 256) 224 (by omega) (by omega) (by omega) (by omega)]
  have e : (x % 256).toNat = (x + 32).toNat + 224 := by omega
  have e2 : ((x + 32).toNat + 224) = 224 ||| (x + 32).toNat := by
    rw [nat_join 5 224 (x + 32).toNat (by decide) (by omega)]; omega
  rw [e, e2, show (224 : Int).toNat = 224 from rfl, Nat.or_comm 224, Nat.or_assoc, Nat.or_self, Nat.or_comm, nat_join 5 224 (x + 32).toNat (by decide) (by omega)]
  omega

set_option maxHeartbeats 1000000 in
theorem appendInt64_1 (u : Int) (h0 : 0 ≤ u) (h1 : u < 128) (B : Nat) (a : Option Addr) (n c : Nat) (l : List Int) (w : World) (hv : O8 w B a n c l) (hB : B ≤ w.heap.size) (hn : n ≤ 1099511627776) :
    Calls Try.prog 38 #[.slice a n c, .int .i64 u] w fun e w' => ∃ a' c', e = .returned (.slice a' (n + 1) c') ∧ O8 w' B a' (n + 1) c' (l ++ [u]) ∧ Below B w w' := by
  have hl := Own.lit 5 w [u] (by simp; omega) (by simp)
  have hand := u8_and127 u h0 h1
  go_enter Try.func38, Try.ntmps38
  go_wp2_with (first | (at_builtin; refine app8 (by rfl) _ _ (by rfl) B _ n c l (by rfl) (hv.alloc _) _ 1 1 [u] (by rfl) hl.vw (by omega) (by simp <;> omega) ?_; intro a' c' w1 ho hg) | go_in)
  go_wp2_with fail
  go_ret
  refine ⟨a', c', rfl, ho, ?_⟩
  exact Below.trans (b := w.alloc _) ((Below.refl _ _).alloc hB _) (below_of_grown hg (by simp <;> omega) hv.ge)

set_option maxHeartbeats 1000000 in
theorem appendInt64_1n (u : Int) (h0 : -32 ≤ u) (h1 : u < 0) (B : Nat) (a : Option Addr) (n c : Nat) (l : List Int) (w : World) (hv : O8 w B a n c l) (hB : B ≤ w.heap.size) (hn : n ≤ 1099511627776) :
    Calls Try.prog 38 #[.slice a n c, .int .i64 u] w fun e w' => ∃ a' c', e = .returned (.slice a' (n + 1) c') ∧ O8 w' B a' (n + 1) c' (l ++ [u + 256]) ∧ Below B w w' := by
  have hl := Own.lit 5 w [u + 256] (by simp; omega) (by simp)
  have hor := u8_or224 u h0 h1
  go_enter Try.func38, Try.ntmps38
  go_wp2_with (first | (at_builtin; refine app8 (by rfl) _ _ (by rfl) B _ n c l (by rfl) (hv.alloc _) _ 1 1 [u + 256] (by rfl) hl.vw (by omega) (by simp <;> omega) ?_; intro a' c' w1 ho hg) | go_in)
  go_wp2_with fail
  go_ret
  refine ⟨a', c', rfl, ho, ?_⟩
  exact Below.trans (b := w.alloc _) ((Below.refl _ _).alloc hB _) (below_of_grown hg (by simp <;> omega) hv.ge)

set_option maxHeartbeats 1000000 in
theorem appendUint64_2 (u : Int) (h0 : 128 ≤ u) (h1 : u < 256) (B : Nat) (a : Option Addr) (n c : Nat) (l : List Int) (w : World) (hv : O8 w B a n c l) (hB : B ≤ w.heap.size) (hn : n ≤ 1099511627776) :
    Calls Try.prog 37 #[.slice a n c, .int .u64 u] w fun e w' => ∃ a' c', e = .returned (.slice a' (n + 2) c') ∧ O8 w' B a' (n + 2) c' (l ++ [204, u]) ∧ Below B w w' := by
  have hl := hv.vw.len
  go_enter Try.func37, Try.ntmps37
  go_wp2_with (go_at_call 35; refine (ensure_any B _ _ _ l 2 2 rfl _ hv hB hn (by omega) (by omega)).mono ?_; rintro e w1 ⟨g, c1, rfl, hg, hr, hb1⟩; obtain ⟨cur, hblk, hcs, hfit, hcb⟩ := hr.blk; have hne : ¬ c1 = n := by omega)
  refine (putMuint8_t g n 2 (c1 - n) _ w1 (by omega) (by omega) cur hblk (by omega) (by omega)).mono ?_
  rintro e w2 ⟨rfl, rfl⟩
  go_wp2_with fail
  go_ret
  have ho := room_own hr B hg [204, u] rfl (by simp; omega)
  rw [hl] at ho
  exact ⟨_, _, rfl, ho, hb1.trans (puts_below hg _ _ _)⟩

set_option maxHeartbeats 1000000 in
theorem appendUint64_3 (u : Int) (h0 : 256 ≤ u) (h1 : u < 65536) (B : Nat) (a : Option Addr) (n c : Nat) (l : List Int) (w : World) (hv : O8 w B a n c l) (hB : B ≤ w.heap.size) (hn : n ≤ 1099511627776) :
    Calls Try.prog 37 #[.slice a n c, .int .u64 u] w fun e w' => ∃ a' c', e = .returned (.slice a' (n + 3) c') ∧ O8 w' B a' (n + 3) c' (l ++ [205, u / 256, u % 256]) ∧ Below B w w' := by
  have hl := hv.vw.len
  go_enter Try.func37, Try.ntmps37
  go_wp2_with (go_at_call 35; refine (ensure_any B _ _ _ l 3 3 rfl _ hv hB hn (by omega) (by omega)).mono ?_; rintro e w1 ⟨g, c1, rfl, hg, hr, hb1⟩; obtain ⟨cur, hblk, hcs, hfit, hcb⟩ := hr.blk; have hne : ¬ c1 = n := by omega)
  refine (putMuint16_t g n 3 (c1 - n) _ w1 (by omega) (by omega) cur hblk (by omega) (by omega)).mono ?_
  rintro e w2 ⟨rfl, rfl⟩
  go_wp2_with fail
  go_ret
  have ho := room_own hr B hg [205, u / 256, u % 256] rfl (by simp; omega)
  rw [hl] at ho
  exact ⟨_, _, rfl, ho, hb1.trans (puts_below hg _ _ _)⟩

set_option maxHeartbeats 1000000 in
theorem appendUint64_5 (u : Int) (h0 : 65536 ≤ u) (h1 : u < 4294967296) (B : Nat) (a : Option Addr) (n c : Nat) (l : List Int) (w : World) (hv : O8 w B a n c l) (hB : B ≤ w.heap.size) (hn : n ≤ 1099511627776) :
    Calls Try.prog 37 #[.slice a n c, .int .u64 u] w fun e w' => ∃ a' c', e = .returned (.slice a' (n + 5) c') ∧ O8 w' B a' (n + 5) c' (l ++ [206, u / 16777216, u / 65536 % 256, u / 256 % 256, u % 256]) ∧ Below B w w' := by
  have hl := hv.vw.len
  go_enter Try.func37, Try.ntmps37
  go_wp2_with (go_at_call 35; refine (ensure_any B _ _ _ l 5 5 rfl _ hv hB hn (by omega) (by omega)).mono ?_; rintro e w1 ⟨g, c1, rfl, hg, hr, hb1⟩; obtain ⟨cur, hblk, hcs, hfit, hcb⟩ := hr.blk; have hne : ¬ c1 = n := by omega)
  refine (putMuint32_t g n 5 (c1 - n) _ w1 (by omega) (by omega) cur hblk (by omega) (by omega)).mono ?_
  rintro e w2 ⟨rfl, rfl⟩
  go_wp2_with fail
  go_ret
  have ho := room_own hr B hg [206, u / 16777216, u / 65536 % 256, u / 256 % 256, u % 256] rfl (by simp; omega)
  rw [hl] at ho
  exact ⟨_, _, rfl, ho, hb1.trans (puts_below hg _ _ _)⟩

set_option maxHeartbeats 1000000 in
theorem appendUint64_9 (u : Int) (h0 : 4294967296 ≤ u) (h1 : u < 18446744073709551616) (B : Nat) (a : Option Addr) (n c : Nat) (l : List Int) (w : World) (hv : O8 w B a n c l) (hB : B ≤ w.heap.size) (hn : n ≤ 1099511627776) :
    Calls Try.prog 37 #[.slice a n c, .int .u64 u] w fun e w' => ∃ a' c', e = .returned (.slice a' (n + 9) c') ∧ O8 w' B a' (n + 9) c' (l ++ [207, u / 72057594037927936, u / 281474976710656 % 256, u / 1099511627776 % 256, u / 4294967296 % 256, u / 16777216 % 256, u / 65536 % 256, u / 256 % 256, u % 256]) ∧ Below B w w' := by
  have hl := hv.vw.len
  go_enter Try.func37, Try.ntmps37
  go_wp2_with (go_at_call 35; refine (ensure_any B _ _ _ l 9 9 rfl _ hv hB hn (by omega) (by omega)).mono ?_; rintro e w1 ⟨g, c1, rfl, hg, hr, hb1⟩; obtain ⟨cur, hblk, hcs, hfit, hcb⟩ := hr.blk; have hne : ¬ c1 = n := by omega)
  refine (putMuint64_t g n 9 (c1 - n) _ w1 (by omega) (by omega) cur hblk (by omega) (by omega)).mono ?_
  rintro e w2 ⟨rfl, rfl⟩
  go_wp2_with fail
  go_ret
  have ho := room_own hr B hg [207, u / 72057594037927936, u / 281474976710656 % 256, u / 1099511627776 % 256, u / 4294967296 % 256, u / 16777216 % 256, u / 65536 % 256, u / 256 % 256, u % 256] rfl (by simp; omega)
  rw [hl] at ho
  exact ⟨_, _, rfl, ho, hb1.trans (puts_below hg _ _ _)⟩

set_option maxHeartbeats 1000000 in
theorem appendInt64_3 (u : Int) (h0 : 128 ≤ u) (h1 : u < 32768) (B : Nat) (a : Option Addr) (n c : Nat) (l : List Int) (w : World) (hv : O8 w B a n c l) (hB : B ≤ w.heap.size) (hn : n ≤ 1099511627776) :
    Calls Try.prog 38 #[.slice a n c, .int .i64 u] w fun e w' => ∃ a' c', e = .returned (.slice a' (n + 3) c') ∧ O8 w' B a' (n + 3) c' (l ++ [209, u / 256 % 256, u % 256]) ∧ Below B w w' := by
  have hl := hv.vw.len
  go_enter Try.func38, Try.ntmps38
  go_wp2_with (go_at_call 35; refine (ensure_any B _ _ _ l 3 3 rfl _ hv hB hn (by omega) (by omega)).mono ?_; rintro e w1 ⟨g, c1, rfl, hg, hr, hb1⟩; obtain ⟨cur, hblk, hcs, hfit, hcb⟩ := hr.blk; have hne : ¬ c1 = n := by omega)
  refine (putMint16_t g n 3 (c1 - n) _ w1 (by omega) (by omega) cur hblk (by omega) (by omega)).mono ?_
  rintro e w2 ⟨rfl, rfl⟩
  go_wp2_with fail
  go_ret
  have ho := room_own hr B hg [209, u / 256 % 256, u % 256] rfl (by simp; omega)
  rw [hl] at ho
  exact ⟨_, _, rfl, ho, hb1.trans (puts_below hg _ _ _)⟩

set_option maxHeartbeats 1000000 in
theorem appendInt64_5 (u : Int) (h0 : 32768 ≤ u) (h1 : u < 2147483648) (B : Nat) (a : Option Addr) (n c : Nat) (l : List Int) (w : World) (hv : O8 w B a n c l) (hB : B ≤ w.heap.size) (hn : n ≤ 1099511627776) :
    Calls Try.prog 38 #[.slice a n c, .int .i64 u] w fun e w' => ∃ a' c', e = .returned (.slice a' (n + 5) c') ∧ O8 w' B a' (n + 5) c' (l ++ [210, u / 16777216 % 256, u / 65536 % 256, u / 256 % 256, u % 256]) ∧ Below B w w' := by
  have hl := hv.vw.len
  go_enter Try.func38, Try.ntmps38
  go_wp2_with (go_at_call 35; refine (ensure_any B _ _ _ l 5 5 rfl _ hv hB hn (by omega) (by omega)).mono ?_; rintro e w1 ⟨g, c1, rfl, hg, hr, hb1⟩; obtain ⟨cur, hblk, hcs, hfit, hcb⟩ := hr.blk; have hne : ¬ c1 = n := by omega)
  refine (putMint32_t g n 5 (c1 - n) _ w1 (by omega) (by omega) cur hblk (by omega) (by omega)).mono ?_
  rintro e w2 ⟨rfl, rfl⟩
  go_wp2_with fail
  go_ret
  have ho := room_own hr B hg [210, u / 16777216 % 256, u / 65536 % 256, u / 256 % 256, u % 256] rfl (by simp; omega)
  rw [hl] at ho
  exact ⟨_, _, rfl, ho, hb1.trans (puts_below hg _ _ _)⟩

set_option maxHeartbeats 1000000 in
theorem appendInt64_9 (u : Int) (h0 : 2147483648 ≤ u) (h1 : u < 9223372036854775808) (B : Nat) (a : Option Addr) (n c : Nat) (l : List Int) (w : World) (hv : O8 w B a n c l) (hB : B ≤ w.heap.size) (hn : n ≤ 1099511627776) :
    Calls Try.prog 38 #[.slice a n c, .int .i64 u] w fun e w' => ∃ a' c', e = .returned (.slice a' (n + 9) c') ∧ O8 w' B a' (n + 9) c' (l ++ [211, u / 72057594037927936 % 256, u / 281474976710656 % 256, u / 1099511627776 % 256, u / 4294967296 % 256, u / 16777216 % 256, u / 65536 % 256, u / 256 % 256, u % 256]) ∧ Below B w w' := by
  have hl := hv.vw.len
  go_enter Try.func38, Try.ntmps38
  go_wp2_with (go_at_call 35; refine (ensure_any B _ _ _ l 9 9 rfl _ hv hB hn (by omega) (by omega)).mono ?_; rintro e w1 ⟨g, c1, rfl, hg, hr, hb1⟩; obtain ⟨cur, hblk, hcs, hfit, hcb⟩ := hr.blk; have hne : ¬ c1 = n := by omega)
  refine (putMint64_t g n 9 (c1 - n) _ w1 (by omega) (by omega) cur hblk (by omega) (by omega)).mono ?_
  rintro e w2 ⟨rfl, rfl⟩
  go_wp2_with fail
  go_ret
  have ho := room_own hr B hg [211, u / 72057594037927936 % 256, u / 281474976710656 % 256, u / 1099511627776 % 256, u / 4294967296 % 256, u / 16777216 % 256, u / 65536 % 256, u / 256 % 256, u % 256] rfl (by simp; omega)
  rw [hl] at ho
  exact ⟨_, _, rfl, ho, hb1.trans (puts_below hg _ _ _)⟩

set_option maxHeartbeats 1000000 in
theorem appendInt64_2n (u : Int) (h0 : -128 ≤ u) (h1 : u < -32) (B : Nat) (a : Option Addr) (n c : Nat) (l : List Int) (w : World) (hv : O8 w B a n c l) (hB : B ≤ w.heap.size) (hn : n ≤ 1099511627776) :
    Calls Try.prog 38 #[.slice a n c, .int .i64 u] w fun e w' => ∃ a' c', e = .returned (.slice a' (n + 2) c') ∧ O8 w' B a' (n + 2) c' (l ++ [208, u % 256]) ∧ Below B w w' := by
  have hl := hv.vw.len
  go_enter Try.func38, Try.ntmps38
  go_wp2_with (go_at_call 35; refine (ensure_any B _ _ _ l 2 2 rfl _ hv hB hn (by omega) (by omega)).mono ?_; rintro e w1 ⟨g, c1, rfl, hg, hr, hb1⟩; obtain ⟨cur, hblk, hcs, hfit, hcb⟩ := hr.blk; have hne : ¬ c1 = n := by omega)
  refine (putMint8_t g n 2 (c1 - n) _ w1 (by omega) (by omega) cur hblk (by omega) (by omega)).mono ?_
  rintro e w2 ⟨rfl, rfl⟩
  go_wp2_with fail
  go_ret
  have ho := room_own hr B hg [208, u % 256] rfl (by simp; omega)
  rw [hl] at ho
  exact ⟨_, _, rfl, ho, hb1.trans (puts_below hg _ _ _)⟩

set_option maxHeartbeats 1000000 in
theorem appendInt64_3n (u : Int) (h0 : -32768 ≤ u) (h1 : u < -128) (B : Nat) (a : Option Addr) (n c : Nat) (l : List Int) (w : World) (hv : O8 w B a n c l) (hB : B ≤ w.heap.size) (hn : n ≤ 1099511627776) :
    Calls Try.prog 38 #[.slice a n c, .int .i64 u] w fun e w' => ∃ a' c', e = .returned (.slice a' (n + 3) c') ∧ O8 w' B a' (n + 3) c' (l ++ [209, u / 256 % 256, u % 256]) ∧ Below B w w' := by
  have hl := hv.vw.len
  go_enter Try.func38, Try.ntmps38
  go_wp2_with (go_at_call 35; refine (ensure_any B _ _ _ l 3 3 rfl _ hv hB hn (by omega) (by omega)).mono ?_; rintro e w1 ⟨g, c1, rfl, hg, hr, hb1⟩; obtain ⟨cur, hblk, hcs, hfit, hcb⟩ := hr.blk; have hne : ¬ c1 = n := by omega)
  refine (putMint16_t g n 3 (c1 - n) _ w1 (by omega) (by omega) cur hblk (by omega) (by omega)).mono ?_
  rintro e w2 ⟨rfl, rfl⟩
  go_wp2_with fail
  go_ret
  have ho := room_own hr B hg [209, u / 256 % 256, u % 256] rfl (by simp; omega)
  rw [hl] at ho
  exact ⟨_, _, rfl, ho, hb1.trans (puts_below hg _ _ _)⟩

set_option maxHeartbeats 1000000 in
theorem appendInt64_5n (u : Int) (h0 : -2147483648 ≤ u) (h1 : u < -32768) (B : Nat) (a : Option Addr) (n c : Nat) (l : List Int) (w : World) (hv : O8 w B a n c l) (hB : B ≤ w.heap.size) (hn : n ≤ 1099511627776) :
    Calls Try.prog 38 #[.slice a n c, .int .i64 u] w fun e w' => ∃ a' c', e = .returned (.slice a' (n + 5) c') ∧ O8 w' B a' (n + 5) c' (l ++ [210, u / 16777216 % 256, u / 65536 % 256, u / 256 % 256, u % 256]) ∧ Below B w w' := by
  have hl := hv.vw.len
  go_enter Try.func38, Try.ntmps38
  go_wp2_with (go_at_call 35; refine (ensure_any B _ _ _ l 5 5 rfl _ hv hB hn (by omega) (by omega)).mono ?_; rintro e w1 ⟨g, c1, rfl, hg, hr, hb1⟩; obtain ⟨cur, hblk, hcs, hfit, hcb⟩ := hr.blk; have hne : ¬ c1 = n := by omega)
  refine (putMint32_t g n 5 (c1 - n) _ w1 (by omega) (by omega) cur hblk (by omega) (by omega)).mono ?_
  rintro e w2 ⟨rfl, rfl⟩
  go_wp2_with fail
  go_ret
  have ho := room_own hr B hg [210, u / 16777216 % 256, u / 65536 % 256, u / 256 % 256, u % 256] rfl (by simp; omega)
  rw [hl] at ho
  exact ⟨_, _, rfl, ho, hb1.trans (puts_below hg _ _ _)⟩

set_option maxHeartbeats 1000000 in
theorem appendInt64_9n (u : Int) (h0 : -9223372036854775808 ≤ u) (h1 : u < -2147483648) (B : Nat) (a : Option Addr) (n c : Nat) (l : List Int) (w : World) (hv : O8 w B a n c l) (hB : B ≤ w.heap.size) (hn : n ≤ 1099511627776) :
    Calls Try.prog 38 #[.slice a n c, .int .i64 u] w fun e w' => ∃ a' c', e = .returned (.slice a' (n + 9) c') ∧ O8 w' B a' (n + 9) c' (l ++ [211, u / 72057594037927936 % 256, u / 281474976710656 % 256, u / 1099511627776 % 256, u / 4294967296 % 256, u / 16777216 % 256, u / 65536 % 256, u / 256 % 256, u % 256]) ∧ Below B w w' := by
  have hl := hv.vw.len
  go_enter Try.func38, Try.ntmps38
  go_wp2_with (go_at_call 35; refine (ensure_any B _ _ _ l 9 9 rfl _ hv hB hn (by omega) (by omega)).mono ?_; rintro e w1 ⟨g, c1, rfl, hg, hr, hb1⟩; obtain ⟨cur, hblk, hcs, hfit, hcb⟩ := hr.blk; have hne : ¬ c1 = n := by omega)
  refine (putMint64_t g n 9 (c1 - n) _ w1 (by omega) (by omega) cur hblk (by omega) (by omega)).mono ?_
  rintro e w2 ⟨rfl, rfl⟩
  go_wp2_with fail
  go_ret
  have ho := room_own hr B hg [211, u / 72057594037927936 % 256, u / 281474976710656 % 256, u / 1099511627776 % 256, u / 4294967296 % 256, u / 16777216 % 256, u / 65536 % 256, u / 256 % 256, u % 256] rfl (by simp; omega)
  rw [hl] at ho
  exact ⟨_, _, rfl, ho, hb1.trans (puts_below hg _ _ _)⟩
end Go.Proofs.Ytcbplfpobpienaa
