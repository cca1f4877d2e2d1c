/- msgp.AppendUint64, msgp.AppendInt64: no block but the row's own is touched. -/
import Derived.Test.YtbngkfdfjpbajaaEnsure
namespace Go.Proofs.Ytbngkfdfjpbajaa
open Go.RowKit
set_option linter.unusedVariables false

/-- No block that was there is touched but the row's own. -/
def Oth (a : Option Addr) (w w' : World) : Prop := ∀ k, k < w.heap.size → (∀ x, a = some x → x.block ≠ k) → w'.heap[k]? = w.heap[k]?
theorem puts_oth {g k : Nat} (hk : g ≠ k) : ∀ (l : List Int) (w : World) (off : Nat), (puts w g off l).heap[k]? = w.heap[k]?
  | [], _, _ => rfl
  | x :: r, w, off => by
    unfold puts
    rw [puts_oth hk r]
    exact Below.heap_setCell _ _ _ _ (fun e => hk e.symm)
theorem Oth.puts {a : Option Addr} {w w' : World} {g : Nat} (h : Oth a w w') (hg : w.heap.size ≤ g ∨ a = some ⟨g, 0, none⟩) (_hs : w.heap.size ≤ w'.heap.size) (off : Nat) (l : List Int) : Oth a w (puts w' g off l) := fun k hk ha => by
  rw [puts_oth (fun e => ?_)]
  · exact h k hk ha
  · subst e
    rcases hg with h1 | h1
    · omega
    · exact ha _ h1 rfl
theorem Oth.grown {a : Option Addr} {n c : Nat} {w w' : World} {o : Obj} (hg : (w.alloc o).grownBy w' (Value.ownBlock (.slice a n c))) : Oth a w w' := fun k hk ha => by
  rw [hg.block k (by simp; omega) (fun e => ?_)]
  · exact (World.grownBy_alloc w o none).block k hk (by simp)
  · cases a with
    | none => cases e
    | some x => exact ha x rfl (by injection e with e; exact e.symm)

set_option maxHeartbeats 1000000 in
theorem ensureO_any (B : Nat) (a : Option Addr) (n c : Nat) (l : List Int) (m : Nat) (i : Int) (hi : i = m) (w : World) (hv : O8 w B a n c l) (hB : B ≤ w.heap.size) (hn : n ≤ 1099511627776) (hm : 1 ≤ m) (hm2 : m ≤ 1099511627776) :
    Calls Try.prog 31 #[.slice a n c, .int .i64 i] w fun e w' => ∃ g c', e = .returned (.tuple #[.slice (some ⟨g, 0, none⟩) (n + m) c', .int .i64 n]) ∧ B ≤ g ∧ Room w' g c' l m ∧ Below B w w' ∧ Oth a w w' ∧ (w.heap.size ≤ g ∨ a = some ⟨g, 0, none⟩) := by
  subst hi
  have hcn := hv.vw.cap
  have hcb := hv.vw.big
  have hl := hv.vw.len
  by_cases hroom : c < n + m
  · have h1 : ((c : Int) - n < m) := by omega
    have hmk := make8 w (2 * c + m) (2 * (c : Int) + (m : Int)) (by omega) (by omega)
    have hmin : Nat.min n (2 * c + m) = n := Nat.min_eq_left (by omega)
    have hle : n + m ≤ 2 * c + m := by omega
    have hbl : (bytesV l).length = n := by simp [bytesV, hl]
    go_enter Try.func31, Try.ntmps31
    go_wp2_with (refine wpList_copy_splice (by rfl) (.tmp 24) (.tmp 25) 22 22 (by rfl) 5 Try.underlying22 one8 _ _ _ _ _ _ (by rfl) (by rfl) w.heap.size 0 (zrow (2 * c + m)).toList 5 (show _ = _ from Blk.new w 5 _) (bytesV l) (by simp [bytesV, hl]; omega) (fun h0 => ⟨rfl, (hv.vw.alloc _).src h0⟩) (by simp [bytesV, hl, zrow_size]; omega) (by simp [bytesV, Value.oneCell']) w.heap.size w ((Below.refl _ _).alloc (Nat.le_refl _) _) (Nat.le_refl _) ?_; intro w1 hh hb1)
    go_ret2
    refine ⟨w.heap.size, 2 * c + m, rfl, hB, ⟨_, hh.out, ?_, by omega, by omega, ?_, hv.vw.byt⟩, hb1.mono hB, fun k hk _ => hb1.block k hk, .inl (Nat.le_refl _)⟩
    · simp only [List.size_toArray]
      rw [length_splice _ _ _ (by simp [bytesV, hl, zrow_size]; omega)]
      simp [zrow_size]
    · simp only [splice, List.take_zero, List.nil_append]
      rw [← show (bytesV l).length = l.length by simp [bytesV]]
      simp
  · have h1 : ¬ ((c : Int) - n < m) := by omega
    rcases hv.row with ⟨rfl, rfl, rfl⟩ | ⟨g, cur, rfl, hg, hb, hc⟩
    · omega
    · have h2 : n + m ≤ c := by omega
      have ht := hv.owns
      go_enter Try.func31, Try.ntmps31
      go_wp2_with fail
      go_ret2
      refine ⟨g, c, rfl, hg, ⟨cur, hb, hc, by omega, hcb, ?_, hv.vw.byt⟩, Below.refl _ _, fun _ _ _ => rfl, .inr rfl⟩
      rcases ht.2 with ⟨h3, _⟩ | ⟨g', cap, cur', h3, _, hh, _, _, _, htk⟩
      · cases h3
      · injection h3 with h4 h5 h6
        injection h4 with h4; injection h4 with h4
        subst h4
        have : cur' = cur := by have e := hb; unfold Blk at e; rw [hh] at e; injection e with e; injection e with e
        subst this
        rw [hl]; simpa using htk


theorem u8_and127 (x : Int) (h0 : 0 ≤ x) (h1 : x < 128) : bits .and .u8 x 127 = x := by
  rw [u8_and x 127 h0 (by omega) (by omega) (by omega)]
  have := nat_mask7 x.toNat
  simp only [show (127 : Int).toNat = 127 from rfl, this]
  omega

set_option maxHeartbeats 1000000 in
theorem appOUint64_1 (u : Int) (h0 : 0 ≤ u) (h1 : u < 128) (B : Nat) (a : Option Addr) (n c : Nat) (l : List Int) (w : World) (hv : O8 w B a n c l) (hB : B ≤ w.heap.size) (hn : n ≤ 1099511627776) :
    Calls Try.prog 36 #[.slice a n c, .int .u64 u] w fun e w' => ∃ a' c', e = .returned (.slice a' (n + 1) c') ∧ O8 w' B a' (n + 1) c' (l ++ [u]) ∧ Below B w w' ∧ Oth a w w' := by
  have hl := Own.lit 5 w [u] (by simp; omega) (by simp)
  have hand := u8_and127 u h0 h1
  go_enter Try.func36, Try.ntmps36
  go_wp2_with (first | (at_builtin; refine app8 (by rfl) _ _ (by rfl) B _ n c l (by rfl) (hv.alloc _) _ 1 1 [u] (by rfl) hl.vw (by omega) (by simp <;> omega) ?_; intro a' c' w1 ho hg) | go_in)
  go_wp2_with fail
  go_ret
  refine ⟨a', c', rfl, ho, ?_⟩
  exact ⟨Below.trans (b := w.alloc _) ((Below.refl _ _).alloc hB _) (below_of_grown hg (by simp <;> omega) hv.ge), Oth.grown hg⟩

theorem u8_or224 (x : Int) (h0 : -32 ≤ x) (h1 : x < 0) : bits .or .u8 (x % 256) 224 = x + 256 := by
  rw [u8_or (x % 256) 224 (by omega) (by omega) (by omega) (by omega)]
  have e : (x % 256).toNat = (x + 32).toNat + 224 := by omega
  have e2 : ((x + 32).toNat + 224) = 224 ||| (x + 32).toNat := by
    rw [nat_join 5 224 (x + 32).toNat (by decide) (by omega)]; omega
  rw [e, e2, show (224 : Int).toNat = 224 from rfl, Nat.or_comm 224, Nat.or_assoc, Nat.or_self, Nat.or_comm, nat_join 5 224 (x + 32).toNat (by decide) (by omega)]
  omega

set_option maxHeartbeats 1000000 in
theorem appOInt64_1 (u : Int) (h0 : 0 ≤ u) (h1 : u < 128) (B : Nat) (a : Option Addr) (n c : Nat) (l : List Int) (w : World) (hv : O8 w B a n c l) (hB : B ≤ w.heap.size) (hn : n ≤ 1099511627776) :
    Calls Try.prog 40 #[.slice a n c, .int .i64 u] w fun e w' => ∃ a' c', e = .returned (.slice a' (n + 1) c') ∧ O8 w' B a' (n + 1) c' (l ++ [u]) ∧ Below B w w' ∧ Oth a w w' := by
  have hl := Own.lit 5 w [u] (by simp; omega) (by simp)
  have hand := u8_and127 u h0 h1
  go_enter Try.func40, Try.ntmps40
  go_wp2_with (first | (at_builtin; refine app8 (by rfl) _ _ (by rfl) B _ n c l (by rfl) (hv.alloc _) _ 1 1 [u] (by rfl) hl.vw (by omega) (by simp <;> omega) ?_; intro a' c' w1 ho hg) | go_in)
  go_wp2_with fail
  go_ret
  refine ⟨a', c', rfl, ho, ?_⟩
  exact ⟨Below.trans (b := w.alloc _) ((Below.refl _ _).alloc hB _) (below_of_grown hg (by simp <;> omega) hv.ge), Oth.grown hg⟩

set_option maxHeartbeats 1000000 in
theorem appOInt64_1n (u : Int) (h0 : -32 ≤ u) (h1 : u < 0) (B : Nat) (a : Option Addr) (n c : Nat) (l : List Int) (w : World) (hv : O8 w B a n c l) (hB : B ≤ w.heap.size) (hn : n ≤ 1099511627776) :
    Calls Try.prog 40 #[.slice a n c, .int .i64 u] w fun e w' => ∃ a' c', e = .returned (.slice a' (n + 1) c') ∧ O8 w' B a' (n + 1) c' (l ++ [u + 256]) ∧ Below B w w' ∧ Oth a w w' := by
  have hl := Own.lit 5 w [u + 256] (by simp; omega) (by simp)
  have hor := u8_or224 u h0 h1
  go_enter Try.func40, Try.ntmps40
  go_wp2_with (first | (at_builtin; refine app8 (by rfl) _ _ (by rfl) B _ n c l (by rfl) (hv.alloc _) _ 1 1 [u + 256] (by rfl) hl.vw (by omega) (by simp <;> omega) ?_; intro a' c' w1 ho hg) | go_in)
  go_wp2_with fail
  go_ret
  refine ⟨a', c', rfl, ho, ?_⟩
  exact ⟨Below.trans (b := w.alloc _) ((Below.refl _ _).alloc hB _) (below_of_grown hg (by simp <;> omega) hv.ge), Oth.grown hg⟩

set_option maxHeartbeats 1000000 in
theorem appOUint64_2 (u : Int) (h0 : 128 ≤ u) (h1 : u < 256) (B : Nat) (a : Option Addr) (n c : Nat) (l : List Int) (w : World) (hv : O8 w B a n c l) (hB : B ≤ w.heap.size) (hn : n ≤ 1099511627776) :
    Calls Try.prog 36 #[.slice a n c, .int .u64 u] w fun e w' => ∃ a' c', e = .returned (.slice a' (n + 2) c') ∧ O8 w' B a' (n + 2) c' (l ++ [204, u]) ∧ Below B w w' ∧ Oth a w w' := by
  have hl := hv.vw.len
  go_enter Try.func36, Try.ntmps36
  go_wp2_with (go_at_call 31; refine (ensureO_any B _ _ _ l 2 2 rfl _ hv hB hn (by omega) (by omega)).mono ?_; rintro e w1 ⟨g, c1, rfl, hg, hr, hb1, hot, hgo⟩; obtain ⟨cur, hblk, hcs, hfit, hcb⟩ := hr.blk; have hne : ¬ c1 = n := by omega)
  refine (putMuint8_t g n 2 (c1 - n) _ w1 (by omega) (by omega) cur hblk (by omega) (by omega)).mono ?_
  rintro e w2 ⟨rfl, rfl⟩
  go_wp2_with fail
  go_ret
  have ho := room_own hr B hg [204, u] rfl (by simp; omega)
  rw [hl] at ho
  exact ⟨_, _, rfl, ho, hb1.trans (puts_below hg _ _ _), hot.puts hgo hb1.size _ _⟩

set_option maxHeartbeats 1000000 in
theorem appOUint64_3 (u : Int) (h0 : 256 ≤ u) (h1 : u < 65536) (B : Nat) (a : Option Addr) (n c : Nat) (l : List Int) (w : World) (hv : O8 w B a n c l) (hB : B ≤ w.heap.size) (hn : n ≤ 1099511627776) :
    Calls Try.prog 36 #[.slice a n c, .int .u64 u] w fun e w' => ∃ a' c', e = .returned (.slice a' (n + 3) c') ∧ O8 w' B a' (n + 3) c' (l ++ [205, u / 256, u % 256]) ∧ Below B w w' ∧ Oth a w w' := by
  have hl := hv.vw.len
  go_enter Try.func36, Try.ntmps36
  go_wp2_with (go_at_call 31; refine (ensureO_any B _ _ _ l 3 3 rfl _ hv hB hn (by omega) (by omega)).mono ?_; rintro e w1 ⟨g, c1, rfl, hg, hr, hb1, hot, hgo⟩; obtain ⟨cur, hblk, hcs, hfit, hcb⟩ := hr.blk; have hne : ¬ c1 = n := by omega)
  refine (putMuint16_t g n 3 (c1 - n) _ w1 (by omega) (by omega) cur hblk (by omega) (by omega)).mono ?_
  rintro e w2 ⟨rfl, rfl⟩
  go_wp2_with fail
  go_ret
  have ho := room_own hr B hg [205, u / 256, u % 256] rfl (by simp; omega)
  rw [hl] at ho
  exact ⟨_, _, rfl, ho, hb1.trans (puts_below hg _ _ _), hot.puts hgo hb1.size _ _⟩

set_option maxHeartbeats 1000000 in
theorem appOUint64_5 (u : Int) (h0 : 65536 ≤ u) (h1 : u < 4294967296) (B : Nat) (a : Option Addr) (n c : Nat) (l : List Int) (w : World) (hv : O8 w B a n c l) (hB : B ≤ w.heap.size) (hn : n ≤ 1099511627776) :
    Calls Try.prog 36 #[.slice a n c, .int .u64 u] w fun e w' => ∃ a' c', e = .returned (.slice a' (n + 5) c') ∧ O8 w' B a' (n + 5) c' (l ++ [206, u / 16777216, u / 65536 % 256, u / 256 % 256, u % 256]) ∧ Below B w w' ∧ Oth a w w' := by
  have hl := hv.vw.len
  go_enter Try.func36, Try.ntmps36
  go_wp2_with (go_at_call 31; refine (ensureO_any B _ _ _ l 5 5 rfl _ hv hB hn (by omega) (by omega)).mono ?_; rintro e w1 ⟨g, c1, rfl, hg, hr, hb1, hot, hgo⟩; obtain ⟨cur, hblk, hcs, hfit, hcb⟩ := hr.blk; have hne : ¬ c1 = n := by omega)
  refine (putMuint32_t g n 5 (c1 - n) _ w1 (by omega) (by omega) cur hblk (by omega) (by omega)).mono ?_
  rintro e w2 ⟨rfl, rfl⟩
  go_wp2_with fail
  go_ret
  have ho := room_own hr B hg [206, u / 16777216, u / 65536 % 256, u / 256 % 256, u % 256] rfl (by simp; omega)
  rw [hl] at ho
  exact ⟨_, _, rfl, ho, hb1.trans (puts_below hg _ _ _), hot.puts hgo hb1.size _ _⟩

set_option maxHeartbeats 1000000 in
theorem appOUint64_9 (u : Int) (h0 : 4294967296 ≤ u) (h1 : u < 18446744073709551616) (B : Nat) (a : Option Addr) (n c : Nat) (l : List Int) (w : World) (hv : O8 w B a n c l) (hB : B ≤ w.heap.size) (hn : n ≤ 1099511627776) :
    Calls Try.prog 36 #[.slice a n c, .int .u64 u] w fun e w' => ∃ a' c', e = .returned (.slice a' (n + 9) c') ∧ O8 w' B a' (n + 9) c' (l ++ [207, u / 72057594037927936, u / 281474976710656 % 256, u / 1099511627776 % 256, u / 4294967296 % 256, u / 16777216 % 256, u / 65536 % 256, u / 256 % 256, u % 256]) ∧ Below B w w' ∧ Oth a w w' := by
  have hl := hv.vw.len
  go_enter Try.func36, Try.ntmps36
  go_wp2_with (go_at_call 31; refine (ensureO_any B _ _ _ l 9 9 rfl _ hv hB hn (by omega) (by omega)).mono ?_; rintro e w1 ⟨g, c1, rfl, hg, hr, hb1, hot, hgo⟩; obtain ⟨cur, hblk, hcs, hfit, hcb⟩ := hr.blk; have hne : ¬ c1 = n := by omega)
  refine (putMuint64_t g n 9 (c1 - n) _ w1 (by omega) (by omega) cur hblk (by omega) (by omega)).mono ?_
  rintro e w2 ⟨rfl, rfl⟩
  go_wp2_with fail
  go_ret
  have ho := room_own hr B hg [207, u / 72057594037927936, u / 281474976710656 % 256, u / 1099511627776 % 256, u / 4294967296 % 256, u / 16777216 % 256, u / 65536 % 256, u / 256 % 256, u % 256] rfl (by simp; omega)
  rw [hl] at ho
  exact ⟨_, _, rfl, ho, hb1.trans (puts_below hg _ _ _), hot.puts hgo hb1.size _ _⟩

set_option maxHeartbeats 1000000 in
theorem appOInt64_3 (u : Int) (h0 : 128 ≤ u) (h1 : u < 32768) (B : Nat) (a : Option Addr) (n c : Nat) (l : List Int) (w : World) (hv : O8 w B a n c l) (hB : B ≤ w.heap.size) (hn : n ≤ 1099511627776) :
    Calls Try.prog 40 #[.slice a n c, .int .i64 u] w fun e w' => ∃ a' c', e = .returned (.slice a' (n + 3) c') ∧ O8 w' B a' (n + 3) c' (l ++ [209, u / 256 % 256, u % 256]) ∧ Below B w w' ∧ Oth a w w' := by
  have hl := hv.vw.len
  go_enter Try.func40, Try.ntmps40
  go_wp2_with (go_at_call 31; refine (ensureO_any B _ _ _ l 3 3 rfl _ hv hB hn (by omega) (by omega)).mono ?_; rintro e w1 ⟨g, c1, rfl, hg, hr, hb1, hot, hgo⟩; obtain ⟨cur, hblk, hcs, hfit, hcb⟩ := hr.blk; have hne : ¬ c1 = n := by omega)
  refine (putMint16_t g n 3 (c1 - n) _ w1 (by omega) (by omega) cur hblk (by omega) (by omega)).mono ?_
  rintro e w2 ⟨rfl, rfl⟩
  go_wp2_with fail
  go_ret
  have ho := room_own hr B hg [209, u / 256 % 256, u % 256] rfl (by simp; omega)
  rw [hl] at ho
  exact ⟨_, _, rfl, ho, hb1.trans (puts_below hg _ _ _), hot.puts hgo hb1.size _ _⟩

set_option maxHeartbeats 1000000 in
theorem appOInt64_5 (u : Int) (h0 : 32768 ≤ u) (h1 : u < 2147483648) (B : Nat) (a : Option Addr) (n c : Nat) (l : List Int) (w : World) (hv : O8 w B a n c l) (hB : B ≤ w.heap.size) (hn : n ≤ 1099511627776) :
    Calls Try.prog 40 #[.slice a n c, .int .i64 u] w fun e w' => ∃ a' c', e = .returned (.slice a' (n + 5) c') ∧ O8 w' B a' (n + 5) c' (l ++ [210, u / 16777216 % 256, u / 65536 % 256, u / 256 % 256, u % 256]) ∧ Below B w w' ∧ Oth a w w' := by
  have hl := hv.vw.len
  go_enter Try.func40, Try.ntmps40
  go_wp2_with (go_at_call 31; refine (ensureO_any B _ _ _ l 5 5 rfl _ hv hB hn (by omega) (by omega)).mono ?_; rintro e w1 ⟨g, c1, rfl, hg, hr, hb1, hot, hgo⟩; obtain ⟨cur, hblk, hcs, hfit, hcb⟩ := hr.blk; have hne : ¬ c1 = n := by omega)
  refine (putMint32_t g n 5 (c1 - n) _ w1 (by omega) (by omega) cur hblk (by omega) (by omega)).mono ?_
  rintro e w2 ⟨rfl, rfl⟩
  go_wp2_with fail
  go_ret
  have ho := room_own hr B hg [210, u / 16777216 % 256, u / 65536 % 256, u / 256 % 256, u % 256] rfl (by simp; omega)
  rw [hl] at ho
  exact ⟨_, _, rfl, ho, hb1.trans (puts_below hg _ _ _), hot.puts hgo hb1.size _ _⟩

set_option maxHeartbeats 1000000 in
theorem appOInt64_9 (u : Int) (h0 : 2147483648 ≤ u) (h1 : u < 9223372036854775808) (B : Nat) (a : Option Addr) (n c : Nat) (l : List Int) (w : World) (hv : O8 w B a n c l) (hB : B ≤ w.heap.size) (hn : n ≤ 1099511627776) :
    Calls Try.prog 40 #[.slice a n c, .int .i64 u] w fun e w' => ∃ a' c', e = .returned (.slice a' (n + 9) c') ∧ O8 w' B a' (n + 9) c' (l ++ [211, u / 72057594037927936 % 256, u / 281474976710656 % 256, u / 1099511627776 % 256, u / 4294967296 % 256, u / 16777216 % 256, u / 65536 % 256, u / 256 % 256, u % 256]) ∧ Below B w w' ∧ Oth a w w' := by
  have hl := hv.vw.len
  go_enter Try.func40, Try.ntmps40
  go_wp2_with (go_at_call 31; refine (ensureO_any B _ _ _ l 9 9 rfl _ hv hB hn (by omega) (by omega)).mono ?_; rintro e w1 ⟨g, c1, rfl, hg, hr, hb1, hot, hgo⟩; obtain ⟨cur, hblk, hcs, hfit, hcb⟩ := hr.blk; have hne : ¬ c1 = n := by omega)
  refine (putMint64_t g n 9 (c1 - n) _ w1 (by omega) (by omega) cur hblk (by omega) (by omega)).mono ?_
  rintro e w2 ⟨rfl, rfl⟩
  go_wp2_with fail
  go_ret
  have ho := room_own hr B hg [211, u / 72057594037927936 % 256, u / 281474976710656 % 256, u / 1099511627776 % 256, u / 4294967296 % 256, u / 16777216 % 256, u / 65536 % 256, u / 256 % 256, u % 256] rfl (by simp; omega)
  rw [hl] at ho
  exact ⟨_, _, rfl, ho, hb1.trans (puts_below hg _ _ _), hot.puts hgo hb1.size _ _⟩

set_option maxHeartbeats 1000000 in
theorem appOInt64_2n (u : Int) (h0 : -128 ≤ u) (h1 : u < -32) (B : Nat) (a : Option Addr) (n c : Nat) (l : List Int) (w : World) (hv : O8 w B a n c l) (hB : B ≤ w.heap.size) (hn : n ≤ 1099511627776) :
    Calls Try.prog 40 #[.slice a n c, .int .i64 u] w fun e w' => ∃ a' c', e = .returned (.slice a' (n + 2) c') ∧ O8 w' B a' (n + 2) c' (l ++ [208, u % 256]) ∧ Below B w w' ∧ Oth a w w' := by
  have hl := hv.vw.len
  go_enter Try.func40, Try.ntmps40
  go_wp2_with (go_at_call 31; refine (ensureO_any B _ _ _ l 2 2 rfl _ hv hB hn (by omega) (by omega)).mono ?_; rintro e w1 ⟨g, c1, rfl, hg, hr, hb1, hot, hgo⟩; obtain ⟨cur, hblk, hcs, hfit, hcb⟩ := hr.blk; have hne : ¬ c1 = n := by omega)
  refine (putMint8_t g n 2 (c1 - n) _ w1 (by omega) (by omega) cur hblk (by omega) (by omega)).mono ?_
  rintro e w2 ⟨rfl, rfl⟩
  go_wp2_with fail
  go_ret
  have ho := room_own hr B hg [208, u % 256] rfl (by simp; omega)
  rw [hl] at ho
  exact ⟨_, _, rfl, ho, hb1.trans (puts_below hg _ _ _), hot.puts hgo hb1.size _ _⟩

set_option maxHeartbeats 1000000 in
theorem appOInt64_3n (u : Int) (h0 : -32768 ≤ u) (h1 : u < -128) (B : Nat) (a : Option Addr) (n c : Nat) (l : List Int) (w : World) (hv : O8 w B a n c l) (hB : B ≤ w.heap.size) (hn : n ≤ 1099511627776) :
    Calls Try.prog 40 #[.slice a n c, .int .i64 u] w fun e w' => ∃ a' c', e = .returned (.slice a' (n + 3) c') ∧ O8 w' B a' (n + 3) c' (l ++ [209, u / 256 % 256, u % 256]) ∧ Below B w w' ∧ Oth a w w' := by
  have hl := hv.vw.len
  go_enter Try.func40, Try.ntmps40
  go_wp2_with (go_at_call 31; refine (ensureO_any B _ _ _ l 3 3 rfl _ hv hB hn (by omega) (by omega)).mono ?_; rintro e w1 ⟨g, c1, rfl, hg, hr, hb1, hot, hgo⟩; obtain ⟨cur, hblk, hcs, hfit, hcb⟩ := hr.blk; have hne : ¬ c1 = n := by omega)
  refine (putMint16_t g n 3 (c1 - n) _ w1 (by omega) (by omega) cur hblk (by omega) (by omega)).mono ?_
  rintro e w2 ⟨rfl, rfl⟩
  go_wp2_with fail
  go_ret
  have ho := room_own hr B hg [209, u / 256 % 256, u % 256] rfl (by simp; omega)
  rw [hl] at ho
  exact ⟨_, _, rfl, ho, hb1.trans (puts_below hg _ _ _), hot.puts hgo hb1.size _ _⟩

set_option maxHeartbeats 1000000 in
theorem appOInt64_5n (u : Int) (h0 : -2147483648 ≤ u) (h1 : u < -32768) (B : Nat) (a : Option Addr) (n c : Nat) (l : List Int) (w : World) (hv : O8 w B a n c l) (hB : B ≤ w.heap.size) (hn : n ≤ 1099511627776) :
    Calls Try.prog 40 #[.slice a n c, .int .i64 u] w fun e w' => ∃ a' c', e = .returned (.slice a' (n + 5) c') ∧ O8 w' B a' (n + 5) c' (l ++ [210, u / 16777216 % 256, u / 65536 % 256, u / 256 % 256, u % 256]) ∧ Below B w w' ∧ Oth a w w' := by
  have hl := hv.vw.len
  go_enter Try.func40, Try.ntmps40
  go_wp2_with (go_at_call 31; refine (ensureO_any B _ _ _ l 5 5 rfl _ hv hB hn (by omega) (by omega)).mono ?_; rintro e w1 ⟨g, c1, rfl, hg, hr, hb1, hot, hgo⟩; obtain ⟨cur, hblk, hcs, hfit, hcb⟩ := hr.blk; have hne : ¬ c1 = n := by omega)
  refine (putMint32_t g n 5 (c1 - n) _ w1 (by omega) (by omega) cur hblk (by omega) (by omega)).mono ?_
  rintro e w2 ⟨rfl, rfl⟩
  go_wp2_with fail
  go_ret
  have ho := room_own hr B hg [210, u / 16777216 % 256, u / 65536 % 256, u / 256 % 256, u % 256] rfl (by simp; omega)
  rw [hl] at ho
  exact ⟨_, _, rfl, ho, hb1.trans (puts_below hg _ _ _), hot.puts hgo hb1.size _ _⟩

set_option maxHeartbeats 1000000 in
theorem appOInt64_9n (u : Int) (h0 : -9223372036854775808 ≤ u) (h1 : u < -2147483648) (B : Nat) (a : Option Addr) (n c : Nat) (l : List Int) (w : World) (hv : O8 w B a n c l) (hB : B ≤ w.heap.size) (hn : n ≤ 1099511627776) :
    Calls Try.prog 40 #[.slice a n c, .int .i64 u] w fun e w' => ∃ a' c', e = .returned (.slice a' (n + 9) c') ∧ O8 w' B a' (n + 9) c' (l ++ [211, u / 72057594037927936 % 256, u / 281474976710656 % 256, u / 1099511627776 % 256, u / 4294967296 % 256, u / 16777216 % 256, u / 65536 % 256, u / 256 % 256, u % 256]) ∧ Below B w w' ∧ Oth a w w' := by
  have hl := hv.vw.len
  go_enter Try.func40, Try.ntmps40
  go_wp2_with (go_at_call 31; refine (ensureO_any B _ _ _ l 9 9 rfl _ hv hB hn (by omega) (by omega)).mono ?_; rintro e w1 ⟨g, c1, rfl, hg, hr, hb1, hot, hgo⟩; obtain ⟨cur, hblk, hcs, hfit, hcb⟩ := hr.blk; have hne : ¬ c1 = n := by omega)
  refine (putMint64_t g n 9 (c1 - n) _ w1 (by omega) (by omega) cur hblk (by omega) (by omega)).mono ?_
  rintro e w2 ⟨rfl, rfl⟩
  go_wp2_with fail
  go_ret
  have ho := room_own hr B hg [211, u / 72057594037927936 % 256, u / 281474976710656 % 256, u / 1099511627776 % 256, u / 4294967296 % 256, u / 16777216 % 256, u / 65536 % 256, u / 256 % 256, u % 256] rfl (by simp; omega)
  rw [hl] at ho
  exact ⟨_, _, rfl, ho, hb1.trans (puts_below hg _ _ _), hot.puts hgo hb1.size _ _⟩
end Go.Proofs.Ytbngkfdfjpbajaa
