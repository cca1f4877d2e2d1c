/- msgp.AppendString. -/
import Derived.Test.YtcbplfpobpienaaEnsure
import Derived.Lib.BufferWrite
namespace Go.Proofs.Ytcbplfpobpienaa
open Go.RowKit
set_option linter.unusedVariables false

/-- The bytes of a text as numbers. -/
def ints (s : ByteArray) : List Int := s.data.toList.map fun b => (b.toNat : Int)

theorem ints_length (s : ByteArray) : (ints s).length = s.size := by unfold ints; rw [List.length_map, Array.length_toList]; rfl
theorem ints_bytes (s : ByteArray) : ∀ x ∈ ints s, 0 ≤ x ∧ x ≤ 255 := by
  intro x hx
  simp only [ints, List.mem_map] at hx
  obtain ⟨b, _, rfl⟩ := hx
  have := b.toNat_lt
  omega
theorem ints_cells (s : ByteArray) : bytesV (ints s) = Lib.byteCells s.data.toList := by simp [bytesV, ints, Lib.byteCells]
theorem strOfNums_ints (s : ByteArray) : strOfNums (ints s) = s := by
  unfold strOfNums ints
  rw [List.map_map]
  have : ((fun n : Int => UInt8.ofNat n.toNat) ∘ fun b : UInt8 => (b.toNat : Int)) = id := by
    funext b; simp
  rw [this]; simp

theorem room_puts {w : World} {g c : Nat} {l : List Int} {m : Nat} (h : Room w g c l m) (bs : List Int) (hb : bs.length ≤ m) (hby : ∀ x ∈ bs, 0 ≤ x ∧ x ≤ 255) :
    Room (puts w g l.length bs) g c (l ++ bs) (m - bs.length) := by
  obtain ⟨cur, hB, hc, hlm, hcb, ht, hl⟩ := h
  obtain ⟨cs', h1, h2, h3⟩ := puts_blk bs w l.length cur hB (by omega)
  refine ⟨cs', h1, by omega, by simp; omega, hcb, ?_, fun x hx => ?_⟩
  · rw [List.length_append, h3, ht]; simp [bytesV]
  · rcases List.mem_append.1 hx with h4 | h4
    · exact hl x h4
    · exact hby x h4

theorem own_of_row {w : World} {g c B : Nat} {l : List Int} (cur : Array Value) (hB : Blk w g 5 cur) (hg : B ≤ g) (hc : cur.size = c) (hl : l.length ≤ c) (hcb : c ≤ 9223372036854775807) (ht : cur.toList.take l.length = bytesV l) (hby : ∀ x ∈ l, 0 ≤ x ∧ x ≤ 255) :
    O8 w B (some ⟨g, 0, none⟩) l.length c l := by
  refine ⟨⟨rfl, hl, hcb, hby, fun e => (by cases e), .inr ⟨g, 0, rfl, fun i hi => ?_⟩⟩, .inr ⟨g, cur, rfl, hg, hB, hc⟩⟩
  rw [Nat.zero_add]
  refine hB.cell ?_
  have e : (cur.toList.take l.length)[i]? = some (.int .u8 (l.getD i 0)) := by
    rw [ht]
    simp only [bytesV, List.getElem?_map, List.getElem?_eq_getElem hi, List.getD, Option.map_some, Option.getD_some]
  rw [List.getElem?_take, if_pos (by omega)] at e
  simpa using e

/-- Where a text fits behind a row: the copy, and the row behind it. -/
theorem room_copy {w : World} {g c : Nat} {l : List Int} {m : Nat} (h : Room w g c l m) (B : Nat) (hg : B ≤ g) (s : ByteArray) (hs : s.size = m) (dLen dCap ty : Nat) (hd : m ≤ dLen) :
    ∃ row : Array Value, (Builtin.copy_ #[22, 9] ty #[.slice (some ⟨g, l.length, none⟩) dLen dCap, .string s]).run Try.prog w = .ok (goInt m) (w.setRow g row) ∧
      O8 (w.setRow g row) B (some ⟨g, 0, none⟩) (l.length + m) c (l ++ ints s) := by
  obtain ⟨cur, hB, hc, hlm, hcb, ht, hl⟩ := h
  refine ⟨(cur.toList.take l.length ++ Lib.byteCells s.data.toList ++ cur.toList.drop (l.length + s.size)).toArray, ?_, ?_⟩
  · rw [← hs]
    exact Lib.run_copy_row_string w 22 9 ty 5 g l.length dLen dCap s cur 5 Try.underlying22 one8 hB (by omega) (by omega)
  · have e : (l ++ ints s).length = l.length + m := by simp [ints_length, hs]
    rw [← e]
    refine own_of_row _ (hB.row _) hg ?_ (by omega) hcb ?_ (fun x hx => ?_)
    · simp [← ints_cells, bytesV, ints_length, hs]; omega
    · simp only [ht, ← ints_cells]
      rw [show bytesV l ++ bytesV (ints s) = bytesV (l ++ ints s) by simp [bytesV]]
      have e2 : (l ++ ints s).length = (bytesV (l ++ ints s)).length := by simp [bytesV]
      rw [e2]; simp
    · rcases List.mem_append.1 hx with h4 | h4
      · exact hl x h4
      · exact ints_bytes s x h4

theorem u8_fixstr (x : Int) (h0 : 0 ≤ x) (h1 : x < 32) : bits .or .u8 (x % 32) 160 = 160 + x := by
  rw [Int.emod_eq_of_lt h0 h1, u8_or _ 160 (by omega) (by omega) (by omega) (by omega), show (160 : Int).toNat = 160 from rfl, Nat.or_comm, nat_join 5 160 x.toNat (by decide) (by omega)]
  omega

set_option maxHeartbeats 1000000 in
theorem appendString_fix (s : ByteArray) (m : Nat) (hs : s.size = m) (h0 : 1 ≤ m) (h1 : m < 32) (B : Nat) (a : Option Addr) (n c : Nat) (l : List Int) (w : World) (hv : O8 w B a n c l) (hB : B ≤ w.heap.size) (hn : n ≤ 1099511627776) :
    Calls Try.prog 25 #[.slice a n c, .string s] w fun e w' => ∃ a' c', e = .returned (.slice a' (n + (1 + m)) c') ∧ O8 w' B a' (n + (1 + m)) c' (l ++ ([160 + (m : Int)] ++ ints s)) ∧ Below B w w' := by
  have hl := hv.vw.len
  have hfix := u8_fixstr m (by omega) (by omega)
  have hm31 : (m : Int) ≤ 31 := by omega
  go_enter Try.func25, Try.ntmps25
  go_wp2_with (go_at_call 35; refine (ensure_any B _ _ _ l (1 + m) _ (by omega) _ hv hB hn (by omega) (by omega)).mono ?_; rintro e w1 ⟨g, c1, rfl, hg, hr, hb1⟩; obtain ⟨cur, hblk, hcs, hfit, hcb⟩ := hr.blk; have hne : ¬ c1 = n + 1 := (by omega); have hne0 : ¬ c1 = n := (by omega))
  obtain ⟨vn, hvn⟩ : ∃ v, w1.cell? ⟨g, n, none⟩ = some v := ⟨_, hblk.cell (Array.getElem?_eq_getElem (by omega))⟩
  have hfn := hblk.frozen n
  obtain ⟨row, hcp, ho⟩ := room_copy (room_puts hr [160 + (m : Int)] (by simp) (by simp; omega)) B hg s (by simp [hs]) (n + (1 + m) - (n + 1)) (c1 - (n + 1)) 3 (by simp; omega)
  simp only [List.length_append, hl, puts, List.length_singleton, Nat.add_sub_cancel_left] at hcp ho
  go_wp2_with (go_at_call 36; go_in)
  go_ret
  rw [show n + 1 + m = n + (1 + m) by omega, List.append_assoc] at ho
  refine ⟨_, _, ?_, ho, below_row (Below.trans hb1 ?_) hg _⟩
  · rw [show n + (1 + m) = n + 1 + m by omega]; rfl
  · exact (Below.refl _ _).setCell hg _

set_option maxHeartbeats 1000000 in
theorem appendString_none (s : ByteArray) (hs : s.size = 0) (B : Nat) (a : Option Addr) (n c : Nat) (l : List Int) (w : World) (hv : O8 w B a n c l) (hB : B ≤ w.heap.size) (hn : n ≤ 1099511627776) :
    Calls Try.prog 25 #[.slice a n c, .string s] w fun e w' => ∃ a' c', e = .returned (.slice a' (n + 1) c') ∧ O8 w' B a' (n + 1) c' (l ++ [160]) ∧ Below B w w' := by
  have hl := hv.vw.len
  have hfix : bits .or .u8 0 160 = 160 := by decide
  have hcp0 := fun (w : World) (d : Option Addr) (dLen dCap : Nat) => Lib.run_copy_empty_string (P := Try.prog) w 22 9 3 5 d dLen dCap s Try.underlying22 (by rw [one8]; rfl) hs
  go_enter Try.func25, Try.ntmps25
  go_wp2_with (go_at_call 35; refine (ensure_any B _ _ _ l 1 _ (by omega) _ hv hB hn (by omega) (by omega)).mono ?_; rintro e w1 ⟨g, c1, rfl, hg, hr, hb1⟩; obtain ⟨cur, hblk, hcs, hfit, hcb⟩ := hr.blk)
  obtain ⟨vn, hvn⟩ : ∃ v, w1.cell? ⟨g, n, none⟩ = some v := ⟨_, hblk.cell (Array.getElem?_eq_getElem (by omega))⟩
  have hfn := hblk.frozen n
  have ho := room_own hr B hg [160] rfl (by simp)
  rw [hl] at ho
  have hn1 : n + 1 ≤ c1 := by omega
  by_cases hne : c1 = n + 1
  · have ho' := ho
    rw [hne] at ho'
    go_wp2_with (go_at_call 36; go_in)
    go_ret
    exact ⟨_, _, rfl, ho', hb1.trans ((Below.refl _ _).setCell hg _)⟩
  · go_wp2_with (go_at_call 36; go_in)
    go_ret
    exact ⟨_, _, rfl, ho, hb1.trans ((Below.refl _ _).setCell hg _)⟩

set_option maxHeartbeats 1000000 in
theorem appendString_8 (s : ByteArray) (m : Nat) (hs : s.size = m) (h0 : 32 ≤ m) (h1 : m < 256) (B : Nat) (a : Option Addr) (n c : Nat) (l : List Int) (w : World) (hv : O8 w B a n c l) (hB : B ≤ w.heap.size) (hn : n ≤ 1099511627776) :
    Calls Try.prog 25 #[.slice a n c, .string s] w fun e w' => ∃ a' c', e = .returned (.slice a' (n + (2 + m)) c') ∧ O8 w' B a' (n + (2 + m)) c' (l ++ ([217, (m : Int)] ++ ints s)) ∧ Below B w w' := by
  have hl := hv.vw.len
  have hm1 : ¬ (m : Int) ≤ 31 := by omega
  go_enter Try.func25, Try.ntmps25
  go_wp2_with (go_at_call 35; refine (ensure_any B _ _ _ l (2 + m) _ (by omega) _ hv hB hn (by omega) (by omega)).mono ?_; rintro e w1 ⟨g, c1, rfl, hg, hr, hb1⟩; obtain ⟨cur, hblk, hcs, hfit, hcb⟩ := hr.blk; have hne : ¬ c1 = n + 2 := (by omega); have hne0 : ¬ c1 = n := (by omega))
  obtain ⟨row, hcp, ho⟩ := room_copy (room_puts hr [217, (m : Int)] (by simp) (by simp; omega)) B hg s (by simp [hs]) (n + (2 + m) - (n + 2)) (c1 - (n + 2)) 3 (by simp; omega)
  simp only [List.length_append, hl, List.length_cons, List.length_nil, Nat.zero_add, Nat.reduceAdd, Nat.add_sub_cancel_left] at hcp ho
  refine (prefixu8_t g n _ (c1 - n) 217 _ w1 (by omega) (by omega) cur hblk (by omega) (by omega)).mono ?_
  rintro e w2 ⟨rfl, rfl⟩
  go_wp2_with fail
  go_ret
  rw [show n + 2 + m = n + (2 + m) by omega, List.append_assoc] at ho
  refine ⟨_, _, ?_, ho, below_row (Below.trans hb1 ?_) hg _⟩
  · rw [show n + (2 + m) = n + 2 + m by omega]; rfl
  · exact puts_below hg _ _ _

set_option maxHeartbeats 1000000 in
theorem appendString_16 (s : ByteArray) (m : Nat) (hs : s.size = m) (h0 : 256 ≤ m) (h1 : m < 65536) (B : Nat) (a : Option Addr) (n c : Nat) (l : List Int) (w : World) (hv : O8 w B a n c l) (hB : B ≤ w.heap.size) (hn : n ≤ 1099511627776) :
    Calls Try.prog 25 #[.slice a n c, .string s] w fun e w' => ∃ a' c', e = .returned (.slice a' (n + (3 + m)) c') ∧ O8 w' B a' (n + (3 + m)) c' (l ++ ([218, (m : Int) / 256, (m : Int) % 256] ++ ints s)) ∧ Below B w w' := by
  have hl := hv.vw.len
  have hm1 : ¬ (m : Int) ≤ 31 := by omega
  go_enter Try.func25, Try.ntmps25
  go_wp2_with (go_at_call 35; refine (ensure_any B _ _ _ l (3 + m) _ (by omega) _ hv hB hn (by omega) (by omega)).mono ?_; rintro e w1 ⟨g, c1, rfl, hg, hr, hb1⟩; obtain ⟨cur, hblk, hcs, hfit, hcb⟩ := hr.blk; have hne : ¬ c1 = n + 3 := (by omega); have hne0 : ¬ c1 = n := (by omega))
  obtain ⟨row, hcp, ho⟩ := room_copy (room_puts hr [218, (m : Int) / 256, (m : Int) % 256] (by simp) (by simp; omega)) B hg s (by simp [hs]) (n + (3 + m) - (n + 3)) (c1 - (n + 3)) 3 (by simp; omega)
  simp only [List.length_append, hl, List.length_cons, List.length_nil, Nat.zero_add, Nat.reduceAdd, Nat.add_sub_cancel_left] at hcp ho
  refine (prefixu16_t g n _ (c1 - n) 218 _ w1 (by omega) (by omega) cur hblk (by omega) (by omega)).mono ?_
  rintro e w2 ⟨rfl, rfl⟩
  go_wp2_with fail
  go_ret
  rw [show n + 3 + m = n + (3 + m) by omega, List.append_assoc] at ho
  refine ⟨_, _, ?_, ho, below_row (Below.trans hb1 ?_) hg _⟩
  · rw [show n + (3 + m) = n + 3 + m by omega]; rfl
  · exact puts_below hg _ _ _

set_option maxHeartbeats 1000000 in
theorem appendString_32 (s : ByteArray) (m : Nat) (hs : s.size = m) (h0 : 65536 ≤ m) (h1 : m < 4294967296) (B : Nat) (a : Option Addr) (n c : Nat) (l : List Int) (w : World) (hv : O8 w B a n c l) (hB : B ≤ w.heap.size) (hn : n ≤ 1099511627776) :
    Calls Try.prog 25 #[.slice a n c, .string s] w fun e w' => ∃ a' c', e = .returned (.slice a' (n + (5 + m)) c') ∧ O8 w' B a' (n + (5 + m)) c' (l ++ ([219, (m : Int) / 16777216, (m : Int) / 65536 % 256, (m : Int) / 256 % 256, (m : Int) % 256] ++ ints s)) ∧ Below B w w' := by
  have hl := hv.vw.len
  have hm1 : ¬ (m : Int) ≤ 31 := by omega
  go_enter Try.func25, Try.ntmps25
  go_wp2_with (go_at_call 35; refine (ensure_any B _ _ _ l (5 + m) _ (by omega) _ hv hB hn (by omega) (by omega)).mono ?_; rintro e w1 ⟨g, c1, rfl, hg, hr, hb1⟩; obtain ⟨cur, hblk, hcs, hfit, hcb⟩ := hr.blk; have hne : ¬ c1 = n + 5 := (by omega); have hne0 : ¬ c1 = n := (by omega))
  obtain ⟨row, hcp, ho⟩ := room_copy (room_puts hr [219, (m : Int) / 16777216, (m : Int) / 65536 % 256, (m : Int) / 256 % 256, (m : Int) % 256] (by simp) (by simp; omega)) B hg s (by simp [hs]) (n + (5 + m) - (n + 5)) (c1 - (n + 5)) 3 (by simp; omega)
  simp only [List.length_append, hl, List.length_cons, List.length_nil, Nat.zero_add, Nat.reduceAdd, Nat.add_sub_cancel_left] at hcp ho
  refine (prefixu32_t g n _ (c1 - n) 219 _ w1 (by omega) (by omega) cur hblk (by omega) (by omega)).mono ?_
  rintro e w2 ⟨rfl, rfl⟩
  go_wp2_with fail
  go_ret
  rw [show n + 5 + m = n + (5 + m) by omega, List.append_assoc] at ho
  refine ⟨_, _, ?_, ho, below_row (Below.trans hb1 ?_) hg _⟩
  · rw [show n + (5 + m) = n + 5 + m by omega]; rfl
  · exact puts_below hg _ _ _

end Go.Proofs.Ytcbplfpobpienaa
