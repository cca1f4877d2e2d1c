/- Rows of one's own written in their middle; msgp.AppendBytesStringTwoPrefixed. -/
import Derived.Test.YtcbplfpobpienaaAppStr
import Derived.StillTailTactics
namespace Go.Proofs.Ytcbplfpobpienaa
open Go.RowKit
set_option linter.unusedVariables false

theorem puts_full {E : TypeId} {g : Nat} : ∀ (l : List Int) (w : World) (off : Nat) (cs : Array Value), Blk w g E cs → off + l.length ≤ cs.size →
    Blk (puts w g off l) g E (cs.toList.take off ++ (bytesV l ++ cs.toList.drop (off + l.length))).toArray
  | [], w, off, cs, h, _ => by simpa [bytesV, puts] using h
  | x :: r, w, off, cs, h, hf => by
    simp only [List.length_cons] at hf
    have ih := puts_full r _ (off + 1) _ (h.set off (.int .u8 x)) (by simp; omega)
    have e1 : (cs.setIfInBounds off (.int .u8 x)).toList.take (off + 1) = cs.toList.take off ++ [.int .u8 x] := by
      apply List.ext_getElem?
      intro i
      simp only [Array.toList_setIfInBounds, List.getElem?_append, List.length_take, Array.length_toList, List.getElem?_take, List.getElem?_set]
      rw [Nat.min_eq_left (by omega)]
      by_cases h4 : i < off
      · simp [h4, show i < off + 1 by omega, show off ≠ i by omega]
      · by_cases h5 : i = off
        · subst h5; simp; omega
        · simp [h4, show ¬ i < off + 1 by omega, show i - off ≠ 0 by omega]
    have e2 : (cs.setIfInBounds off (.int .u8 x)).toList.drop (off + 1 + r.length) = cs.toList.drop (off + (x :: r).length) := by
      rw [Array.toList_setIfInBounds, List.drop_set_of_lt (by omega)]
      congr 1
      simp; omega
    rw [e1, e2] at ih
    simpa [bytesV, puts] using ih

theorem splice_row (L : List Int) (T : List Value) (bs : List Int) (off : Nat) (h : off + bs.length ≤ L.length) :
    (List.take off (bytesV L ++ T) ++ (bytesV bs ++ List.drop (off + bs.length) (bytesV L ++ T))).take L.length = bytesV (L.take off ++ (bs ++ L.drop (off + bs.length))) := by
  have hL : (bytesV L).length = L.length := by simp [bytesV]
  have h1 : List.take off (bytesV L ++ T) = List.take off (bytesV L) := List.take_append_of_le_length (by omega)
  have h2 : List.drop (off + bs.length) (bytesV L ++ T) = List.drop (off + bs.length) (bytesV L) ++ T := List.drop_append_of_le_length (by omega)
  rw [h1, h2]
  have e : List.take off (bytesV L) ++ (bytesV bs ++ (List.drop (off + bs.length) (bytesV L) ++ T)) = bytesV (L.take off ++ (bs ++ L.drop (off + bs.length))) ++ T := by
    simp [bytesV]
  rw [e, List.take_left' (by simp [bytesV]; omega)]

/-- A row of one's own laid open. -/
theorem Own.open1 {w : World} {B : Nat} {a : Option Addr} {n c : Nat} {l : List Int} (h : O8 w B a n c l) (hn : 1 ≤ n) :
    ∃ g T, a = some ⟨g, 0, none⟩ ∧ B ≤ g ∧ Blk w g 5 (bytesV l ++ T).toArray ∧ (bytesV l ++ T).length = c := by
  rcases h.row with ⟨rfl, rfl, _⟩ | ⟨g, cur, rfl, hg, hb, hc⟩
  · omega
  · refine ⟨g, cur.toList.drop n, rfl, hg, ?_, ?_⟩
    all_goals
      have ht : cur.toList.take n = bytesV l := by
        rcases h.owns.2 with ⟨h3, _⟩ | ⟨g', cap, cur', h3, _, hh, _, _, _, htk⟩
        · cases h3
        · injection h3 with h4 h5 h6
          injection h4 with h4; injection h4 with h4
          subst h4
          have : cur' = cur := by have e := hb; unfold Blk at e; rw [hh] at e; injection e with e; injection e with e
          subst this
          simpa using htk
    · rw [← ht, List.take_append_drop]; simpa using hb
    · rw [← ht, List.take_append_drop]; simpa using hc

/-- The row behind a splice in it. -/
theorem own_splice {w : World} {g c B : Nat} (L : List Int) (T : List Value) (bs : List Int) (off : Nat) (h : off + bs.length ≤ L.length) (hg : B ≤ g)
    (hB : Blk w g 5 (List.take off (bytesV L ++ T) ++ (bytesV bs ++ List.drop (off + bs.length) (bytesV L ++ T))).toArray) (hc : (bytesV L ++ T).length = c) (hcb : c ≤ 9223372036854775807)
    (hL : ∀ x ∈ L, 0 ≤ x ∧ x ≤ 255) (hbs : ∀ x ∈ bs, 0 ≤ x ∧ x ≤ 255) :
    O8 w B (some ⟨g, 0, none⟩) L.length c (L.take off ++ (bs ++ L.drop (off + bs.length))) := by
  have hlen : (L.take off ++ (bs ++ L.drop (off + bs.length))).length = L.length := by simp; omega
  have hbl : (bytesV L).length = L.length := by simp [bytesV]
  have hc2 : L.length ≤ c := by rw [← hc, List.length_append]; omega
  have key := own_of_row (w := w) (g := g) (c := c) (B := B) (l := L.take off ++ (bs ++ L.drop (off + bs.length))) _ hB hg ?_ (by omega) hcb ?_ ?_
  · rwa [hlen] at key
  · simp only [List.length_append] at hc
    simp [bytesV] at hc ⊢; omega
  · rw [hlen]; simpa using splice_row L T bs off h
  · intro x hx
    rcases List.mem_append.1 hx with h1 | h1
    · exact hL x (List.mem_of_mem_take h1)
    · rcases List.mem_append.1 h1 with h2 | h2
      · exact hbs x h2
      · exact hL x (List.mem_of_mem_drop h2)

set_option maxHeartbeats 1000000 in
theorem twoText_8 (l d : List Int) (m : Nat) (hm : d.length = m) (h1 : m < 256) (i : Int) (hi : i = m) (B : Nat) (a : Option Addr) (n c : Nat) (w : World) (hv : O8 w B a n c (l ++ ([0, 0] ++ d))) (hB : B ≤ w.heap.size) (hn : n ≤ 1099511627776) :
    Calls Try.prog 22 #[.slice a n c, .int .i64 i] w fun e w' => ∃ a' c', e = .returned (.slice a' n c') ∧ O8 w' B a' n c' (l ++ ([217, (m : Int)] ++ d)) ∧ Below B w w' := by
  subst hi
  have hl := hv.vw.len
  have hcn := hv.vw.cap
  have hcb := hv.vw.big
  have hby := hv.vw.byt
  simp only [List.length_append, List.length_cons, List.length_nil, Nat.zero_add, Nat.reduceAdd] at hl
  obtain ⟨g, T, rfl, hg, hblk, hT⟩ := hv.open1 (by omega)
  have hsz : (bytesV (l ++ ([0, 0] ++ d)) ++ T).toArray.size = c := by simpa using hT
  have hne : ¬ c = l.length := by omega
  have hoff : (n : Int) - m - 2 = l.length := by omega
  have hw : IntKind.i64.wrap ((n : Int) - m - 2) = l.length := by rw [IntKind.wrap_i64]; omega
  have hp := fun w' => prefixu8_t g l.length (n - l.length) (c - l.length) 217 m w' (by omega) (by omega)
  have ho := puts_full [217, (m : Int)] w l.length _ hblk (by rw [hsz]; simp; omega)
  have hown := own_splice (w := puts w g l.length [217, (m : Int)]) (g := g) (c := c) (B := B) (l ++ ([0, 0] ++ d)) T [217, (m : Int)] l.length (by simp) hg (by simpa using ho) hT hcb hby (by simp; omega)
  have e2 : l ++ ([0, 0] ++ d) = (l ++ [0, 0]) ++ d := by simp
  have e3 : List.take l.length (l ++ ([0, 0] ++ d)) ++ ([217, (m : Int)] ++ List.drop (l.length + [217, (m : Int)].length) (l ++ ([0, 0] ++ d))) = l ++ ([217, (m : Int)] ++ d) := by
    rw [List.take_left, e2, show l.length + [217, (m : Int)].length = (l ++ [0, 0]).length by simp, List.drop_left]
  have e4 : (l ++ ([0, 0] ++ d)).length = n := by simp; omega
  rw [e3, e4] at hown
  clear e4
  clear e2 e3 hby ho
  have HB := Lib.hid hblk
  have HZ := Lib.hid hsz
  clear hblk hsz hT
  go_enter Try.func22, Try.ntmps22
  go_wp2_with (go_at_call 31; refine (hp _ _ HB.out (by omega) (by rw [HZ.out]; omega)).mono ?_; rintro e w1 ⟨rfl, rfl⟩)
  go_ret
  exact ⟨_, _, rfl, hown, puts_below hg _ _ _⟩

/-- A part of a row, cell by cell. -/
theorem blk_mid {w : World} {g : Nat} {E : TypeId} {pre mid post : List Int} {T : List Value} (h : Blk w g E (bytesV (pre ++ (mid ++ post)) ++ T).toArray) (k : Nat) (hk : pre.length = k) :
    ∀ j v, (bytesV mid)[j]? = some v → w.cell? ((⟨g, k, none⟩ : Addr).add j) = some v := by
  intro j v hj
  have e : (⟨g, k, none⟩ : Addr).add j = ⟨g, k + j, none⟩ := by unfold Addr.add; split <;> simp_all
  rw [e]
  refine h.cell ?_
  have hjl : j < mid.length := by
    rcases Nat.lt_or_ge j mid.length with h1 | h1
    · exact h1
    · simp [bytesV, List.getElem?_eq_none h1] at hj
  have e2 : (bytesV (pre ++ (mid ++ post)) ++ T) = bytesV pre ++ (bytesV mid ++ (bytesV post ++ T)) := by simp [bytesV]
  rw [e2, List.getElem?_toArray, List.getElem?_append_right (by simp [bytesV]; omega), show k + j - (bytesV pre).length = j by simp [bytesV]; omega, List.getElem?_append_left (by simpa [bytesV] using hjl)]
  exact hj

set_option maxHeartbeats 2000000 in
theorem twoText_16 (l d : List Int) (m : Nat) (hm : d.length = m) (h0 : 256 ≤ m) (h1 : m < 65536) (i : Int) (hi : i = m) (B : Nat) (a : Option Addr) (n c : Nat) (w : World) (hv : O8 w B a n c (l ++ ([0, 0] ++ d))) (hB : B ≤ w.heap.size) (hn : n ≤ 1099511627776) :
    Calls Try.prog 22 #[.slice a n c, .int .i64 i] w fun e w' => ∃ a' c', e = .returned (.slice a' (n + 1) c') ∧ O8 w' B a' (n + 1) c' (l ++ ([218, (m : Int) / 256, (m : Int) % 256] ++ d)) ∧ Below B w w' := by
  subst hi
  have hl := hv.vw.len
  have hby := hv.vw.byt
  simp only [List.length_append, List.length_cons, List.length_nil, Nat.zero_add, Nat.reduceAdd] at hl
  have hl0 := Own.lit 5 w [0] (by simp) (by simp)
  have hw : IntKind.i64.wrap ((n : Int) - m - 2) = l.length := by rw [IntKind.wrap_i64]; omega
  have hoff : (n : Int) - m - 2 = l.length := by omega
  go_enter Try.func22, Try.ntmps22
  go_wp2_with (at_builtin; refine app8 (by rfl) _ _ (by rfl) B _ n c _ (by rfl) (hv.alloc _) _ 1 1 [0] (by rfl) hl0.vw (by omega) (by simp <;> omega) ?_; intro a1 c1 w1 ho hgr)
  have hb1 : Below B w w1 := Below.trans (b := w.alloc _) ((Below.refl _ _).alloc hB _) (below_of_grown hgr (by simp <;> omega) hv.ge)
  obtain ⟨g, T, rfl, hg, hblk, hT⟩ := ho.open1 (by omega)
  have hcc := ho.vw.cap
  have hcb := ho.vw.big
  have hby1 := ho.vw.byt
  have hl1 := ho.vw.len
  simp only [List.length_append, List.length_cons, List.length_nil, Nat.zero_add, Nat.reduceAdd] at hl1
  have hne : ¬ c1 = l.length := by omega
  have hne1 : ¬ c1 = l.length + 1 := by omega
  have s1 : IntKind.i64.wrap ((l.length : Int) + 1) = (l.length : Int) + 1 := IntWalk.i64_in _ (by omega)
  have s2 : 0 ≤ (l.length : Int) + 1 := by omega
  have s3 : ((l.length : Int) + 1).toNat = l.length + 1 := by omega
  have s4 : (l.length : Int) + 1 ≤ (n : Int) + 1 := by omega
  have s5 : l.length + 1 ≤ n + 1 := by omega
  have s6 : l.length ≤ n + 1 := by omega
  have s7 : (l.length : Int) ≤ (n : Int) + 1 := by omega
  have s8 : (0 : Int) ≤ (l.length : Int) := by omega
  have e0 : (l ++ ([0, 0] ++ d)) ++ [0] = l ++ (([0, 0] ++ d) ++ [0]) := by simp
  have hblk1 := hblk
  have hT1 := hT
  rw [e0] at hblk1 hT1
  have hmid := blk_mid (mid := [0, 0] ++ d) hblk1 l.length rfl
  have hcs : (bytesV ([0, 0] ++ d)).length = n - l.length := by simp [bytesV]; omega
  have HB := Lib.hid hblk1
  have HM := Lib.hid hmid
  have HT := Lib.hid hT1
  have HY := Lib.hid hby1
  have HW := Lib.hid hw
  have HO := Lib.hid hoff
  clear hblk hblk1 hmid hT hT1 e0 hby hby1 hv ho hw hoff
  go_still_tail 7, (by kernel_rfl)
  refine wpList_copy_splice (by rfl) (.tmp 46) (.tmp 49) 22 22 (by rfl) 5 Try.underlying22 one8 _ _ _ _ _ _ (by rfl) (by rfl) g (l.length + 1) (bytesV (l ++ (([0, 0] ++ d) ++ [0])) ++ T) 5 (show _ = _ from HB.out) (bytesV ([0, 0] ++ d)) (by rw [hcs]; exact (Nat.min_eq_right (by omega)).symm) (fun _ => ⟨rfl, _, rfl, HM.out⟩) (by rw [hcs, HT.out]; omega) (by simp [bytesV, Value.oneCell']) B w1 ((Below.refl _ _).drew) hg ?_
  intro w2 hh hb2
  have ho2 := own_splice (w := w2) (g := g) (c := c1) (B := B) (l ++ (([0, 0] ++ d) ++ [0])) T ([0, 0] ++ d) (l.length + 1) (by simp; omega) hg (by have := hh.out; simpa [splice, Blk, bytesV] using this) HT.out hcb (by have := HY.out; simpa using this) (by have := HY.out; intro x hx; exact this x (by simp at hx ⊢; rcases hx with h | h; exact .inr (.inl h); exact .inr (.inr (.inl h))))
  have e3 : List.drop (l.length + 1 + ([0, 0] ++ d).length) (l ++ (([0, 0] ++ d) ++ [0])) = [] := List.drop_eq_nil_of_le (by simp; omega)
  have e4 : (l ++ (([0, 0] ++ d) ++ [0])).length = n + 1 := by simp; omega
  rw [e3, List.append_nil, e4] at ho2
  obtain ⟨X, hX, hXl⟩ : ∃ X, List.take (l.length + 1) (l ++ (([0, 0] ++ d) ++ [0])) = l ++ X ∧ X.length = 1 := ⟨List.take 1 (([0, 0] ++ d) ++ [0]), by rw [List.take_length_add_append], by rw [List.length_take]; simp⟩
  rw [hX] at ho2
  obtain ⟨g2, T2, hge, hg2, hblk2, hT2⟩ := ho2.open1 (by omega)
  injection hge with hge; injection hge with hge
  subst hge
  have hsz : (bytesV (l ++ X ++ ([0, 0] ++ d)) ++ T2).toArray.size = c1 := by simpa using hT2
  have hp := fun w' => prefixu16_t g l.length (n + 1 - l.length) (c1 - l.length) 218 m w' (by omega) (by omega)
  have hpf := puts_full [218, (m : Int) / 256, (m : Int) % 256] w2 l.length _ hblk2 (by rw [hsz]; simp only [List.length_cons, List.length_nil]; omega)
  have hown := own_splice (w := puts w2 g l.length [218, (m : Int) / 256, (m : Int) % 256]) (g := g) (c := c1) (B := B) (l ++ X ++ ([0, 0] ++ d)) T2 [218, (m : Int) / 256, (m : Int) % 256] l.length (by simp [hXl] <;> omega) hg (by simpa using hpf) hT2 hcb ho2.vw.byt (by simp; omega)
  have e5 : List.take l.length (l ++ X ++ ([0, 0] ++ d)) = l := by rw [List.append_assoc, List.take_left]
  have e6 : List.drop (l.length + [218, (m : Int) / 256, (m : Int) % 256].length) (l ++ X ++ ([0, 0] ++ d)) = d := by
    rw [show l ++ X ++ ([0, 0] ++ d) = (l ++ X ++ [0, 0]) ++ d by simp, show l.length + [218, (m : Int) / 256, (m : Int) % 256].length = (l ++ X ++ [0, 0]).length by simp [hXl], List.drop_left]
  have e7 : (l ++ X ++ ([0, 0] ++ d)).length = n + 1 := by simp [hXl]; omega
  rw [e5, e6, e7] at hown
  have HB2 := Lib.hid hblk2
  have HZ := Lib.hid hsz
  clear hblk2 hsz hT2 hpf e3 e4 e5 e6 e7 hX ho2 hh
  go_wp2_with (go_at_call 32; refine (hp _ _ HB2.out (by omega) (by rw [HZ.out]; omega)).mono ?_; rintro e w3 ⟨rfl, rfl⟩)
  go_ret
  exact ⟨_, _, rfl, hown, (hb1.trans hb2).trans (puts_below hg _ _ _)⟩

set_option maxHeartbeats 2000000 in
theorem twoText_32 (l d : List Int) (m : Nat) (hm : d.length = m) (h0 : 65536 ≤ m) (h1 : m < 4294967296) (i : Int) (hi : i = m) (B : Nat) (a : Option Addr) (n c : Nat) (w : World) (hv : O8 w B a n c (l ++ ([0, 0] ++ d))) (hB : B ≤ w.heap.size) (hn : n ≤ 1099511627776) :
    Calls Try.prog 22 #[.slice a n c, .int .i64 i] w fun e w' => ∃ a' c', e = .returned (.slice a' (n + 3) c') ∧ O8 w' B a' (n + 3) c' (l ++ ([219, (m : Int) / 16777216, (m : Int) / 65536 % 256, (m : Int) / 256 % 256, (m : Int) % 256] ++ d)) ∧ Below B w w' := by
  subst hi
  have hl := hv.vw.len
  have hby := hv.vw.byt
  simp only [List.length_append, List.length_cons, List.length_nil, Nat.zero_add, Nat.reduceAdd] at hl
  have hl0 := Own.lit 5 w [0, 0, 0] (by simp) (by simp)
  have hw : IntKind.i64.wrap ((n : Int) - m - 2) = l.length := by rw [IntKind.wrap_i64]; omega
  have hoff : (n : Int) - m - 2 = l.length := by omega
  go_enter Try.func22, Try.ntmps22
  go_wp2_with (at_builtin; refine app8 (by rfl) _ _ (by rfl) B _ n c _ (by rfl) (hv.alloc _) _ 3 3 [0, 0, 0] (by rfl) hl0.vw (by omega) (by simp <;> omega) ?_; intro a1 c1 w1 ho hgr)
  have hb1 : Below B w w1 := Below.trans (b := w.alloc _) ((Below.refl _ _).alloc hB _) (below_of_grown hgr (by simp <;> omega) hv.ge)
  obtain ⟨g, T, rfl, hg, hblk, hT⟩ := ho.open1 (by omega)
  have hcc := ho.vw.cap
  have hcb := ho.vw.big
  have hby1 := ho.vw.byt
  have hl1 := ho.vw.len
  simp only [List.length_append, List.length_cons, List.length_nil, Nat.zero_add, Nat.reduceAdd] at hl1
  have hne : ¬ c1 = l.length := by omega
  have hne1 : ¬ c1 = l.length + 3 := by omega
  have s1 : IntKind.i64.wrap ((l.length : Int) + 3) = (l.length : Int) + 3 := IntWalk.i64_in _ (by omega)
  have s2 : 0 ≤ (l.length : Int) + 3 := by omega
  have s3 : ((l.length : Int) + 3).toNat = l.length + 3 := by omega
  have s4 : (l.length : Int) + 3 ≤ (n : Int) + 3 := by omega
  have s5 : l.length + 3 ≤ n + 3 := by omega
  have s6 : l.length ≤ n + 3 := by omega
  have s7 : (l.length : Int) ≤ (n : Int) + 3 := by omega
  have s8 : (0 : Int) ≤ (l.length : Int) := by omega
  have e0 : (l ++ ([0, 0] ++ d)) ++ [0, 0, 0] = l ++ (([0, 0] ++ d) ++ [0, 0, 0]) := by simp
  have hblk1 := hblk
  have hT1 := hT
  rw [e0] at hblk1 hT1
  have hmid := blk_mid (mid := [0, 0] ++ d) hblk1 l.length rfl
  have hcs : (bytesV ([0, 0] ++ d)).length = n - l.length := by simp [bytesV]; omega
  have HB := Lib.hid hblk1
  have HM := Lib.hid hmid
  have HT := Lib.hid hT1
  have HY := Lib.hid hby1
  have HW := Lib.hid hw
  have HO := Lib.hid hoff
  clear hblk hblk1 hmid hT hT1 e0 hby hby1 hv ho hw hoff
  go_still_tail 7, (by kernel_rfl)
  refine wpList_copy_splice (by rfl) (.tmp 17) (.tmp 20) 22 22 (by rfl) 5 Try.underlying22 one8 _ _ _ _ _ _ (by rfl) (by rfl) g (l.length + 3) (bytesV (l ++ (([0, 0] ++ d) ++ [0, 0, 0])) ++ T) 5 (show _ = _ from HB.out) (bytesV ([0, 0] ++ d)) (by rw [hcs]; exact (Nat.min_eq_right (by omega)).symm) (fun _ => ⟨rfl, _, rfl, HM.out⟩) (by rw [hcs, HT.out]; omega) (by simp [bytesV, Value.oneCell']) B w1 ((Below.refl _ _).drew) hg ?_
  intro w2 hh hb2
  have ho2 := own_splice (w := w2) (g := g) (c := c1) (B := B) (l ++ (([0, 0] ++ d) ++ [0, 0, 0])) T ([0, 0] ++ d) (l.length + 3) (by simp; omega) hg (by have := hh.out; simpa [splice, Blk, bytesV] using this) HT.out hcb (by have := HY.out; simpa using this) (by have := HY.out; intro x hx; exact this x (by simp at hx ⊢; rcases hx with h | h; exact .inr (.inl h); exact .inr (.inr (.inl h))))
  have e3 : List.drop (l.length + 3 + ([0, 0] ++ d).length) (l ++ (([0, 0] ++ d) ++ [0, 0, 0])) = [] := List.drop_eq_nil_of_le (by simp; omega)
  have e4 : (l ++ (([0, 0] ++ d) ++ [0, 0, 0])).length = n + 3 := by simp; omega
  rw [e3, List.append_nil, e4] at ho2
  obtain ⟨X, hX, hXl⟩ : ∃ X, List.take (l.length + 3) (l ++ (([0, 0] ++ d) ++ [0, 0, 0])) = l ++ X ∧ X.length = 3 := ⟨List.take 3 (([0, 0] ++ d) ++ [0, 0, 0]), by rw [List.take_length_add_append], by rw [List.length_take]; simp⟩
  rw [hX] at ho2
  obtain ⟨g2, T2, hge, hg2, hblk2, hT2⟩ := ho2.open1 (by omega)
  injection hge with hge; injection hge with hge
  subst hge
  have hsz : (bytesV (l ++ X ++ ([0, 0] ++ d)) ++ T2).toArray.size = c1 := by simpa using hT2
  have hp := fun w' => prefixu32_t g l.length (n + 3 - l.length) (c1 - l.length) 219 m w' (by omega) (by omega)
  have hpf := puts_full [219, (m : Int) / 16777216, (m : Int) / 65536 % 256, (m : Int) / 256 % 256, (m : Int) % 256] w2 l.length _ hblk2 (by rw [hsz]; simp only [List.length_cons, List.length_nil]; omega)
  have hown := own_splice (w := puts w2 g l.length [219, (m : Int) / 16777216, (m : Int) / 65536 % 256, (m : Int) / 256 % 256, (m : Int) % 256]) (g := g) (c := c1) (B := B) (l ++ X ++ ([0, 0] ++ d)) T2 [219, (m : Int) / 16777216, (m : Int) / 65536 % 256, (m : Int) / 256 % 256, (m : Int) % 256] l.length (by simp [hXl] <;> omega) hg (by simpa using hpf) hT2 hcb ho2.vw.byt (by simp; omega)
  have e5 : List.take l.length (l ++ X ++ ([0, 0] ++ d)) = l := by rw [List.append_assoc, List.take_left]
  have e6 : List.drop (l.length + [219, (m : Int) / 16777216, (m : Int) / 65536 % 256, (m : Int) / 256 % 256, (m : Int) % 256].length) (l ++ X ++ ([0, 0] ++ d)) = d := by
    rw [show l ++ X ++ ([0, 0] ++ d) = (l ++ X ++ [0, 0]) ++ d by simp, show l.length + [219, (m : Int) / 16777216, (m : Int) / 65536 % 256, (m : Int) / 256 % 256, (m : Int) % 256].length = (l ++ X ++ [0, 0]).length by simp [hXl], List.drop_left]
  have e7 : (l ++ X ++ ([0, 0] ++ d)).length = n + 3 := by simp [hXl]; omega
  rw [e5, e6, e7] at hown
  have HB2 := Lib.hid hblk2
  have HZ := Lib.hid hsz
  clear hblk2 hsz hT2 hpf e3 e4 e5 e6 e7 hX ho2 hh
  go_wp2_with (go_at_call 33; refine (hp _ _ HB2.out (by omega) (by rw [HZ.out]; omega)).mono ?_; rintro e w3 ⟨rfl, rfl⟩)
  go_ret
  exact ⟨_, _, rfl, hown, (hb1.trans hb2).trans (puts_below hg _ _ _)⟩

end Go.Proofs.Ytcbplfpobpienaa
