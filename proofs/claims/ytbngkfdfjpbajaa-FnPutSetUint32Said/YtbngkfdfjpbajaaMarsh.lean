/- setof's sets: ensure, Msgsize, MarshalMsg. -/
import Derived.Test.YtbngkfdfjpbajaaSetM
import Derived.Test.YtbngkfdfjpbajaaAppsO
import Derived.Test.YtbngkfdfjpbajaaLays
import Derived.Laws.MakeOwn
namespace Go.Proofs.Ytbngkfdfjpbajaa
open Go.RowKit Go.Maps Go.Lib Go.Sort Go.Shelf
set_option linter.unusedVariables false
set_option linter.unusedSimpArgs false

set_option maxHeartbeats 1000000 in
theorem setEnsure_any (B : Nat) (a : Option Addr) (n c : Nat) (l : List Int) (m : Nat) (i : Int) (hi : i = m) (w : World) (hv : O8 w B a n c l) (hB : B ≤ w.heap.size) (hn : n ≤ 1099511627776) (hm2 : m ≤ 1099511627776) :
    Calls Try.prog 18 #[.slice a n c, .int .i64 i] w fun e w' => ∃ a' c', e = .returned (.slice a' n c') ∧ O8 w' B a' n c' l ∧ Below B w w' := by
  subst hi
  have hcn := hv.vw.cap
  have hcb := hv.vw.big
  have hl := hv.vw.len
  by_cases hroom : c < n + m
  · have h1 : ((c : Int) - n < m) := by omega
    obtain ⟨j, hj, hz, hj1, hj2⟩ := info8
    have hbl : (bytesV l).length = n := by simp [bytesV, hl]
    have hmk : (Instr.makeSlice 22 (.int .i64 (n : Int)) (.int .i64 ((n : Int) + (m : Int)))).run Try.prog w = .ok (.slice (some ⟨w.heap.size, 0, none⟩) n (n + m)) (w.alloc (.cells (zrow (n + m)) 5)) := by
      have h := run_make (P := Try.prog) w 22 5 j (.int .u8 0) Try.underlying22 hj hz .i64 .i64 (n : Int) ((n : Int) + m) (by omega) (by omega) (by rw [hj2]; omega) (by omega)
      rw [hj1] at h
      have e1 : ((n : Int) + (m : Int)).toNat = n + m := by omega
      rw [e1] at h
      simpa [zrow] using h
    clear hj hz hj1 hj2
    go_enter Try.func18, Try.ntmps18
    go_wp2_with (refine wpList_copy_splice (by rfl) (.tmp 22) (.tmp 23) 22 22 (by rfl) 5 Try.underlying22 one8 _ _ _ _ _ _ (by rfl) (by rfl) w.heap.size 0 (zrow (n + m)).toList 5 (show _ = _ from Blk.new w 5 _) (bytesV l) (by simp [bytesV, hl]) (fun h0 => ⟨rfl, (hv.vw.alloc _).src h0⟩) (by simp [bytesV, hl, zrow_size]) (by simp [bytesV, Value.oneCell']) B w ((Below.refl _ _).alloc hB _) hB ?_; intro w1 hh hb1)
    go_ret
    refine ⟨_, n + m, rfl, ?_, hb1⟩
    have hr : Room w1 w.heap.size (n + m) l 0 := ⟨_, hh.out, by
      simp only [List.size_toArray]
      rw [length_splice _ _ _ (by simp [bytesV, hl, zrow_size])]
      simp [zrow_size], by omega, by omega, by
      simp only [splice, List.take_zero, List.nil_append]
      rw [← show (bytesV l).length = l.length by simp [bytesV]]
      simp, hv.vw.byt⟩
    have ho := room_own hr B hB [] rfl (by simp)
    simpa [puts, hl] using ho
  · have h1 : ¬ ((c : Int) - n < m) := by omega
    go_enter Try.func18, Try.ntmps18
    go_wp2_with fail
    go_ret
    exact ⟨a, c, rfl, hv, Below.refl _ _⟩

theorem below_none {B : Nat} {a w w' : World} (h : Below B a w) (hg : w.grownBy w' none) (hB : B ≤ a.heap.size := by omega) : Below B a w' := h.grown hg (Nat.le_trans hB h.size) (fun k hk => by cases hk)
theorem u8_fixarr (x : Int) (h0 : 0 ≤ x) (h1 : x < 16) : bits .or .u8 (x % 16) 144 = 144 + x := by
  rw [Int.emod_eq_of_lt h0 h1, u8_or _ 144 (by omega) (by omega) (by omega) (by omega), show (144 : Int).toNat = 144 from rfl, Nat.or_comm, nat_join 4 144 x.toNat (by decide) (by omega)]
  omega

set_option maxHeartbeats 1000000 in
theorem appendArr_1 (u : Int) (h0 : 0 ≤ u) (h1 : u < 16) (B : Nat) (a : Option Addr) (n c : Nat) (l : List Int) (w : World) (hv : O8 w B a n c l) (hB : B ≤ w.heap.size) (hn : n ≤ 1099511627776) :
    Calls Try.prog 17 #[.slice a n c, .int .u32 u] w fun e w' => ∃ a' c', e = .returned (.slice a' (n + 1) c') ∧ O8 w' B a' (n + 1) c' (l ++ [144 + u]) ∧ Below B w w' ∧ Oth a w w' := by
  have hl := Own.lit 5 w [144 + u] (by simp; omega) (by simp)
  have hfix := u8_fixarr u h0 h1
  go_enter Try.func17, Try.ntmps17
  go_wp2_with (first | (at_builtin; refine app8 (by rfl) _ _ (by rfl) B _ n c l (by rfl) (hv.alloc _) _ 1 1 [144 + u] (by rfl) hl.vw (by omega) (by simp <;> omega) ?_; intro a' c' w1 ho hg) | (go_at_call 30; go_in))
  go_wp2_with fail
  go_ret
  refine ⟨a', c', rfl, ho, ?_⟩
  exact ⟨Below.trans (b := w.alloc _) ((Below.refl _ _).alloc hB _) (below_of_grown hg (by simp <;> omega) hv.ge), Oth.grown hg⟩

set_option maxHeartbeats 1000000 in
theorem appendArr_3 (u : Int) (h0 : 16 ≤ u) (h1 : u < 65536) (B : Nat) (a : Option Addr) (n c : Nat) (l : List Int) (w : World) (hv : O8 w B a n c l) (hB : B ≤ w.heap.size) (hn : n ≤ 1099511627776) :
    Calls Try.prog 17 #[.slice a n c, .int .u32 u] w fun e w' => ∃ a' c', e = .returned (.slice a' (n + 3) c') ∧ O8 w' B a' (n + 3) c' (l ++ [220, u / 256, u % 256]) ∧ Below B w w' ∧ Oth a w w' := by
  have hl := hv.vw.len
  go_enter Try.func17, Try.ntmps17
  go_wp2_with (go_at_call 31; refine (ensureO_any B _ _ _ l 3 3 rfl _ hv hB hn (by omega) (by omega)).mono ?_; rintro e w1 ⟨g, c1, rfl, hg, hr, hb1, hot, hgo⟩; obtain ⟨cur, hblk, hcs, hfit, hcb⟩ := hr.blk; have hne : ¬ c1 = n := by omega)
  refine (prefixu16_t g n 3 (c1 - n) 220 _ w1 (by omega) (by omega) cur hblk (by omega) (by omega)).mono ?_
  rintro e w2 ⟨rfl, rfl⟩
  go_wp2_with fail
  go_ret
  have ho := room_own hr B hg [220, u / 256, u % 256] rfl (by simp; omega)
  rw [hl] at ho
  exact ⟨_, _, rfl, ho, hb1.trans (puts_below hg _ _ _), hot.puts hgo hb1.size _ _⟩

/-- The head of an array of k values. -/
def hdA (k : Nat) : List Int := if k < 16 then [144 + (k : Int)] else [220, (k : Int) / 256, (k : Int) % 256]
theorem hdA_len (k : Nat) : 1 ≤ (hdA k).length ∧ (hdA k).length ≤ 3 := by unfold hdA; split <;> simp
theorem apps_arr (k : Nat) (hk : k < 65536) : Apps 17 (.int .u32 (k : Int)) (hdA k) := by
  unfold hdA
  intro B a n c l w hv hB hn
  by_cases h : k < 16
  · rw [if_pos h]; exact appendArr_1 k (by omega) (by omega) B a n c l w hv hB hn
  · rw [if_neg h]; exact appendArr_3 k (by omega) (by omega) B a n c l w hv hB hn

/-- A row of another type outlives what touches one's own bytes alone. -/
theorem owns_oth {w w' : World} {B B' E n c n1 c1 g : Nat} {a : Option Addr} {xs : List Value} {l : List Int} (h : w.ownsRow B' E 1 (.slice (some ⟨g, 0, none⟩) n c) n xs) (ho : O8 w B a n1 c1 l) (hE : E ≠ 5) (hk : Oth a w w') :
    w'.ownsRow B' E 1 (.slice (some ⟨g, 0, none⟩) n c) n xs := by
  refine ⟨h.1, ?_⟩
  rcases h.2 with ⟨h1, _⟩ | ⟨g', cap, cur, hv, hg, hh, r⟩
  · cases h1
  · injection hv with hv1 hv2 hv3
    injection hv1 with hv1
    injection hv1 with hv1
    subst hv1
    subst hv3
    refine .inr ⟨g, c, cur, rfl, hg, ?_, r⟩
    rw [hk g (Array.getElem?_eq_some_iff.1 hh).1 (fun x hx e => ?_)]
    · exact hh
    · rcases ho.row with ⟨h2, _⟩ | ⟨g2, cur2, h2, _, hb, _⟩
      · rw [h2] at hx; cases hx
      · rw [h2] at hx
        injection hx with hx
        subst hx
        simp only at e
        subst e
        unfold Blk at hb
        rw [hh] at hb
        injection hb with hb
        injection hb with _ hb
        exact hE hb

/-- Values' bytes, one by one, as function f appends them and TakePack reads them. -/
def Encs (f : FuncId) (q : IntKind) (kd num : Int → Int) (d : List Int) (es : List (List Int)) : Prop :=
  es.length = d.length ∧ ∀ i (h : i < es.length), 1 ≤ es[i].length ∧ es[i].length ≤ 9 ∧ Reads es[i] (kd (d.getD i 0)) (num (d.getD i 0)) ⟨#[]⟩ 0 ∧ Apps f (.int q (d.getD i 0)) es[i]
theorem encs_of (f : FuncId) (q : IntKind) (kd num : Int → Int) : ∀ d : List Int, (∀ x ∈ d, ∃ enc : List Int, 1 ≤ enc.length ∧ enc.length ≤ 9 ∧ Reads enc (kd x) (num x) ⟨#[]⟩ 0 ∧ Apps f (.int q x) enc) → ∃ es, Encs f q kd num d es
  | [], _ => ⟨[], rfl, fun i h => absurd h (by simp)⟩
  | x :: r, h => by
    obtain ⟨enc, he⟩ := h x (by simp)
    obtain ⟨es, h1, h2⟩ := encs_of f q kd num r (fun y hy => h y (by simp [hy]))
    refine ⟨enc :: es, by simp [h1], fun i hi => ?_⟩
    cases i with
    | zero => simpa using he
    | succ i => simpa using h2 i (by simpa using hi)
theorem flat_le : ∀ (es : List (List Int)), (∀ i (h : i < es.length), es[i].length ≤ 9) → es.flatten.length ≤ es.length * 9
  | [], _ => by simp
  | e :: r, h => by
    have h1 := h 0 (by simp)
    have h2 := flat_le r (fun i hi => by have := h (i + 1) (by simpa using hi); rwa [List.getElem_cons_succ] at this)
    rw [List.getElem_cons_zero] at h1
    rw [List.flatten_cons, List.length_append, List.length_cons]; omega
theorem flat_take (es : List (List Int)) (j : Nat) (h : j < es.length) : (es.take (j + 1)).flatten = (es.take j).flatten ++ es[j] := by
  rw [List.take_add_one, List.getElem?_eq_getElem h, Option.toList_some, List.flatten_append]; simp

theorem mapNn_Uint32 (b : Nat) (w : World) : (binOp .eql 40 (.map (some b)) (.map none)).run Try.prog w = .ok (.bool false) w := by kernel_rfl
theorem cmp_Uint32 (x y : Int) (W : World) : Calls Try.prog 21 #[.int .u32 x, .int .u32 y] W fun e w' => e = .returned (.int .i64 (cmpI x y)) ∧ w' = W := by
  unfold cmpI
  by_cases h : x < y
  · rw [if_pos h]
    go_enter Try.func21, Try.ntmps21
    go_wp2_with fail
    go_ret
    exact ⟨rfl, rfl⟩
  · rw [if_neg h]
    go_enter Try.func21, Try.ntmps21
    go_wp2_with fail
    go_ret
    exact ⟨rfl, rfl⟩
theorem sorts_Uint32 : Sorts 20 21 25 .u32 :=
  sorts_of Try.sort_u32 20 21 rfl 25 .u32 (enters_of Try.func21 (by kernel_rfl) rfl) cmp_Uint32

set_option maxRecDepth 100000 in
set_option maxHeartbeats 1000000 in
theorem msgsize_Uint32 (b : Nat) (xs : List Int) (w : World) (h : SetM 25 .u32 w b xs) (hx : xs.length ≤ 1000) :
    Calls Try.prog 19 #[.map (some b)] w fun e w' => e = .returned (.int .i64 (5 + ((inS xs).length : Int) * 5)) ∧ w' = w := by
  have hle := inS_le xs
  have hsz := size_dSet .u32 xs
  obtain ⟨n, hn⟩ : ∃ n, n = (inS xs).length := ⟨_, rfl⟩
  rw [← hn] at hle hsz ⊢
  have HS := Lib.hid hsz
  clear hsz hn
  have hnn := mapNn_Uint32 b
  go_enter Try.func19, Try.ntmps19
  go_wp2_with (at_len; refine wpList_len_own _ rfl _ 40 rfl 25 _ Try.underlying40 _ b _ _ rfl h ?_; rw [HS.out])
  go_wp2_with fail
  go_ret
  exact ⟨by first | rfl | (simp [IntKind.wrap_i64]; omega), rfl⟩

theorem info_Uint32 : (Try.prog.info? 25).map (fun i => (i.zero, i.size, i.bytes)) = some (some (.int .u32 0), 1, 4) := by kernel_rfl
theorem make0_Uint32 (m : Nat) (hm : m ≤ 1000) (w : World) : ∃ cur : Array Value, cur.size = m ∧ (Instr.makeSlice 23 (.int .i64 0) (.int .i64 (m : Int))).run Try.prog w = .ok (.slice (some ⟨w.heap.size, 0, none⟩) 0 m) (w.alloc (.cells cur 25)) := by
  obtain ⟨j, hj, hz, h1, h2⟩ := info_parts info_Uint32
  have h := run_make (P := Try.prog) w 23 25 j (.int .u32 0) Try.underlying23 hj hz .i64 .i64 0 (m : Int) (by omega) (by omega) (by rw [h2]; omega) (by omega)
  rw [h1] at h
  refine ⟨madeCells (Value.int .u32 0).cells m, size_madeCells _ _, ?_⟩
  simpa using h

/-- AppendUint32. -/
theorem app_Uint32 (x : Int) (h0 : 0 ≤ x) (h1 : x < 4294967296) : ∃ enc : List Int, 1 ≤ enc.length ∧ enc.length ≤ 9 ∧ Reads enc 3 x ⟨#[]⟩ 0 ∧ Apps 22 (.int .u32 x) enc := by
  obtain ⟨enc, a1, a2, _, a4, a5⟩ := apps_uint64 x (by omega) (by omega)
  refine ⟨enc, a1, a2, a4, fun B a n c l w hv hB hn => ?_⟩
  have H := Lib.hid a5
  clear a5 a4
  go_enter Try.func22, Try.ntmps22
  go_wp2_with fail
  refine (H.out _ _ _ _ _ _ hv hB hn).mono ?_
  rintro e w2 ⟨a2', c2, rfl, h2, hb2, hot⟩
  go_wp2_with fail
  go_ret
  exact ⟨a2', c2, rfl, h2, hb2, hot⟩

set_option maxRecDepth 100000 in
set_option maxHeartbeats 4000000 in
theorem marsh_Uint32 (b : Nat) (xs : List Int) (es : List (List Int)) (B : Nat) (a : Option Addr) (n c : Nat) (l : List Int) (w : World) (hm : SetM 25 .u32 w b xs) (h1 : 1 ≤ xs.length) (hx : xs.length ≤ 100) (hwf : ∀ x ∈ xs, (Lit.int .u32 x).wf = true)
    (he : Encs 22 .u32 (fun x => 3) (fun x => x) (inS xs) es) (hv : O8 w B a n c l) (hB : B ≤ w.heap.size) (hbB : b < B) (hn : n ≤ 1099511600000) :
    Calls Try.prog 11 #[.map (some b), .slice a n c] w fun e w' => ∃ a' n' c', e = .returned (.tuple #[.slice a' n' c', .nilIface]) ∧ O8 w' B a' n' c' (l ++ (hdA (inS xs).length ++ es.flatten)) ∧ Below B w w' := by
  have hle := inS_le xs
  have hsz := size_dSet .u32 xs
  have hpos : 1 ≤ (inS xs).length := by
    rcases Nat.eq_zero_or_pos (inS xs).length with h | h
    · have e0 := List.eq_nil_of_length_eq_zero h
      obtain ⟨y, hy⟩ := List.exists_mem_of_length_pos h1
      have := (mem_inS y xs).2 hy
      rw [e0] at this; simp at this
    · exact h
  obtain ⟨m, hmm⟩ : ∃ m, m = (inS xs).length := ⟨_, rfl⟩
  rw [← hmm] at hle hsz hpos ⊢
  have hbl := hm.lt
  have HS := Lib.hid hsz
  have HMM := Lib.hid hmm
  have HM := Lib.hid hm
  have HE := Lib.hid he
  have HV := Lib.hid hv
  have HSZ := Lib.hid (msgsize_Uint32 b xs w hm (by omega))
  rw [← hmm] at HSZ
  clear hsz hmm hm he hv
  have hnn := mapNn_Uint32 b
  have hz : ((m : Int) == 0) = false := by simp; omega
  go_enter Try.func11, Try.ntmps11
  go_wp2_with (at_len; refine wpList_len_own _ rfl _ 40 rfl 25 _ Try.underlying40 _ b _ _ rfl HM.out ?_; rw [HS.out])
  refine HSZ.out.mono ?_
  rintro e w0 ⟨rfl, rfl⟩
  go_wp2_with fail
  refine (setEnsure_any B a n c l (5 + m * 5) _ (by omega) _ HV.out hB (by omega) (by omega)).mono ?_
  rintro e w1 ⟨a1, c1, rfl, ho1, hb1⟩
  have HM1 := Lib.hid (SetM.below HM.out hb1 (by omega))
  have HO1 := Lib.hid ho1
  have HB1 := Lib.hid hb1
  have hs1 := hb1.size
  clear ho1 hb1
  have hmu : IntKind.u32.wrap (m : Int) = m := by simp [IntKind.wrap, IntKind.bits, IntKind.signed]; omega
  go_wp2_with (at_len; refine wpList_len_own _ rfl _ 40 rfl 25 _ Try.underlying40 _ b _ _ rfl HM1.out ?_; rw [HS.out])
  refine (apps_arr m (by omega) B _ _ _ _ _ HO1.out (by omega) (by omega)).mono ?_
  rintro e w2 ⟨a2, c2, rfl, ho2, hb2, _⟩
  have HM2 := Lib.hid (SetM.below HM1.out hb2 (by omega))
  have HO2 := Lib.hid ho2
  have HB2 := Lib.hid (HB1.out.trans hb2)
  have hs2 := hb2.size
  clear ho2 hb2
  obtain ⟨cur, hcur, hmk⟩ := make0_Uint32 m (by omega) w2
  go_wp2_with (first
    | (at_len; refine wpList_len_own _ rfl _ 40 rfl 25 _ Try.underlying40 _ b _ _ rfl HM2.out ?_; rw [HS.out])
    | (at_range; refine wpList_range_own _ rfl _ 40 rfl 25 _ (int_keyed Try.underlying25) Try.underlying40 _ b _ _ rfl (SetM.alloc HM2.out _) ?_; intro w3 hrg3 hg3 hs3))
  go_frame
  obtain ⟨r, hr0⟩ : ∃ r, r = (w2.alloc (.cells cur 25)).heap.size := ⟨_, rfl⟩
  have hr : r = w2.heap.size + 1 := by rw [hr0]; simp
  rw [← hr0] at hrg3 ⊢
  clear hr0
  have hrg4 : w3.ranges Try.prog 25 (unitElem (H := Unit)) b r xs.length (DSet .u32 xs) (has (DSet .u32 xs)) m := by
    rw [HS.out] at hrg3
    exact hrg3
  have hb3 : Below w2.heap.size w2 w3 := below_none ((Below.refl _ _).alloc (Nat.le_refl _) _) hg3
  have hrow3 : w3.ownsRow w2.heap.size 25 1 (.slice (some ⟨w2.heap.size, 0, none⟩) 0 m) 0 [] := (World.ownsRow_made w2 cur m (Nat.le_refl _) (by simp only [maxLen]; omega) (by simpa using hcur)).kept hg3 (Or.inr (by simp [Value.ownBlock]))
  have hs3b := hb3.size
  have HRG := Lib.hid hrg4
  have HRW := Lib.hid hrow3
  have HB3 := Lib.hid hb3
  have HG3 := Lib.hid hg3
  have HCU := Lib.hid hcur
  have HR := Lib.hid hr
  clear hrg3 hrg4 hrow3 hb3 hg3 hs3 hmk hcur hr
  go_loopw [6] (fun v wr => ∃ (left : Lit → Bool) (cnt : Nat) (ks : List Int) (g cap : Nat), v = .slice (some ⟨g, 0, none⟩) ks.length cap ∧ ks.length + cnt ≤ m ∧ Hid (wr.ranges Try.prog 25 (unitElem (H := Unit)) b r xs.length (DSet .u32 xs) left cnt) ∧
      Hid (wr.ownsRow w2.heap.size 25 1 (.slice (some ⟨g, 0, none⟩) ks.length cap) ks.length (ks.map (Value.int .u32))) ∧ Hid (Coll .u32 xs left ks) ∧ Hid (Below w2.heap.size w2 wr)) (fun _ wr => wr.rangeLeft b r)
  case atStart => exact ⟨_, m, [], w2.heap.size, m, rfl, by simp, HRG, Lib.hid HRW.out, Lib.hid (Coll.start _ _), HB3⟩
  case round =>
    obtain ⟨left, cnt, ks, g, cap, rfl, hkc, hrg, hrow, hC, hbr⟩ := hrel
    have hsr := hbr.out.size
    go_wp2_with (at_next; refine wpList_next_ranges _ rfl _ rfl 25 (int_keyed Try.underlying25) (unitElem (H := Unit)) (Value.int .u32) (fun _ : Unit => .agg #[]) (fun key kl hk => by obtain ⟨x, hx, _⟩ := Maps.keyOf_int_inv Try.underlying25 hk; exact ⟨x, hx⟩) (fun v y hv => by obtain ⟨h1, _⟩ := unitElem_inv hv; exact ⟨(), h1⟩) b r xs.length _ _ _ rfl hrg.out ?_ ?_)
    · intro hc0 hl0
      have hkl : ks.length = m := (inS_length hC.out.1 (hC.out.all hl0)).trans HMM.out.symm
      have hsort := sorts_Uint32 w2.heap.size g cap ks wr hrow.out (by omega)
      have HD := Lib.hid (fun d hp hs => inS_of_sorted (d := d) hC.out.1 (hC.out.all hl0) hp hs)
      have HKL := Lib.hid hkl
      have HSO := Lib.hid hsort
      clear hl0 hc0 hkl hsort
      go_wp2_with fail
      refine HSO.out.mono ?_
      rintro e w4 ⟨rfl, d, hp, hs, ho4, hg4⟩
      have hd := HD.out d hp hs
      subst hd
      have hb4 : Below w2.heap.size w2 w4 := hbr.out.grown hg4 hsr (fun k hk => (hrow.out.lt k hk).1)
      have hkb : ks.length < 1000 := by have := HKL.out; omega
      have hs4 := hb4.size
      have hgl : w2.heap.size ≤ g := (hrow.out.lt g rfl).1
      have hcell : ∀ i, i < (inS xs).length → w4.cell? ⟨g, i, none⟩ = some (.int .u32 ((inS xs).getD i 0)) := fun i hi => by
        have := ho4.cells (g := g) rfl i (.int .u32 ((inS xs).getD i 0)) (by simp [List.getD, List.getElem?_eq_getElem hi])
        rwa [Addr.add_lit, Nat.zero_add] at this
      have HO4 := Lib.hid (Own.below hb4 (Nat.le_refl _) HO2.out)
      have HC4 := Lib.hid hcell
      have HB4 := Lib.hid hb4
      have HR4 := Lib.hid ho4
      clear hp hs ho4 hg4 hb4 hcell
      go_wp2_with fail
      go_loopw [1, 45] (fun s i wi => ∃ j : Nat, j ≤ ks.length ∧ i = .int .i64 j ∧ ∃ (aj : Option Addr) (nj cj : Nat), s = .slice aj nj cj ∧ nj ≤ n + 3 + 9 * j ∧ Hid (O8 wi B aj nj cj (l ++ (hdA m ++ (es.take j).flatten))) ∧
        Hid (wi.ownsRow w2.heap.size 25 1 (.slice (some ⟨g, 0, none⟩) ks.length cap) ks.length ((inS xs).map (Value.int .u32))) ∧ Hid (Below B w0 wi)) (fun _ i _ => ks.length - (intOf i).toNat)
      case atStart => exact ⟨0, Nat.zero_le _, rfl, a2, _, c2, rfl, by have := (hdA_len m).2; omega, Lib.hid (by simpa using HO4.out), HR4, Lib.hid (HB2.out.trans (HB4.out.mono (by omega)))⟩
      case round =>
        obtain ⟨j, hj, rfl, aj, nj, cj, rfl, hnj, hoj, hrj, hbj⟩ := hrel
        have hbs := hbj.out.size
        by_cases hlt : j < ks.length
        · have hli : (j : Int) < ks.length := by omega
          have hjm : j < (inS xs).length := by have := HKL.out; have := HMM.out; omega
          have hje : j < es.length := by have := HE.out.1; omega
          obtain ⟨_, he2, _, hap⟩ := HE.out.2 j hje
          have hcj : wr.cell? ⟨g, j, none⟩ = some (.int .u32 ((inS xs).getD j 0)) := by
            have := hrj.out.cells (g := g) rfl j (.int .u32 ((inS xs).getD j 0)) (by simp [List.getD, List.getElem?_eq_getElem hjm])
            rwa [Addr.add_lit, Nat.zero_add] at this
          obtain ⟨y, hy⟩ : ∃ y, y = (inS xs).getD j 0 := ⟨_, rfl⟩
          rw [← hy] at hcj hap
          have HA := Lib.hid hap
          clear hy hap
          go_wp2_with fail
          refine (HA.out B aj nj cj _ wr hoj.out (by omega) (by omega)).mono ?_
          rintro e w6 ⟨a6, c6, rfl, ho6, hb6, hot6⟩
          have HO6 := Lib.hid ho6
          have HR6 := Lib.hid (owns_oth hrj.out hoj.out (by decide) hot6)
          have HB6 := Lib.hid (hbj.out.trans hb6)
          clear ho6 hb6 hot6
          go_wp2_with fail
          go_roundw
          case rel => exact ⟨j + 1, by omega, congrArg (Value.int .i64) (by omega), a6, _, c6, rfl, by omega, Lib.hid (by have := HO6.out; rw [flat_take es j hje]; simpa [List.append_assoc] using this), HR6, HB6⟩
          case measure => first | omega | (simp [intOf]; omega)
        · have hje : j = ks.length := by omega
          subst hje
          go_wp2_with fail
          go_ret2
          refine ⟨aj, nj, cj, rfl, ?_, hbj.out⟩
          have h1 := hoj.out
          rw [List.take_of_length_le (by have := HE.out.1; have := HKL.out; have := HMM.out; omega)] at h1
          exact h1
    · intro x cu kl y w4 cnt2 hkey hlk hvv hat hrg2 hlt hg2 hs2 hen
      obtain ⟨x', ex, rfl, hwx⟩ := Maps.keyOf_int_inv Try.underlying25 hkey
      obtain rfl : x = x' := by injection ex
      have hrow2 := hrow.out.kept hg2 (Or.inr (row_ne_iter hrow.out hrg.out).symm)
      have hb4 : Below w2.heap.size w2 w4 := hbr.out.grown hg2 hsr (fun k hk => by injection hk with hk; have := HR.out; omega)
      have hs4 := hb4.size
      have HRG2 := Lib.hid hrg2
      have HRW2 := Lib.hid hrow2
      have HB4 := Lib.hid hb4
      have HC2 := Lib.hid (hC.out.step hlk hat)
      have HLT := Lib.hid hlt
      clear hs2 hrg2 hrow2 hb4 hlt hlk hat hvv hkey hg2
      go_wp2_with (at_builtin; refine app1 (by rfl) _ _ 23 25 (.int .u32 0) 4 (by rfl) Try.underlying23 info_Uint32 rfl (by omega) w2.heap.size (some ⟨g, 0, none⟩) ks.length cap _ (by rfl) (World.ownsRow.alloc HRW2.out _) w4.heap.size (.int .u32 x) (by rfl) (by rfl) (Blk.new _ _ _) (by omega) (by simp <;> omega) ?_; intro a5 c5 w5 ho5 hg5; go_frame)
      have hrg5 := (HRG2.out.alloc (.cells #[.int .u32 x] 25)).kept hg5 (row_ne_map (World.ownsRow.alloc HRW2.out (.cells #[.int .u32 x] 25)) (HRG2.out.alloc _).owns) (row_ne_iter (World.ownsRow.alloc HRW2.out (.cells #[.int .u32 x] 25)) (HRG2.out.alloc _))
      have hb5 : Below w2.heap.size w2 w5 := (HB4.out.alloc (by omega) _).grown hg5 (by simp; omega) (fun k hk => (HRW2.out.lt k hk).1)
      rcases ho5.2 with ⟨h5, _⟩ | ⟨g5, cap5, cur5, h5, _⟩
      · cases h5
      injection h5 with h6 h7 h8
      subst h6
      subst h8
      have HK := Lib.hid (And.intro ho5 (And.intro hrg5 hb5))
      clear ho5 hrg5 hb5 hg5
      go_roundw
      case rel => exact ⟨_, cnt2, ks ++ [x], g5, c5, by simp, by have := HLT.out; simp; omega, Lib.hid HK.out.2.1, Lib.hid (by simpa using HK.out.1), HC2, Lib.hid HK.out.2.2⟩
      case measure => rw [HK.out.2.1.left_eq, hrg.out.left_eq]; exact HLT.out

theorem mapNn_Int8 (b : Nat) (w : World) : (binOp .eql 51 (.map (some b)) (.map none)).run Try.prog w = .ok (.bool false) w := by kernel_rfl
theorem cmp_Int8 (x y : Int) (W : World) : Calls Try.prog 28 #[.int .i8 x, .int .i8 y] W fun e w' => e = .returned (.int .i64 (cmpI x y)) ∧ w' = W := by
  unfold cmpI
  by_cases h : x < y
  · rw [if_pos h]
    go_enter Try.func28, Try.ntmps28
    go_wp2_with fail
    go_ret
    exact ⟨rfl, rfl⟩
  · rw [if_neg h]
    go_enter Try.func28, Try.ntmps28
    go_wp2_with fail
    go_ret
    exact ⟨rfl, rfl⟩
theorem sorts_Int8 : Sorts 27 28 36 .i8 :=
  sorts_of Try.sort_i8 27 28 rfl 36 .i8 (enters_of Try.func28 (by kernel_rfl) rfl) cmp_Int8

set_option maxRecDepth 100000 in
set_option maxHeartbeats 1000000 in
theorem msgsize_Int8 (b : Nat) (xs : List Int) (w : World) (h : SetM 36 .i8 w b xs) (hx : xs.length ≤ 1000) :
    Calls Try.prog 26 #[.map (some b)] w fun e w' => e = .returned (.int .i64 (5 + ((inS xs).length : Int) * 2)) ∧ w' = w := by
  have hle := inS_le xs
  have hsz := size_dSet .i8 xs
  obtain ⟨n, hn⟩ : ∃ n, n = (inS xs).length := ⟨_, rfl⟩
  rw [← hn] at hle hsz ⊢
  have HS := Lib.hid hsz
  clear hsz hn
  have hnn := mapNn_Int8 b
  go_enter Try.func26, Try.ntmps26
  go_wp2_with (at_len; refine wpList_len_own _ rfl _ 51 rfl 36 _ Try.underlying51 _ b _ _ rfl h ?_; rw [HS.out])
  go_wp2_with fail
  go_ret
  exact ⟨by first | rfl | (simp [IntKind.wrap_i64]; omega), rfl⟩

theorem info_Int8 : (Try.prog.info? 36).map (fun i => (i.zero, i.size, i.bytes)) = some (some (.int .i8 0), 1, 1) := by kernel_rfl
theorem make0_Int8 (m : Nat) (hm : m ≤ 1000) (w : World) : ∃ cur : Array Value, cur.size = m ∧ (Instr.makeSlice 34 (.int .i64 0) (.int .i64 (m : Int))).run Try.prog w = .ok (.slice (some ⟨w.heap.size, 0, none⟩) 0 m) (w.alloc (.cells cur 36)) := by
  obtain ⟨j, hj, hz, h1, h2⟩ := info_parts info_Int8
  have h := run_make (P := Try.prog) w 34 36 j (.int .i8 0) Try.underlying34 hj hz .i64 .i64 0 (m : Int) (by omega) (by omega) (by rw [h2]; omega) (by omega)
  rw [h1] at h
  refine ⟨madeCells (Value.int .i8 0).cells m, size_madeCells _ _, ?_⟩
  simpa using h

/-- AppendInt8. -/
theorem app_Int8 (x : Int) (h0 : -128 ≤ x) (h1 : x < 128) : ∃ enc : List Int, 1 ≤ enc.length ∧ enc.length ≤ 9 ∧ Reads enc (if 0 ≤ x then 3 else 2) (x % 18446744073709551616) ⟨#[]⟩ 0 ∧ Apps 29 (.int .i8 x) enc := by
  obtain ⟨enc, a1, a2, _, a4, a5⟩ := apps_int64 x (by omega) (by omega)
  refine ⟨enc, a1, a2, a4, fun B a n c l w hv hB hn => ?_⟩
  have H := Lib.hid a5
  clear a5 a4
  go_enter Try.func29, Try.ntmps29
  go_wp2_with fail
  refine (H.out _ _ _ _ _ _ hv hB hn).mono ?_
  rintro e w2 ⟨a2', c2, rfl, h2, hb2, hot⟩
  go_wp2_with fail
  go_ret
  exact ⟨a2', c2, rfl, h2, hb2, hot⟩

set_option maxRecDepth 100000 in
set_option maxHeartbeats 4000000 in
theorem marsh_Int8 (b : Nat) (xs : List Int) (es : List (List Int)) (B : Nat) (a : Option Addr) (n c : Nat) (l : List Int) (w : World) (hm : SetM 36 .i8 w b xs) (h1 : 1 ≤ xs.length) (hx : xs.length ≤ 100) (hwf : ∀ x ∈ xs, (Lit.int .i8 x).wf = true)
    (he : Encs 29 .i8 (fun x => (if 0 ≤ x then 3 else 2)) (fun x => (x % 18446744073709551616)) (inS xs) es) (hv : O8 w B a n c l) (hB : B ≤ w.heap.size) (hbB : b < B) (hn : n ≤ 1099511600000) :
    Calls Try.prog 15 #[.map (some b), .slice a n c] w fun e w' => ∃ a' n' c', e = .returned (.tuple #[.slice a' n' c', .nilIface]) ∧ O8 w' B a' n' c' (l ++ (hdA (inS xs).length ++ es.flatten)) ∧ Below B w w' := by
  have hle := inS_le xs
  have hsz := size_dSet .i8 xs
  have hpos : 1 ≤ (inS xs).length := by
    rcases Nat.eq_zero_or_pos (inS xs).length with h | h
    · have e0 := List.eq_nil_of_length_eq_zero h
      obtain ⟨y, hy⟩ := List.exists_mem_of_length_pos h1
      have := (mem_inS y xs).2 hy
      rw [e0] at this; simp at this
    · exact h
  obtain ⟨m, hmm⟩ : ∃ m, m = (inS xs).length := ⟨_, rfl⟩
  rw [← hmm] at hle hsz hpos ⊢
  have hbl := hm.lt
  have HS := Lib.hid hsz
  have HMM := Lib.hid hmm
  have HM := Lib.hid hm
  have HE := Lib.hid he
  have HV := Lib.hid hv
  have HSZ := Lib.hid (msgsize_Int8 b xs w hm (by omega))
  rw [← hmm] at HSZ
  clear hsz hmm hm he hv
  have hnn := mapNn_Int8 b
  have hz : ((m : Int) == 0) = false := by simp; omega
  go_enter Try.func15, Try.ntmps15
  go_wp2_with (at_len; refine wpList_len_own _ rfl _ 51 rfl 36 _ Try.underlying51 _ b _ _ rfl HM.out ?_; rw [HS.out])
  refine HSZ.out.mono ?_
  rintro e w0 ⟨rfl, rfl⟩
  go_wp2_with fail
  refine (setEnsure_any B a n c l (5 + m * 2) _ (by omega) _ HV.out hB (by omega) (by omega)).mono ?_
  rintro e w1 ⟨a1, c1, rfl, ho1, hb1⟩
  have HM1 := Lib.hid (SetM.below HM.out hb1 (by omega))
  have HO1 := Lib.hid ho1
  have HB1 := Lib.hid hb1
  have hs1 := hb1.size
  clear ho1 hb1
  have hmu : IntKind.u32.wrap (m : Int) = m := by simp [IntKind.wrap, IntKind.bits, IntKind.signed]; omega
  go_wp2_with (at_len; refine wpList_len_own _ rfl _ 51 rfl 36 _ Try.underlying51 _ b _ _ rfl HM1.out ?_; rw [HS.out])
  refine (apps_arr m (by omega) B _ _ _ _ _ HO1.out (by omega) (by omega)).mono ?_
  rintro e w2 ⟨a2, c2, rfl, ho2, hb2, _⟩
  have HM2 := Lib.hid (SetM.below HM1.out hb2 (by omega))
  have HO2 := Lib.hid ho2
  have HB2 := Lib.hid (HB1.out.trans hb2)
  have hs2 := hb2.size
  clear ho2 hb2
  obtain ⟨cur, hcur, hmk⟩ := make0_Int8 m (by omega) w2
  go_wp2_with (first
    | (at_len; refine wpList_len_own _ rfl _ 51 rfl 36 _ Try.underlying51 _ b _ _ rfl HM2.out ?_; rw [HS.out])
    | (at_range; refine wpList_range_own _ rfl _ 51 rfl 36 _ (int_keyed Try.underlying36) Try.underlying51 _ b _ _ rfl (SetM.alloc HM2.out _) ?_; intro w3 hrg3 hg3 hs3))
  go_frame
  obtain ⟨r, hr0⟩ : ∃ r, r = (w2.alloc (.cells cur 36)).heap.size := ⟨_, rfl⟩
  have hr : r = w2.heap.size + 1 := by rw [hr0]; simp
  rw [← hr0] at hrg3 ⊢
  clear hr0
  have hrg4 : w3.ranges Try.prog 36 (unitElem (H := Unit)) b r xs.length (DSet .i8 xs) (has (DSet .i8 xs)) m := by
    rw [HS.out] at hrg3
    exact hrg3
  have hb3 : Below w2.heap.size w2 w3 := below_none ((Below.refl _ _).alloc (Nat.le_refl _) _) hg3
  have hrow3 : w3.ownsRow w2.heap.size 36 1 (.slice (some ⟨w2.heap.size, 0, none⟩) 0 m) 0 [] := (World.ownsRow_made w2 cur m (Nat.le_refl _) (by simp only [maxLen]; omega) (by simpa using hcur)).kept hg3 (Or.inr (by simp [Value.ownBlock]))
  have hs3b := hb3.size
  have HRG := Lib.hid hrg4
  have HRW := Lib.hid hrow3
  have HB3 := Lib.hid hb3
  have HG3 := Lib.hid hg3
  have HCU := Lib.hid hcur
  have HR := Lib.hid hr
  clear hrg3 hrg4 hrow3 hb3 hg3 hs3 hmk hcur hr
  go_loopw [6] (fun v wr => ∃ (left : Lit → Bool) (cnt : Nat) (ks : List Int) (g cap : Nat), v = .slice (some ⟨g, 0, none⟩) ks.length cap ∧ ks.length + cnt ≤ m ∧ Hid (wr.ranges Try.prog 36 (unitElem (H := Unit)) b r xs.length (DSet .i8 xs) left cnt) ∧
      Hid (wr.ownsRow w2.heap.size 36 1 (.slice (some ⟨g, 0, none⟩) ks.length cap) ks.length (ks.map (Value.int .i8))) ∧ Hid (Coll .i8 xs left ks) ∧ Hid (Below w2.heap.size w2 wr)) (fun _ wr => wr.rangeLeft b r)
  case atStart => exact ⟨_, m, [], w2.heap.size, m, rfl, by simp, HRG, Lib.hid HRW.out, Lib.hid (Coll.start _ _), HB3⟩
  case round =>
    obtain ⟨left, cnt, ks, g, cap, rfl, hkc, hrg, hrow, hC, hbr⟩ := hrel
    have hsr := hbr.out.size
    go_wp2_with (at_next; refine wpList_next_ranges _ rfl _ rfl 36 (int_keyed Try.underlying36) (unitElem (H := Unit)) (Value.int .i8) (fun _ : Unit => .agg #[]) (fun key kl hk => by obtain ⟨x, hx, _⟩ := Maps.keyOf_int_inv Try.underlying36 hk; exact ⟨x, hx⟩) (fun v y hv => by obtain ⟨h1, _⟩ := unitElem_inv hv; exact ⟨(), h1⟩) b r xs.length _ _ _ rfl hrg.out ?_ ?_)
    · intro hc0 hl0
      have hkl : ks.length = m := (inS_length hC.out.1 (hC.out.all hl0)).trans HMM.out.symm
      have hsort := sorts_Int8 w2.heap.size g cap ks wr hrow.out (by omega)
      have HD := Lib.hid (fun d hp hs => inS_of_sorted (d := d) hC.out.1 (hC.out.all hl0) hp hs)
      have HKL := Lib.hid hkl
      have HSO := Lib.hid hsort
      clear hl0 hc0 hkl hsort
      go_wp2_with fail
      refine HSO.out.mono ?_
      rintro e w4 ⟨rfl, d, hp, hs, ho4, hg4⟩
      have hd := HD.out d hp hs
      subst hd
      have hb4 : Below w2.heap.size w2 w4 := hbr.out.grown hg4 hsr (fun k hk => (hrow.out.lt k hk).1)
      have hkb : ks.length < 1000 := by have := HKL.out; omega
      have hs4 := hb4.size
      have hgl : w2.heap.size ≤ g := (hrow.out.lt g rfl).1
      have hcell : ∀ i, i < (inS xs).length → w4.cell? ⟨g, i, none⟩ = some (.int .i8 ((inS xs).getD i 0)) := fun i hi => by
        have := ho4.cells (g := g) rfl i (.int .i8 ((inS xs).getD i 0)) (by simp [List.getD, List.getElem?_eq_getElem hi])
        rwa [Addr.add_lit, Nat.zero_add] at this
      have HO4 := Lib.hid (Own.below hb4 (Nat.le_refl _) HO2.out)
      have HC4 := Lib.hid hcell
      have HB4 := Lib.hid hb4
      have HR4 := Lib.hid ho4
      clear hp hs ho4 hg4 hb4 hcell
      go_wp2_with fail
      go_loopw [1, 45] (fun s i wi => ∃ j : Nat, j ≤ ks.length ∧ i = .int .i64 j ∧ ∃ (aj : Option Addr) (nj cj : Nat), s = .slice aj nj cj ∧ nj ≤ n + 3 + 9 * j ∧ Hid (O8 wi B aj nj cj (l ++ (hdA m ++ (es.take j).flatten))) ∧
        Hid (wi.ownsRow w2.heap.size 36 1 (.slice (some ⟨g, 0, none⟩) ks.length cap) ks.length ((inS xs).map (Value.int .i8))) ∧ Hid (Below B w0 wi)) (fun _ i _ => ks.length - (intOf i).toNat)
      case atStart => exact ⟨0, Nat.zero_le _, rfl, a2, _, c2, rfl, by have := (hdA_len m).2; omega, Lib.hid (by simpa using HO4.out), HR4, Lib.hid (HB2.out.trans (HB4.out.mono (by omega)))⟩
      case round =>
        obtain ⟨j, hj, rfl, aj, nj, cj, rfl, hnj, hoj, hrj, hbj⟩ := hrel
        have hbs := hbj.out.size
        by_cases hlt : j < ks.length
        · have hli : (j : Int) < ks.length := by omega
          have hjm : j < (inS xs).length := by have := HKL.out; have := HMM.out; omega
          have hje : j < es.length := by have := HE.out.1; omega
          obtain ⟨_, he2, _, hap⟩ := HE.out.2 j hje
          have hcj : wr.cell? ⟨g, j, none⟩ = some (.int .i8 ((inS xs).getD j 0)) := by
            have := hrj.out.cells (g := g) rfl j (.int .i8 ((inS xs).getD j 0)) (by simp [List.getD, List.getElem?_eq_getElem hjm])
            rwa [Addr.add_lit, Nat.zero_add] at this
          obtain ⟨y, hy⟩ : ∃ y, y = (inS xs).getD j 0 := ⟨_, rfl⟩
          rw [← hy] at hcj hap
          have HA := Lib.hid hap
          clear hy hap
          go_wp2_with fail
          refine (HA.out B aj nj cj _ wr hoj.out (by omega) (by omega)).mono ?_
          rintro e w6 ⟨a6, c6, rfl, ho6, hb6, hot6⟩
          have HO6 := Lib.hid ho6
          have HR6 := Lib.hid (owns_oth hrj.out hoj.out (by decide) hot6)
          have HB6 := Lib.hid (hbj.out.trans hb6)
          clear ho6 hb6 hot6
          go_wp2_with fail
          go_roundw
          case rel => exact ⟨j + 1, by omega, congrArg (Value.int .i64) (by omega), a6, _, c6, rfl, by omega, Lib.hid (by have := HO6.out; rw [flat_take es j hje]; simpa [List.append_assoc] using this), HR6, HB6⟩
          case measure => first | omega | (simp [intOf]; omega)
        · have hje : j = ks.length := by omega
          subst hje
          go_wp2_with fail
          go_ret2
          refine ⟨aj, nj, cj, rfl, ?_, hbj.out⟩
          have h1 := hoj.out
          rw [List.take_of_length_le (by have := HE.out.1; have := HKL.out; have := HMM.out; omega)] at h1
          exact h1
    · intro x cu kl y w4 cnt2 hkey hlk hvv hat hrg2 hlt hg2 hs2 hen
      obtain ⟨x', ex, rfl, hwx⟩ := Maps.keyOf_int_inv Try.underlying36 hkey
      obtain rfl : x = x' := by injection ex
      have hrow2 := hrow.out.kept hg2 (Or.inr (row_ne_iter hrow.out hrg.out).symm)
      have hb4 : Below w2.heap.size w2 w4 := hbr.out.grown hg2 hsr (fun k hk => by injection hk with hk; have := HR.out; omega)
      have hs4 := hb4.size
      have HRG2 := Lib.hid hrg2
      have HRW2 := Lib.hid hrow2
      have HB4 := Lib.hid hb4
      have HC2 := Lib.hid (hC.out.step hlk hat)
      have HLT := Lib.hid hlt
      clear hs2 hrg2 hrow2 hb4 hlt hlk hat hvv hkey hg2
      go_wp2_with (at_builtin; refine app1 (by rfl) _ _ 34 36 (.int .i8 0) 1 (by rfl) Try.underlying34 info_Int8 rfl (by omega) w2.heap.size (some ⟨g, 0, none⟩) ks.length cap _ (by rfl) (World.ownsRow.alloc HRW2.out _) w4.heap.size (.int .i8 x) (by rfl) (by rfl) (Blk.new _ _ _) (by omega) (by simp <;> omega) ?_; intro a5 c5 w5 ho5 hg5; go_frame)
      have hrg5 := (HRG2.out.alloc (.cells #[.int .i8 x] 36)).kept hg5 (row_ne_map (World.ownsRow.alloc HRW2.out (.cells #[.int .i8 x] 36)) (HRG2.out.alloc _).owns) (row_ne_iter (World.ownsRow.alloc HRW2.out (.cells #[.int .i8 x] 36)) (HRG2.out.alloc _))
      have hb5 : Below w2.heap.size w2 w5 := (HB4.out.alloc (by omega) _).grown hg5 (by simp; omega) (fun k hk => (HRW2.out.lt k hk).1)
      rcases ho5.2 with ⟨h5, _⟩ | ⟨g5, cap5, cur5, h5, _⟩
      · cases h5
      injection h5 with h6 h7 h8
      subst h6
      subst h8
      have HK := Lib.hid (And.intro ho5 (And.intro hrg5 hb5))
      clear ho5 hrg5 hb5 hg5
      go_roundw
      case rel => exact ⟨_, cnt2, ks ++ [x], g5, c5, by simp, by have := HLT.out; simp; omega, Lib.hid HK.out.2.1, Lib.hid (by simpa using HK.out.1), HC2, Lib.hid HK.out.2.2⟩
      case measure => rw [HK.out.2.1.left_eq, hrg.out.left_eq]; exact HLT.out
end Go.Proofs.Ytbngkfdfjpbajaa
