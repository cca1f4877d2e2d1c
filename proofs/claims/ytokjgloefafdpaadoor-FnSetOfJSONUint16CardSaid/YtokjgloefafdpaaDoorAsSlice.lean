/- setof's sets as slices: AsSlice. -/
import Derived.Test.YtokjgloefafdpaaDoorSetM
import Derived.Test.YtokjgloefafdpaaDoorLays
import Derived.Laws.MakeOwn
namespace Go.Proofs.YtokjgloefafdpaaDoor
open Go.RowKit Go.Maps Go.Lib Go.Sort Go.Shelf
set_option linter.unusedVariables false
set_option linter.unusedSimpArgs false

theorem belowA_none {B : Nat} {a w w' : World} (h : Below B a w) (hg : w.grownBy w' none) (hB : B ≤ a.heap.size := by omega) : Below B a w' := h.grown hg (Nat.le_trans hB h.size) (fun k hk => by cases hk)

/-- What AsSlice gives. -/
def AsSl (F : FuncId) (k : TypeId) (q : IntKind) : Prop := ∀ (b : Nat) (xs : List Int) (w : World), SetM k q w b xs → xs.length ≤ 100 → (∀ x ∈ xs, (Lit.int q x).wf = true) →
  Calls Tryd.prog F #[.map (some b)] w fun e w' => ∃ g c, e = .returned (.slice (some ⟨g, 0, none⟩) (inS xs).length c) ∧ w'.ownsRow w.heap.size k 1 (.slice (some ⟨g, 0, none⟩) (inS xs).length c) (inS xs).length ((inS xs).map (Value.int q)) ∧ Below w.heap.size w w'

theorem mapNnA_Uint16 (b : Nat) (w : World) : (binOp .eql 84 (.map (some b)) (.map none)).run Tryd.prog w = .ok (.bool false) w := by kernel_rfl
theorem cmpA_Uint16 (x y : Int) (W : World) : Calls Tryd.prog 56 #[.int .u16 x, .int .u16 y] W fun e w' => e = .returned (.int .i64 (cmpI x y)) ∧ w' = W := by
  unfold cmpI
  by_cases h : x < y
  · rw [if_pos h]
    go_enter Tryd.func56, Tryd.ntmps56
    go_wp2_with fail
    go_ret
    exact ⟨rfl, rfl⟩
  · rw [if_neg h]
    go_enter Tryd.func56, Tryd.ntmps56
    go_wp2_with fail
    go_ret
    exact ⟨rfl, rfl⟩
theorem sortsA_Uint16 : Sorts 55 56 53 .u16 :=
  sorts_of Tryd.sort_uint16 55 56 rfl 53 .u16 (enters_of Tryd.func56 (by kernel_rfl) rfl) cmpA_Uint16
theorem infoA_Uint16 : (Tryd.prog.info? 53).map (fun i => (i.zero, i.size, i.bytes)) = some (some (.int .u16 0), 1, 2) := by kernel_rfl
theorem makeA_Uint16 (m : Nat) (hm : m ≤ 1000) (w : World) : ∃ cur : Array Value, cur.size = m ∧ (Instr.makeSlice 50 (.int .i64 0) (.int .i64 (m : Int))).run Tryd.prog w = .ok (.slice (some ⟨w.heap.size, 0, none⟩) 0 m) (w.alloc (.cells cur 53)) := by
  obtain ⟨j, hj, hz, h1, h2⟩ := info_parts infoA_Uint16
  have h := run_make (P := Tryd.prog) w 50 53 j (.int .u16 0) Tryd.underlying50 hj hz .i64 .i64 0 (m : Int) (by omega) (by omega) (by rw [h2]; omega) (by omega)
  rw [h1] at h
  refine ⟨madeCells (Value.int .u16 0).cells m, size_madeCells _ _, ?_⟩
  simpa using h

set_option maxRecDepth 100000 in
set_option maxHeartbeats 4000000 in
theorem asSlice_Uint16 : AsSl 35 53 .u16 := by
  intro b xs w2 hm hx hwf
  have hle := inS_le xs
  have hsz := size_dSet .u16 xs
  obtain ⟨m, hmm⟩ : ∃ m, m = (inS xs).length := ⟨_, rfl⟩
  rw [← hmm] at hle hsz ⊢
  have hbl := hm.lt
  have HS := Lib.hid hsz
  have HMM := Lib.hid hmm
  have HM2 := Lib.hid hm
  clear hsz hmm hm
  have hnn := mapNnA_Uint16 b
  obtain ⟨cur, hcur, hmk⟩ := makeA_Uint16 m (by omega) w2
  go_enter Tryd.func35, Tryd.ntmps35
  go_wp2_with (first
    | (at_len; refine wpList_len_own _ rfl _ 84 rfl 53 _ Tryd.underlying84 _ b _ _ rfl HM2.out ?_; rw [HS.out])
    | (at_range; refine wpList_range_own _ rfl _ 84 rfl 53 _ (int_keyed Tryd.underlying53) Tryd.underlying84 _ b _ _ rfl (SetM.alloc HM2.out _) ?_; intro w3 hrg3 hg3 hs3))
  go_frame
  obtain ⟨r, hr0⟩ : ∃ r, r = (w2.alloc (.cells cur 53)).heap.size := ⟨_, rfl⟩
  have hr : r = w2.heap.size + 1 := by rw [hr0]; simp
  rw [← hr0] at hrg3 ⊢
  clear hr0
  have hrg4 : w3.ranges Tryd.prog 53 (unitElem (H := Unit)) b r xs.length (DSet .u16 xs) (has (DSet .u16 xs)) m := by
    rw [HS.out] at hrg3
    exact hrg3
  have hb3 : Below w2.heap.size w2 w3 := belowA_none ((Below.refl _ _).alloc (Nat.le_refl _) _) hg3
  have hrow3 : w3.ownsRow w2.heap.size 53 1 (.slice (some ⟨w2.heap.size, 0, none⟩) 0 m) 0 [] := (World.ownsRow_made w2 cur m (Nat.le_refl _) (by simp only [maxLen]; omega) (by simpa using hcur)).kept hg3 (Or.inr (by simp [Value.ownBlock]))
  have hs3b := hb3.size
  have HRG := Lib.hid hrg4
  have HRW := Lib.hid hrow3
  have HB3 := Lib.hid hb3
  have HCU := Lib.hid hcur
  have HR := Lib.hid hr
  clear hrg3 hrg4 hrow3 hb3 hg3 hs3 hmk hcur hr
  go_loopw [3] (fun v wr => ∃ (left : Lit → Bool) (cnt : Nat) (ks : List Int) (g cap : Nat), v = .slice (some ⟨g, 0, none⟩) ks.length cap ∧ ks.length + cnt ≤ m ∧ Hid (wr.ranges Tryd.prog 53 (unitElem (H := Unit)) b r xs.length (DSet .u16 xs) left cnt) ∧
      Hid (wr.ownsRow w2.heap.size 53 1 (.slice (some ⟨g, 0, none⟩) ks.length cap) ks.length (ks.map (Value.int .u16))) ∧ Hid (Coll .u16 xs left ks) ∧ Hid (Below w2.heap.size w2 wr)) (fun _ wr => wr.rangeLeft b r)
  case atStart => exact ⟨_, m, [], w2.heap.size, m, rfl, by simp, HRG, Lib.hid HRW.out, Lib.hid (Coll.start _ _), HB3⟩
  case round =>
    obtain ⟨left, cnt, ks, g, cap, rfl, hkc, hrg, hrow, hC, hbr⟩ := hrel
    have hsr := hbr.out.size
    go_wp2_with (at_next; refine wpList_next_ranges _ rfl _ rfl 53 (int_keyed Tryd.underlying53) (unitElem (H := Unit)) (Value.int .u16) (fun _ : Unit => .agg #[]) (fun key kl hk => by obtain ⟨x, hx, _⟩ := Maps.keyOf_int_inv Tryd.underlying53 hk; exact ⟨x, hx⟩) (fun v y hv => by obtain ⟨h1, _⟩ := unitElem_inv hv; exact ⟨(), h1⟩) b r xs.length _ _ _ rfl hrg.out ?_ ?_)
    · intro hc0 hl0
      have hkl : ks.length = m := (inS_length hC.out.1 (hC.out.all hl0)).trans HMM.out.symm
      have hsort := sortsA_Uint16 w2.heap.size g cap ks wr hrow.out (by omega)
      have HD := Lib.hid (fun d hp hs => inS_of_sorted (d := d) hC.out.1 (hC.out.all hl0) hp hs)
      have HKL := Lib.hid hkl
      have HSO := Lib.hid hsort
      clear hl0 hc0 hkl hsort
      go_wp2_with fail
      refine HSO.out.mono ?_
      rintro e w4 ⟨rfl, d, hp, hs, ho4, hg4⟩
      have hd := HD.out d hp hs
      subst hd
      have hb4 : Below w2.heap.size w2 w4 := hbr.out.grown hg4 hsr (fun k hk => (hrow.out.lt k hk).1)
      have HO := Lib.hid (And.intro ho4 hb4)
      clear hp hs ho4 hg4 hb4
      go_wp2_with fail
      go_ret
      have h1 := HO.out.1
      rw [HKL.out] at h1
      exact ⟨g, cap, by rw [HKL.out]; rfl, h1, HO.out.2⟩
    · intro x cu kl y w4 cnt2 hkey hlk hvv hat hrg2 hlt hg2 hs2 hen
      obtain ⟨x', ex, rfl, hwx⟩ := Maps.keyOf_int_inv Tryd.underlying53 hkey
      obtain rfl : x = x' := by injection ex
      have hrow2 := hrow.out.kept hg2 (Or.inr (row_ne_iter hrow.out hrg.out).symm)
      have hb4 : Below w2.heap.size w2 w4 := hbr.out.grown hg2 hsr (fun k hk => by injection hk with hk; have := HR.out; omega)
      have hs4 := hb4.size
      have HRG2 := Lib.hid hrg2
      have HRW2 := Lib.hid hrow2
      have HB4 := Lib.hid hb4
      have HC2 := Lib.hid (hC.out.step hlk hat)
      have HLT := Lib.hid hlt
      clear hs2 hrg2 hrow2 hb4 hlt hlk hat hvv hkey hg2
      go_wp2_with (at_builtin; refine app1 (by rfl) _ _ 50 53 (.int .u16 0) 2 (by rfl) Tryd.underlying50 infoA_Uint16 rfl (by omega) w2.heap.size (some ⟨g, 0, none⟩) ks.length cap _ (by rfl) (World.ownsRow.alloc HRW2.out _) w4.heap.size (.int .u16 x) (by rfl) (by rfl) (Blk.new _ _ _) (by omega) (by simp <;> omega) ?_; intro a5 c5 w5 ho5 hg5; go_frame)
      have hrg5 := (HRG2.out.alloc (.cells #[.int .u16 x] 53)).kept hg5 (row_ne_map (World.ownsRow.alloc HRW2.out (.cells #[.int .u16 x] 53)) (HRG2.out.alloc _).owns) (row_ne_iter (World.ownsRow.alloc HRW2.out (.cells #[.int .u16 x] 53)) (HRG2.out.alloc _))
      have hb5 : Below w2.heap.size w2 w5 := (HB4.out.alloc (by omega) _).grown hg5 (by simp; omega) (fun k hk => (HRW2.out.lt k hk).1)
      rcases ho5.2 with ⟨h5, _⟩ | ⟨g5, cap5, cur5, h5, _⟩
      · cases h5
      injection h5 with h6 h7 h8
      subst h6
      subst h8
      have HK := Lib.hid (And.intro ho5 (And.intro hrg5 hb5))
      clear ho5 hrg5 hb5 hg5
      go_roundw
      case rel => exact ⟨_, cnt2, ks ++ [x], g5, c5, by simp, by have := HLT.out; simp; omega, Lib.hid HK.out.2.1, Lib.hid (by simpa using HK.out.1), HC2, Lib.hid HK.out.2.2⟩
      case measure => rw [HK.out.2.1.left_eq, hrg.out.left_eq]; exact HLT.out

theorem mapNnA_Uint (b : Nat) (w : World) : (binOp .eql 79 (.map (some b)) (.map none)).run Tryd.prog w = .ok (.bool false) w := by kernel_rfl
theorem cmpA_Uint (x y : Int) (W : World) : Calls Tryd.prog 52 #[.int .u64 x, .int .u64 y] W fun e w' => e = .returned (.int .i64 (cmpI x y)) ∧ w' = W := by
  unfold cmpI
  by_cases h : x < y
  · rw [if_pos h]
    go_enter Tryd.func52, Tryd.ntmps52
    go_wp2_with fail
    go_ret
    exact ⟨rfl, rfl⟩
  · rw [if_neg h]
    go_enter Tryd.func52, Tryd.ntmps52
    go_wp2_with fail
    go_ret
    exact ⟨rfl, rfl⟩
theorem sortsA_Uint : Sorts 51 52 69 .u64 :=
  sorts_of Tryd.sort_uint 51 52 rfl 69 .u64 (enters_of Tryd.func52 (by kernel_rfl) rfl) cmpA_Uint
theorem infoA_Uint : (Tryd.prog.info? 69).map (fun i => (i.zero, i.size, i.bytes)) = some (some (.int .u64 0), 1, 8) := by kernel_rfl
theorem makeA_Uint (m : Nat) (hm : m ≤ 1000) (w : World) : ∃ cur : Array Value, cur.size = m ∧ (Instr.makeSlice 81 (.int .i64 0) (.int .i64 (m : Int))).run Tryd.prog w = .ok (.slice (some ⟨w.heap.size, 0, none⟩) 0 m) (w.alloc (.cells cur 69)) := by
  obtain ⟨j, hj, hz, h1, h2⟩ := info_parts infoA_Uint
  have h := run_make (P := Tryd.prog) w 81 69 j (.int .u64 0) Tryd.underlying81 hj hz .i64 .i64 0 (m : Int) (by omega) (by omega) (by rw [h2]; omega) (by omega)
  rw [h1] at h
  refine ⟨madeCells (Value.int .u64 0).cells m, size_madeCells _ _, ?_⟩
  simpa using h

set_option maxRecDepth 100000 in
set_option maxHeartbeats 4000000 in
theorem asSlice_Uint : AsSl 33 69 .u64 := by
  intro b xs w2 hm hx hwf
  have hle := inS_le xs
  have hsz := size_dSet .u64 xs
  obtain ⟨m, hmm⟩ : ∃ m, m = (inS xs).length := ⟨_, rfl⟩
  rw [← hmm] at hle hsz ⊢
  have hbl := hm.lt
  have HS := Lib.hid hsz
  have HMM := Lib.hid hmm
  have HM2 := Lib.hid hm
  clear hsz hmm hm
  have hnn := mapNnA_Uint b
  obtain ⟨cur, hcur, hmk⟩ := makeA_Uint m (by omega) w2
  go_enter Tryd.func33, Tryd.ntmps33
  go_wp2_with (first
    | (at_len; refine wpList_len_own _ rfl _ 79 rfl 69 _ Tryd.underlying79 _ b _ _ rfl HM2.out ?_; rw [HS.out])
    | (at_range; refine wpList_range_own _ rfl _ 79 rfl 69 _ (int_keyed Tryd.underlying69) Tryd.underlying79 _ b _ _ rfl (SetM.alloc HM2.out _) ?_; intro w3 hrg3 hg3 hs3))
  go_frame
  obtain ⟨r, hr0⟩ : ∃ r, r = (w2.alloc (.cells cur 69)).heap.size := ⟨_, rfl⟩
  have hr : r = w2.heap.size + 1 := by rw [hr0]; simp
  rw [← hr0] at hrg3 ⊢
  clear hr0
  have hrg4 : w3.ranges Tryd.prog 69 (unitElem (H := Unit)) b r xs.length (DSet .u64 xs) (has (DSet .u64 xs)) m := by
    rw [HS.out] at hrg3
    exact hrg3
  have hb3 : Below w2.heap.size w2 w3 := belowA_none ((Below.refl _ _).alloc (Nat.le_refl _) _) hg3
  have hrow3 : w3.ownsRow w2.heap.size 69 1 (.slice (some ⟨w2.heap.size, 0, none⟩) 0 m) 0 [] := (World.ownsRow_made w2 cur m (Nat.le_refl _) (by simp only [maxLen]; omega) (by simpa using hcur)).kept hg3 (Or.inr (by simp [Value.ownBlock]))
  have hs3b := hb3.size
  have HRG := Lib.hid hrg4
  have HRW := Lib.hid hrow3
  have HB3 := Lib.hid hb3
  have HCU := Lib.hid hcur
  have HR := Lib.hid hr
  clear hrg3 hrg4 hrow3 hb3 hg3 hs3 hmk hcur hr
  go_loopw [3] (fun v wr => ∃ (left : Lit → Bool) (cnt : Nat) (ks : List Int) (g cap : Nat), v = .slice (some ⟨g, 0, none⟩) ks.length cap ∧ ks.length + cnt ≤ m ∧ Hid (wr.ranges Tryd.prog 69 (unitElem (H := Unit)) b r xs.length (DSet .u64 xs) left cnt) ∧
      Hid (wr.ownsRow w2.heap.size 69 1 (.slice (some ⟨g, 0, none⟩) ks.length cap) ks.length (ks.map (Value.int .u64))) ∧ Hid (Coll .u64 xs left ks) ∧ Hid (Below w2.heap.size w2 wr)) (fun _ wr => wr.rangeLeft b r)
  case atStart => exact ⟨_, m, [], w2.heap.size, m, rfl, by simp, HRG, Lib.hid HRW.out, Lib.hid (Coll.start _ _), HB3⟩
  case round =>
    obtain ⟨left, cnt, ks, g, cap, rfl, hkc, hrg, hrow, hC, hbr⟩ := hrel
    have hsr := hbr.out.size
    go_wp2_with (at_next; refine wpList_next_ranges _ rfl _ rfl 69 (int_keyed Tryd.underlying69) (unitElem (H := Unit)) (Value.int .u64) (fun _ : Unit => .agg #[]) (fun key kl hk => by obtain ⟨x, hx, _⟩ := Maps.keyOf_int_inv Tryd.underlying69 hk; exact ⟨x, hx⟩) (fun v y hv => by obtain ⟨h1, _⟩ := unitElem_inv hv; exact ⟨(), h1⟩) b r xs.length _ _ _ rfl hrg.out ?_ ?_)
    · intro hc0 hl0
      have hkl : ks.length = m := (inS_length hC.out.1 (hC.out.all hl0)).trans HMM.out.symm
      have hsort := sortsA_Uint w2.heap.size g cap ks wr hrow.out (by omega)
      have HD := Lib.hid (fun d hp hs => inS_of_sorted (d := d) hC.out.1 (hC.out.all hl0) hp hs)
      have HKL := Lib.hid hkl
      have HSO := Lib.hid hsort
      clear hl0 hc0 hkl hsort
      go_wp2_with fail
      refine HSO.out.mono ?_
      rintro e w4 ⟨rfl, d, hp, hs, ho4, hg4⟩
      have hd := HD.out d hp hs
      subst hd
      have hb4 : Below w2.heap.size w2 w4 := hbr.out.grown hg4 hsr (fun k hk => (hrow.out.lt k hk).1)
      have HO := Lib.hid (And.intro ho4 hb4)
      clear hp hs ho4 hg4 hb4
      go_wp2_with fail
      go_ret
      have h1 := HO.out.1
      rw [HKL.out] at h1
      exact ⟨g, cap, by rw [HKL.out]; rfl, h1, HO.out.2⟩
    · intro x cu kl y w4 cnt2 hkey hlk hvv hat hrg2 hlt hg2 hs2 hen
      obtain ⟨x', ex, rfl, hwx⟩ := Maps.keyOf_int_inv Tryd.underlying69 hkey
      obtain rfl : x = x' := by injection ex
      have hrow2 := hrow.out.kept hg2 (Or.inr (row_ne_iter hrow.out hrg.out).symm)
      have hb4 : Below w2.heap.size w2 w4 := hbr.out.grown hg2 hsr (fun k hk => by injection hk with hk; have := HR.out; omega)
      have hs4 := hb4.size
      have HRG2 := Lib.hid hrg2
      have HRW2 := Lib.hid hrow2
      have HB4 := Lib.hid hb4
      have HC2 := Lib.hid (hC.out.step hlk hat)
      have HLT := Lib.hid hlt
      clear hs2 hrg2 hrow2 hb4 hlt hlk hat hvv hkey hg2
      go_wp2_with (at_builtin; refine app1 (by rfl) _ _ 81 69 (.int .u64 0) 8 (by rfl) Tryd.underlying81 infoA_Uint rfl (by omega) w2.heap.size (some ⟨g, 0, none⟩) ks.length cap _ (by rfl) (World.ownsRow.alloc HRW2.out _) w4.heap.size (.int .u64 x) (by rfl) (by rfl) (Blk.new _ _ _) (by omega) (by simp <;> omega) ?_; intro a5 c5 w5 ho5 hg5; go_frame)
      have hrg5 := (HRG2.out.alloc (.cells #[.int .u64 x] 69)).kept hg5 (row_ne_map (World.ownsRow.alloc HRW2.out (.cells #[.int .u64 x] 69)) (HRG2.out.alloc _).owns) (row_ne_iter (World.ownsRow.alloc HRW2.out (.cells #[.int .u64 x] 69)) (HRG2.out.alloc _))
      have hb5 : Below w2.heap.size w2 w5 := (HB4.out.alloc (by omega) _).grown hg5 (by simp; omega) (fun k hk => (HRW2.out.lt k hk).1)
      rcases ho5.2 with ⟨h5, _⟩ | ⟨g5, cap5, cur5, h5, _⟩
      · cases h5
      injection h5 with h6 h7 h8
      subst h6
      subst h8
      have HK := Lib.hid (And.intro ho5 (And.intro hrg5 hb5))
      clear ho5 hrg5 hb5 hg5
      go_roundw
      case rel => exact ⟨_, cnt2, ks ++ [x], g5, c5, by simp, by have := HLT.out; simp; omega, Lib.hid HK.out.2.1, Lib.hid (by simpa using HK.out.1), HC2, Lib.hid HK.out.2.2⟩
      case measure => rw [HK.out.2.1.left_eq, hrg.out.left_eq]; exact HLT.out

theorem mapNnA_Uint8 (b : Nat) (w : World) : (binOp .eql 75 (.map (some b)) (.map none)).run Tryd.prog w = .ok (.bool false) w := by kernel_rfl
theorem cmpA_Uint8 (x y : Int) (W : World) : Calls Tryd.prog 64 #[.int .u8 x, .int .u8 y] W fun e w' => e = .returned (.int .i64 (cmpI x y)) ∧ w' = W := by
  unfold cmpI
  by_cases h : x < y
  · rw [if_pos h]
    go_enter Tryd.func64, Tryd.ntmps64
    go_wp2_with fail
    go_ret
    exact ⟨rfl, rfl⟩
  · rw [if_neg h]
    go_enter Tryd.func64, Tryd.ntmps64
    go_wp2_with fail
    go_ret
    exact ⟨rfl, rfl⟩
theorem sortsA_Uint8 : Sorts 63 64 5 .u8 :=
  sorts_of Tryd.sort_uint8 63 64 rfl 5 .u8 (enters_of Tryd.func64 (by kernel_rfl) rfl) cmpA_Uint8
theorem infoA_Uint8 : (Tryd.prog.info? 5).map (fun i => (i.zero, i.size, i.bytes)) = some (some (.int .u8 0), 1, 1) := by kernel_rfl
theorem makeA_Uint8 (m : Nat) (hm : m ≤ 1000) (w : World) : ∃ cur : Array Value, cur.size = m ∧ (Instr.makeSlice 34 (.int .i64 0) (.int .i64 (m : Int))).run Tryd.prog w = .ok (.slice (some ⟨w.heap.size, 0, none⟩) 0 m) (w.alloc (.cells cur 5)) := by
  obtain ⟨j, hj, hz, h1, h2⟩ := info_parts infoA_Uint8
  have h := run_make (P := Tryd.prog) w 34 5 j (.int .u8 0) Tryd.underlying34 hj hz .i64 .i64 0 (m : Int) (by omega) (by omega) (by rw [h2]; omega) (by omega)
  rw [h1] at h
  refine ⟨madeCells (Value.int .u8 0).cells m, size_madeCells _ _, ?_⟩
  simpa using h

set_option maxRecDepth 100000 in
set_option maxHeartbeats 4000000 in
theorem asSlice_Uint8 : AsSl 43 5 .u8 := by
  intro b xs w2 hm hx hwf
  have hle := inS_le xs
  have hsz := size_dSet .u8 xs
  obtain ⟨m, hmm⟩ : ∃ m, m = (inS xs).length := ⟨_, rfl⟩
  rw [← hmm] at hle hsz ⊢
  have hbl := hm.lt
  have HS := Lib.hid hsz
  have HMM := Lib.hid hmm
  have HM2 := Lib.hid hm
  clear hsz hmm hm
  have hnn := mapNnA_Uint8 b
  obtain ⟨cur, hcur, hmk⟩ := makeA_Uint8 m (by omega) w2
  go_enter Tryd.func43, Tryd.ntmps43
  go_wp2_with (first
    | (at_len; refine wpList_len_own _ rfl _ 75 rfl 5 _ Tryd.underlying75 _ b _ _ rfl HM2.out ?_; rw [HS.out])
    | (at_range; refine wpList_range_own _ rfl _ 75 rfl 5 _ (int_keyed Tryd.underlying5) Tryd.underlying75 _ b _ _ rfl (SetM.alloc HM2.out _) ?_; intro w3 hrg3 hg3 hs3))
  go_frame
  obtain ⟨r, hr0⟩ : ∃ r, r = (w2.alloc (.cells cur 5)).heap.size := ⟨_, rfl⟩
  have hr : r = w2.heap.size + 1 := by rw [hr0]; simp
  rw [← hr0] at hrg3 ⊢
  clear hr0
  have hrg4 : w3.ranges Tryd.prog 5 (unitElem (H := Unit)) b r xs.length (DSet .u8 xs) (has (DSet .u8 xs)) m := by
    rw [HS.out] at hrg3
    exact hrg3
  have hb3 : Below w2.heap.size w2 w3 := belowA_none ((Below.refl _ _).alloc (Nat.le_refl _) _) hg3
  have hrow3 : w3.ownsRow w2.heap.size 5 1 (.slice (some ⟨w2.heap.size, 0, none⟩) 0 m) 0 [] := (World.ownsRow_made w2 cur m (Nat.le_refl _) (by simp only [maxLen]; omega) (by simpa using hcur)).kept hg3 (Or.inr (by simp [Value.ownBlock]))
  have hs3b := hb3.size
  have HRG := Lib.hid hrg4
  have HRW := Lib.hid hrow3
  have HB3 := Lib.hid hb3
  have HCU := Lib.hid hcur
  have HR := Lib.hid hr
  clear hrg3 hrg4 hrow3 hb3 hg3 hs3 hmk hcur hr
  go_loopw [3] (fun v wr => ∃ (left : Lit → Bool) (cnt : Nat) (ks : List Int) (g cap : Nat), v = .slice (some ⟨g, 0, none⟩) ks.length cap ∧ ks.length + cnt ≤ m ∧ Hid (wr.ranges Tryd.prog 5 (unitElem (H := Unit)) b r xs.length (DSet .u8 xs) left cnt) ∧
      Hid (wr.ownsRow w2.heap.size 5 1 (.slice (some ⟨g, 0, none⟩) ks.length cap) ks.length (ks.map (Value.int .u8))) ∧ Hid (Coll .u8 xs left ks) ∧ Hid (Below w2.heap.size w2 wr)) (fun _ wr => wr.rangeLeft b r)
  case atStart => exact ⟨_, m, [], w2.heap.size, m, rfl, by simp, HRG, Lib.hid HRW.out, Lib.hid (Coll.start _ _), HB3⟩
  case round =>
    obtain ⟨left, cnt, ks, g, cap, rfl, hkc, hrg, hrow, hC, hbr⟩ := hrel
    have hsr := hbr.out.size
    go_wp2_with (at_next; refine wpList_next_ranges _ rfl _ rfl 5 (int_keyed Tryd.underlying5) (unitElem (H := Unit)) (Value.int .u8) (fun _ : Unit => .agg #[]) (fun key kl hk => by obtain ⟨x, hx, _⟩ := Maps.keyOf_int_inv Tryd.underlying5 hk; exact ⟨x, hx⟩) (fun v y hv => by obtain ⟨h1, _⟩ := unitElem_inv hv; exact ⟨(), h1⟩) b r xs.length _ _ _ rfl hrg.out ?_ ?_)
    · intro hc0 hl0
      have hkl : ks.length = m := (inS_length hC.out.1 (hC.out.all hl0)).trans HMM.out.symm
      have hsort := sortsA_Uint8 w2.heap.size g cap ks wr hrow.out (by omega)
      have HD := Lib.hid (fun d hp hs => inS_of_sorted (d := d) hC.out.1 (hC.out.all hl0) hp hs)
      have HKL := Lib.hid hkl
      have HSO := Lib.hid hsort
      clear hl0 hc0 hkl hsort
      go_wp2_with fail
      refine HSO.out.mono ?_
      rintro e w4 ⟨rfl, d, hp, hs, ho4, hg4⟩
      have hd := HD.out d hp hs
      subst hd
      have hb4 : Below w2.heap.size w2 w4 := hbr.out.grown hg4 hsr (fun k hk => (hrow.out.lt k hk).1)
      have HO := Lib.hid (And.intro ho4 hb4)
      clear hp hs ho4 hg4 hb4
      go_wp2_with fail
      go_ret
      have h1 := HO.out.1
      rw [HKL.out] at h1
      exact ⟨g, cap, by rw [HKL.out]; rfl, h1, HO.out.2⟩
    · intro x cu kl y w4 cnt2 hkey hlk hvv hat hrg2 hlt hg2 hs2 hen
      obtain ⟨x', ex, rfl, hwx⟩ := Maps.keyOf_int_inv Tryd.underlying5 hkey
      obtain rfl : x = x' := by injection ex
      have hrow2 := hrow.out.kept hg2 (Or.inr (row_ne_iter hrow.out hrg.out).symm)
      have hb4 : Below w2.heap.size w2 w4 := hbr.out.grown hg2 hsr (fun k hk => by injection hk with hk; have := HR.out; omega)
      have hs4 := hb4.size
      have HRG2 := Lib.hid hrg2
      have HRW2 := Lib.hid hrow2
      have HB4 := Lib.hid hb4
      have HC2 := Lib.hid (hC.out.step hlk hat)
      have HLT := Lib.hid hlt
      clear hs2 hrg2 hrow2 hb4 hlt hlk hat hvv hkey hg2
      go_wp2_with (at_builtin; refine app1 (by rfl) _ _ 34 5 (.int .u8 0) 1 (by rfl) Tryd.underlying34 infoA_Uint8 rfl (by omega) w2.heap.size (some ⟨g, 0, none⟩) ks.length cap _ (by rfl) (World.ownsRow.alloc HRW2.out _) w4.heap.size (.int .u8 x) (by rfl) (by rfl) (Blk.new _ _ _) (by omega) (by simp <;> omega) ?_; intro a5 c5 w5 ho5 hg5; go_frame)
      have hrg5 := (HRG2.out.alloc (.cells #[.int .u8 x] 5)).kept hg5 (row_ne_map (World.ownsRow.alloc HRW2.out (.cells #[.int .u8 x] 5)) (HRG2.out.alloc _).owns) (row_ne_iter (World.ownsRow.alloc HRW2.out (.cells #[.int .u8 x] 5)) (HRG2.out.alloc _))
      have hb5 : Below w2.heap.size w2 w5 := (HB4.out.alloc (by omega) _).grown hg5 (by simp; omega) (fun k hk => (HRW2.out.lt k hk).1)
      rcases ho5.2 with ⟨h5, _⟩ | ⟨g5, cap5, cur5, h5, _⟩
      · cases h5
      injection h5 with h6 h7 h8
      subst h6
      subst h8
      have HK := Lib.hid (And.intro ho5 (And.intro hrg5 hb5))
      clear ho5 hrg5 hb5 hg5
      go_roundw
      case rel => exact ⟨_, cnt2, ks ++ [x], g5, c5, by simp, by have := HLT.out; simp; omega, Lib.hid HK.out.2.1, Lib.hid (by simpa using HK.out.1), HC2, Lib.hid HK.out.2.2⟩
      case measure => rw [HK.out.2.1.left_eq, hrg.out.left_eq]; exact HLT.out

theorem mapNnA_Int64 (b : Nat) (w : World) : (binOp .eql 77 (.map (some b)) (.map none)).run Tryd.prog w = .ok (.bool false) w := by kernel_rfl
theorem cmpA_Int64 (x y : Int) (W : World) : Calls Tryd.prog 67 #[.int .i64 x, .int .i64 y] W fun e w' => e = .returned (.int .i64 (cmpI x y)) ∧ w' = W := by
  unfold cmpI
  by_cases h : x < y
  · rw [if_pos h]
    go_enter Tryd.func67, Tryd.ntmps67
    go_wp2_with fail
    go_ret
    exact ⟨rfl, rfl⟩
  · rw [if_neg h]
    go_enter Tryd.func67, Tryd.ntmps67
    go_wp2_with fail
    go_ret
    exact ⟨rfl, rfl⟩
theorem sortsA_Int64 : Sorts 66 67 2 .i64 :=
  sorts_of Tryd.sort_int64 66 67 rfl 2 .i64 (enters_of Tryd.func67 (by kernel_rfl) rfl) cmpA_Int64
theorem infoA_Int64 : (Tryd.prog.info? 2).map (fun i => (i.zero, i.size, i.bytes)) = some (some (.int .i64 0), 1, 8) := by kernel_rfl
theorem makeA_Int64 (m : Nat) (hm : m ≤ 1000) (w : World) : ∃ cur : Array Value, cur.size = m ∧ (Instr.makeSlice 38 (.int .i64 0) (.int .i64 (m : Int))).run Tryd.prog w = .ok (.slice (some ⟨w.heap.size, 0, none⟩) 0 m) (w.alloc (.cells cur 2)) := by
  obtain ⟨j, hj, hz, h1, h2⟩ := info_parts infoA_Int64
  have h := run_make (P := Tryd.prog) w 38 2 j (.int .i64 0) Tryd.underlying38 hj hz .i64 .i64 0 (m : Int) (by omega) (by omega) (by rw [h2]; omega) (by omega)
  rw [h1] at h
  refine ⟨madeCells (Value.int .i64 0).cells m, size_madeCells _ _, ?_⟩
  simpa using h

set_option maxRecDepth 100000 in
set_option maxHeartbeats 4000000 in
theorem asSlice_Int64 : AsSl 45 2 .i64 := by
  intro b xs w2 hm hx hwf
  have hle := inS_le xs
  have hsz := size_dSet .i64 xs
  obtain ⟨m, hmm⟩ : ∃ m, m = (inS xs).length := ⟨_, rfl⟩
  rw [← hmm] at hle hsz ⊢
  have hbl := hm.lt
  have HS := Lib.hid hsz
  have HMM := Lib.hid hmm
  have HM2 := Lib.hid hm
  clear hsz hmm hm
  have hnn := mapNnA_Int64 b
  obtain ⟨cur, hcur, hmk⟩ := makeA_Int64 m (by omega) w2
  go_enter Tryd.func45, Tryd.ntmps45
  go_wp2_with (first
    | (at_len; refine wpList_len_own _ rfl _ 77 rfl 2 _ Tryd.underlying77 _ b _ _ rfl HM2.out ?_; rw [HS.out])
    | (at_range; refine wpList_range_own _ rfl _ 77 rfl 2 _ (int_keyed Tryd.underlying2) Tryd.underlying77 _ b _ _ rfl (SetM.alloc HM2.out _) ?_; intro w3 hrg3 hg3 hs3))
  go_frame
  obtain ⟨r, hr0⟩ : ∃ r, r = (w2.alloc (.cells cur 2)).heap.size := ⟨_, rfl⟩
  have hr : r = w2.heap.size + 1 := by rw [hr0]; simp
  rw [← hr0] at hrg3 ⊢
  clear hr0
  have hrg4 : w3.ranges Tryd.prog 2 (unitElem (H := Unit)) b r xs.length (DSet .i64 xs) (has (DSet .i64 xs)) m := by
    rw [HS.out] at hrg3
    exact hrg3
  have hb3 : Below w2.heap.size w2 w3 := belowA_none ((Below.refl _ _).alloc (Nat.le_refl _) _) hg3
  have hrow3 : w3.ownsRow w2.heap.size 2 1 (.slice (some ⟨w2.heap.size, 0, none⟩) 0 m) 0 [] := (World.ownsRow_made w2 cur m (Nat.le_refl _) (by simp only [maxLen]; omega) (by simpa using hcur)).kept hg3 (Or.inr (by simp [Value.ownBlock]))
  have hs3b := hb3.size
  have HRG := Lib.hid hrg4
  have HRW := Lib.hid hrow3
  have HB3 := Lib.hid hb3
  have HCU := Lib.hid hcur
  have HR := Lib.hid hr
  clear hrg3 hrg4 hrow3 hb3 hg3 hs3 hmk hcur hr
  go_loopw [3] (fun v wr => ∃ (left : Lit → Bool) (cnt : Nat) (ks : List Int) (g cap : Nat), v = .slice (some ⟨g, 0, none⟩) ks.length cap ∧ ks.length + cnt ≤ m ∧ Hid (wr.ranges Tryd.prog 2 (unitElem (H := Unit)) b r xs.length (DSet .i64 xs) left cnt) ∧
      Hid (wr.ownsRow w2.heap.size 2 1 (.slice (some ⟨g, 0, none⟩) ks.length cap) ks.length (ks.map (Value.int .i64))) ∧ Hid (Coll .i64 xs left ks) ∧ Hid (Below w2.heap.size w2 wr)) (fun _ wr => wr.rangeLeft b r)
  case atStart => exact ⟨_, m, [], w2.heap.size, m, rfl, by simp, HRG, Lib.hid HRW.out, Lib.hid (Coll.start _ _), HB3⟩
  case round =>
    obtain ⟨left, cnt, ks, g, cap, rfl, hkc, hrg, hrow, hC, hbr⟩ := hrel
    have hsr := hbr.out.size
    go_wp2_with (at_next; refine wpList_next_ranges _ rfl _ rfl 2 (int_keyed Tryd.underlying2) (unitElem (H := Unit)) (Value.int .i64) (fun _ : Unit => .agg #[]) (fun key kl hk => by obtain ⟨x, hx, _⟩ := Maps.keyOf_int_inv Tryd.underlying2 hk; exact ⟨x, hx⟩) (fun v y hv => by obtain ⟨h1, _⟩ := unitElem_inv hv; exact ⟨(), h1⟩) b r xs.length _ _ _ rfl hrg.out ?_ ?_)
    · intro hc0 hl0
      have hkl : ks.length = m := (inS_length hC.out.1 (hC.out.all hl0)).trans HMM.out.symm
      have hsort := sortsA_Int64 w2.heap.size g cap ks wr hrow.out (by omega)
      have HD := Lib.hid (fun d hp hs => inS_of_sorted (d := d) hC.out.1 (hC.out.all hl0) hp hs)
      have HKL := Lib.hid hkl
      have HSO := Lib.hid hsort
      clear hl0 hc0 hkl hsort
      go_wp2_with fail
      refine HSO.out.mono ?_
      rintro e w4 ⟨rfl, d, hp, hs, ho4, hg4⟩
      have hd := HD.out d hp hs
      subst hd
      have hb4 : Below w2.heap.size w2 w4 := hbr.out.grown hg4 hsr (fun k hk => (hrow.out.lt k hk).1)
      have HO := Lib.hid (And.intro ho4 hb4)
      clear hp hs ho4 hg4 hb4
      go_wp2_with fail
      go_ret
      have h1 := HO.out.1
      rw [HKL.out] at h1
      exact ⟨g, cap, by rw [HKL.out]; rfl, h1, HO.out.2⟩
    · intro x cu kl y w4 cnt2 hkey hlk hvv hat hrg2 hlt hg2 hs2 hen
      obtain ⟨x', ex, rfl, hwx⟩ := Maps.keyOf_int_inv Tryd.underlying2 hkey
      obtain rfl : x = x' := by injection ex
      have hrow2 := hrow.out.kept hg2 (Or.inr (row_ne_iter hrow.out hrg.out).symm)
      have hb4 : Below w2.heap.size w2 w4 := hbr.out.grown hg2 hsr (fun k hk => by injection hk with hk; have := HR.out; omega)
      have hs4 := hb4.size
      have HRG2 := Lib.hid hrg2
      have HRW2 := Lib.hid hrow2
      have HB4 := Lib.hid hb4
      have HC2 := Lib.hid (hC.out.step hlk hat)
      have HLT := Lib.hid hlt
      clear hs2 hrg2 hrow2 hb4 hlt hlk hat hvv hkey hg2
      go_wp2_with (at_builtin; refine app1 (by rfl) _ _ 38 2 (.int .i64 0) 8 (by rfl) Tryd.underlying38 infoA_Int64 rfl (by omega) w2.heap.size (some ⟨g, 0, none⟩) ks.length cap _ (by rfl) (World.ownsRow.alloc HRW2.out _) w4.heap.size (.int .i64 x) (by rfl) (by rfl) (Blk.new _ _ _) (by omega) (by simp <;> omega) ?_; intro a5 c5 w5 ho5 hg5; go_frame)
      have hrg5 := (HRG2.out.alloc (.cells #[.int .i64 x] 2)).kept hg5 (row_ne_map (World.ownsRow.alloc HRW2.out (.cells #[.int .i64 x] 2)) (HRG2.out.alloc _).owns) (row_ne_iter (World.ownsRow.alloc HRW2.out (.cells #[.int .i64 x] 2)) (HRG2.out.alloc _))
      have hb5 : Below w2.heap.size w2 w5 := (HB4.out.alloc (by omega) _).grown hg5 (by simp; omega) (fun k hk => (HRW2.out.lt k hk).1)
      rcases ho5.2 with ⟨h5, _⟩ | ⟨g5, cap5, cur5, h5, _⟩
      · cases h5
      injection h5 with h6 h7 h8
      subst h6
      subst h8
      have HK := Lib.hid (And.intro ho5 (And.intro hrg5 hb5))
      clear ho5 hrg5 hb5 hg5
      go_roundw
      case rel => exact ⟨_, cnt2, ks ++ [x], g5, c5, by simp, by have := HLT.out; simp; omega, Lib.hid HK.out.2.1, Lib.hid (by simpa using HK.out.1), HC2, Lib.hid HK.out.2.2⟩
      case measure => rw [HK.out.2.1.left_eq, hrg.out.left_eq]; exact HLT.out
end Go.Proofs.YtokjgloefafdpaaDoor
