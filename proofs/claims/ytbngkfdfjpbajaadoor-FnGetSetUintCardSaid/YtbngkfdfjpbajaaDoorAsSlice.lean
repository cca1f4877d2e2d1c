/- setof's sets as slices: AsSlice. -/
import Derived.Test.YtbngkfdfjpbajaaDoorSetM
import Derived.Test.YtbngkfdfjpbajaaDoorLays
import Derived.Laws.MakeOwn
namespace Go.Proofs.YtbngkfdfjpbajaaDoor
open Go.RowKit Go.Maps Go.Lib Go.Sort Go.Shelf
set_option linter.unusedVariables false
set_option linter.unusedSimpArgs false

theorem belowA_none {B : Nat} {a w w' : World} (h : Below B a w) (hg : w.grownBy w' none) (hB : B ≤ a.heap.size := by omega) : Below B a w' := h.grown hg (Nat.le_trans hB h.size) (fun k hk => by cases hk)

/-- What AsSlice gives. -/
def AsSl (F : FuncId) (k : TypeId) (q : IntKind) : Prop := ∀ (b : Nat) (xs : List Int) (w : World), SetM k q w b xs → xs.length ≤ 100 → (∀ x ∈ xs, (Lit.int q x).wf = true) →
  Calls Tryd.prog F #[.map (some b)] w fun e w' => ∃ g c, e = .returned (.slice (some ⟨g, 0, none⟩) (inS xs).length c) ∧ w'.ownsRow w.heap.size k 1 (.slice (some ⟨g, 0, none⟩) (inS xs).length c) (inS xs).length ((inS xs).map (Value.int q)) ∧ Below w.heap.size w w'

theorem mapNnA_Uint16 (b : Nat) (w : World) : (binOp .eql 62 (.map (some b)) (.map none)).run Tryd.prog w = .ok (.bool false) w := by kernel_rfl
theorem cmpA_Uint16 (x y : Int) (W : World) : Calls Tryd.prog 45 #[.int .u16 x, .int .u16 y] W fun e w' => e = .returned (.int .i64 (cmpI x y)) ∧ w' = W := by
  unfold cmpI
  by_cases h : x < y
  · rw [if_pos h]
    go_enter Tryd.func45, Tryd.ntmps45
    go_wp2_with fail
    go_ret
    exact ⟨rfl, rfl⟩
  · rw [if_neg h]
    go_enter Tryd.func45, Tryd.ntmps45
    go_wp2_with fail
    go_ret
    exact ⟨rfl, rfl⟩
theorem sortsA_Uint16 : Sorts 44 45 38 .u16 :=
  sorts_of Tryd.sort_uint16 44 45 rfl 38 .u16 (enters_of Tryd.func45 (by kernel_rfl) rfl) cmpA_Uint16
theorem infoA_Uint16 : (Tryd.prog.info? 38).map (fun i => (i.zero, i.size, i.bytes)) = some (some (.int .u16 0), 1, 2) := by kernel_rfl
theorem makeA_Uint16 (m : Nat) (hm : m ≤ 1000) (w : World) : ∃ cur : Array Value, cur.size = m ∧ (Instr.makeSlice 35 (.int .i64 0) (.int .i64 (m : Int))).run Tryd.prog w = .ok (.slice (some ⟨w.heap.size, 0, none⟩) 0 m) (w.alloc (.cells cur 38)) := by
  obtain ⟨j, hj, hz, h1, h2⟩ := info_parts infoA_Uint16
  have h := run_make (P := Tryd.prog) w 35 38 j (.int .u16 0) Tryd.underlying35 hj hz .i64 .i64 0 (m : Int) (by omega) (by omega) (by rw [h2]; omega) (by omega)
  rw [h1] at h
  refine ⟨madeCells (Value.int .u16 0).cells m, size_madeCells _ _, ?_⟩
  simpa using h

set_option maxRecDepth 100000 in
set_option maxHeartbeats 4000000 in
theorem asSlice_Uint16 : AsSl 27 38 .u16 := by
  intro b xs w2 hm hx hwf
  have hle := inS_le xs
  have hsz := size_dSet .u16 xs
  obtain ⟨m, hmm⟩ : ∃ m, m = (inS xs).length := ⟨_, rfl⟩
  rw [← hmm] at hle hsz ⊢
  have hbl := hm.lt
  have HS := Lib.hid hsz
  have HMM := Lib.hid hmm
  have HM2 := Lib.hid hm
  clear hsz hmm hm
  have hnn := mapNnA_Uint16 b
  obtain ⟨cur, hcur, hmk⟩ := makeA_Uint16 m (by omega) w2
  go_enter Tryd.func27, Tryd.ntmps27
  go_wp2_with (first
    | (at_len; refine wpList_len_own _ rfl _ 62 rfl 38 _ Tryd.underlying62 _ b _ _ rfl HM2.out ?_; rw [HS.out])
    | (at_range; refine wpList_range_own _ rfl _ 62 rfl 38 _ (int_keyed Tryd.underlying38) Tryd.underlying62 _ b _ _ rfl (SetM.alloc HM2.out _) ?_; intro w3 hrg3 hg3 hs3))
  go_frame
  obtain ⟨r, hr0⟩ : ∃ r, r = (w2.alloc (.cells cur 38)).heap.size := ⟨_, rfl⟩
  have hr : r = w2.heap.size + 1 := by rw [hr0]; simp
  rw [← hr0] at hrg3 ⊢
  clear hr0
  have hrg4 : w3.ranges Tryd.prog 38 (unitElem (H := Unit)) b r xs.length (DSet .u16 xs) (has (DSet .u16 xs)) m := by
    rw [HS.out] at hrg3
    exact hrg3
  have hb3 : Below w2.heap.size w2 w3 := belowA_none ((Below.refl _ _).alloc (Nat.le_refl _) _) hg3
  have hrow3 : w3.ownsRow w2.heap.size 38 1 (.slice (some ⟨w2.heap.size, 0, none⟩) 0 m) 0 [] := (World.ownsRow_made w2 cur m (Nat.le_refl _) (by simp only [maxLen]; omega) (by simpa using hcur)).kept hg3 (Or.inr (by simp [Value.ownBlock]))
  have hs3b := hb3.size
  have HRG := Lib.hid hrg4
  have HRW := Lib.hid hrow3
  have HB3 := Lib.hid hb3
  have HCU := Lib.hid hcur
  have HR := Lib.hid hr
  clear hrg3 hrg4 hrow3 hb3 hg3 hs3 hmk hcur hr
  go_loopw [3] (fun v wr => ∃ (left : Lit → Bool) (cnt : Nat) (ks : List Int) (g cap : Nat), v = .slice (some ⟨g, 0, none⟩) ks.length cap ∧ ks.length + cnt ≤ m ∧ Hid (wr.ranges Tryd.prog 38 (unitElem (H := Unit)) b r xs.length (DSet .u16 xs) left cnt) ∧
      Hid (wr.ownsRow w2.heap.size 38 1 (.slice (some ⟨g, 0, none⟩) ks.length cap) ks.length (ks.map (Value.int .u16))) ∧ Hid (Coll .u16 xs left ks) ∧ Hid (Below w2.heap.size w2 wr)) (fun _ wr => wr.rangeLeft b r)
  case atStart => exact ⟨_, m, [], w2.heap.size, m, rfl, by simp, HRG, Lib.hid HRW.out, Lib.hid (Coll.start _ _), HB3⟩
  case round =>
    obtain ⟨left, cnt, ks, g, cap, rfl, hkc, hrg, hrow, hC, hbr⟩ := hrel
    have hsr := hbr.out.size
    go_wp2_with (at_next; refine wpList_next_ranges _ rfl _ rfl 38 (int_keyed Tryd.underlying38) (unitElem (H := Unit)) (Value.int .u16) (fun _ : Unit => .agg #[]) (fun key kl hk => by obtain ⟨x, hx, _⟩ := Maps.keyOf_int_inv Tryd.underlying38 hk; exact ⟨x, hx⟩) (fun v y hv => by obtain ⟨h1, _⟩ := unitElem_inv hv; exact ⟨(), h1⟩) b r xs.length _ _ _ rfl hrg.out ?_ ?_)
    · intro hc0 hl0
      have hkl : ks.length = m := (inS_length hC.out.1 (hC.out.all hl0)).trans HMM.out.symm
      have hsort := sortsA_Uint16 w2.heap.size g cap ks wr hrow.out (by omega)
      have HD := Lib.hid (fun d hp hs => inS_of_sorted (d := d) hC.out.1 (hC.out.all hl0) hp hs)
      have HKL := Lib.hid hkl
      have HSO := Lib.hid hsort
      clear hl0 hc0 hkl hsort
      go_wp2_with fail
      refine HSO.out.mono ?_
      rintro e w4 ⟨rfl, d, hp, hs, ho4, hg4⟩
      have hd := HD.out d hp hs
      subst hd
      have hb4 : Below w2.heap.size w2 w4 := hbr.out.grown hg4 hsr (fun k hk => (hrow.out.lt k hk).1)
      have HO := Lib.hid (And.intro ho4 hb4)
      clear hp hs ho4 hg4 hb4
      go_wp2_with fail
      go_ret
      have h1 := HO.out.1
      rw [HKL.out] at h1
      exact ⟨g, cap, by rw [HKL.out]; rfl, h1, HO.out.2⟩
    · intro x cu kl y w4 cnt2 hkey hlk hvv hat hrg2 hlt hg2 hs2 hen
      obtain ⟨x', ex, rfl, hwx⟩ := Maps.keyOf_int_inv Tryd.underlying38 hkey
      obtain rfl : x = x' := by injection ex
      have hrow2 := hrow.out.kept hg2 (Or.inr (row_ne_iter hrow.out hrg.out).symm)
      have hb4 : Below w2.heap.size w2 w4 := hbr.out.grown hg2 hsr (fun k hk => by injection hk with hk; have := HR.out; omega)
      have hs4 := hb4.size
      have HRG2 := Lib.hid hrg2
      have HRW2 := Lib.hid hrow2
      have HB4 := Lib.hid hb4
      have HC2 := Lib.hid (hC.out.step hlk hat)
      have HLT := Lib.hid hlt
      clear hs2 hrg2 hrow2 hb4 hlt hlk hat hvv hkey hg2
      go_wp2_with (at_builtin; refine app1 (by rfl) _ _ 35 38 (.int .u16 0) 2 (by rfl) Tryd.underlying35 infoA_Uint16 rfl (by omega) w2.heap.size (some ⟨g, 0, none⟩) ks.length cap _ (by rfl) (World.ownsRow.alloc HRW2.out _) w4.heap.size (.int .u16 x) (by rfl) (by rfl) (Blk.new _ _ _) (by omega) (by simp <;> omega) ?_; intro a5 c5 w5 ho5 hg5; go_frame)
      have hrg5 := (HRG2.out.alloc (.cells #[.int .u16 x] 38)).kept hg5 (row_ne_map (World.ownsRow.alloc HRW2.out (.cells #[.int .u16 x] 38)) (HRG2.out.alloc _).owns) (row_ne_iter (World.ownsRow.alloc HRW2.out (.cells #[.int .u16 x] 38)) (HRG2.out.alloc _))
      have hb5 : Below w2.heap.size w2 w5 := (HB4.out.alloc (by omega) _).grown hg5 (by simp; omega) (fun k hk => (HRW2.out.lt k hk).1)
      rcases ho5.2 with ⟨h5, _⟩ | ⟨g5, cap5, cur5, h5, _⟩
      · cases h5
      injection h5 with h6 h7 h8
      subst h6
      subst h8
      have HK := Lib.hid (And.intro ho5 (And.intro hrg5 hb5))
      clear ho5 hrg5 hb5 hg5
      go_roundw
      case rel => exact ⟨_, cnt2, ks ++ [x], g5, c5, by simp, by have := HLT.out; simp; omega, Lib.hid HK.out.2.1, Lib.hid (by simpa using HK.out.1), HC2, Lib.hid HK.out.2.2⟩
      case measure => rw [HK.out.2.1.left_eq, hrg.out.left_eq]; exact HLT.out

theorem mapNnA_Uint (b : Nat) (w : World) : (binOp .eql 76 (.map (some b)) (.map none)).run Tryd.prog w = .ok (.bool false) w := by kernel_rfl
theorem cmpA_Uint (x y : Int) (W : World) : Calls Tryd.prog 51 #[.int .u64 x, .int .u64 y] W fun e w' => e = .returned (.int .i64 (cmpI x y)) ∧ w' = W := by
  unfold cmpI
  by_cases h : x < y
  · rw [if_pos h]
    go_enter Tryd.func51, Tryd.ntmps51
    go_wp2_with fail
    go_ret
    exact ⟨rfl, rfl⟩
  · rw [if_neg h]
    go_enter Tryd.func51, Tryd.ntmps51
    go_wp2_with fail
    go_ret
    exact ⟨rfl, rfl⟩
theorem sortsA_Uint : Sorts 50 51 79 .u64 :=
  sorts_of Tryd.sort_uint 50 51 rfl 79 .u64 (enters_of Tryd.func51 (by kernel_rfl) rfl) cmpA_Uint
theorem infoA_Uint : (Tryd.prog.info? 79).map (fun i => (i.zero, i.size, i.bytes)) = some (some (.int .u64 0), 1, 8) := by kernel_rfl
theorem makeA_Uint (m : Nat) (hm : m ≤ 1000) (w : World) : ∃ cur : Array Value, cur.size = m ∧ (Instr.makeSlice 77 (.int .i64 0) (.int .i64 (m : Int))).run Tryd.prog w = .ok (.slice (some ⟨w.heap.size, 0, none⟩) 0 m) (w.alloc (.cells cur 79)) := by
  obtain ⟨j, hj, hz, h1, h2⟩ := info_parts infoA_Uint
  have h := run_make (P := Tryd.prog) w 77 79 j (.int .u64 0) Tryd.underlying77 hj hz .i64 .i64 0 (m : Int) (by omega) (by omega) (by rw [h2]; omega) (by omega)
  rw [h1] at h
  refine ⟨madeCells (Value.int .u64 0).cells m, size_madeCells _ _, ?_⟩
  simpa using h

set_option maxRecDepth 100000 in
set_option maxHeartbeats 4000000 in
theorem asSlice_Uint : AsSl 33 79 .u64 := by
  intro b xs w2 hm hx hwf
  have hle := inS_le xs
  have hsz := size_dSet .u64 xs
  obtain ⟨m, hmm⟩ : ∃ m, m = (inS xs).length := ⟨_, rfl⟩
  rw [← hmm] at hle hsz ⊢
  have hbl := hm.lt
  have HS := Lib.hid hsz
  have HMM := Lib.hid hmm
  have HM2 := Lib.hid hm
  clear hsz hmm hm
  have hnn := mapNnA_Uint b
  obtain ⟨cur, hcur, hmk⟩ := makeA_Uint m (by omega) w2
  go_enter Tryd.func33, Tryd.ntmps33
  go_wp2_with (first
    | (at_len; refine wpList_len_own _ rfl _ 76 rfl 79 _ Tryd.underlying76 _ b _ _ rfl HM2.out ?_; rw [HS.out])
    | (at_range; refine wpList_range_own _ rfl _ 76 rfl 79 _ (int_keyed Tryd.underlying79) Tryd.underlying76 _ b _ _ rfl (SetM.alloc HM2.out _) ?_; intro w3 hrg3 hg3 hs3))
  go_frame
  obtain ⟨r, hr0⟩ : ∃ r, r = (w2.alloc (.cells cur 79)).heap.size := ⟨_, rfl⟩
  have hr : r = w2.heap.size + 1 := by rw [hr0]; simp
  rw [← hr0] at hrg3 ⊢
  clear hr0
  have hrg4 : w3.ranges Tryd.prog 79 (unitElem (H := Unit)) b r xs.length (DSet .u64 xs) (has (DSet .u64 xs)) m := by
    rw [HS.out] at hrg3
    exact hrg3
  have hb3 : Below w2.heap.size w2 w3 := belowA_none ((Below.refl _ _).alloc (Nat.le_refl _) _) hg3
  have hrow3 : w3.ownsRow w2.heap.size 79 1 (.slice (some ⟨w2.heap.size, 0, none⟩) 0 m) 0 [] := (World.ownsRow_made w2 cur m (Nat.le_refl _) (by simp only [maxLen]; omega) (by simpa using hcur)).kept hg3 (Or.inr (by simp [Value.ownBlock]))
  have hs3b := hb3.size
  have HRG := Lib.hid hrg4
  have HRW := Lib.hid hrow3
  have HB3 := Lib.hid hb3
  have HCU := Lib.hid hcur
  have HR := Lib.hid hr
  clear hrg3 hrg4 hrow3 hb3 hg3 hs3 hmk hcur hr
  go_loopw [3] (fun v wr => ∃ (left : Lit → Bool) (cnt : Nat) (ks : List Int) (g cap : Nat), v = .slice (some ⟨g, 0, none⟩) ks.length cap ∧ ks.length + cnt ≤ m ∧ Hid (wr.ranges Tryd.prog 79 (unitElem (H := Unit)) b r xs.length (DSet .u64 xs) left cnt) ∧
      Hid (wr.ownsRow w2.heap.size 79 1 (.slice (some ⟨g, 0, none⟩) ks.length cap) ks.length (ks.map (Value.int .u64))) ∧ Hid (Coll .u64 xs left ks) ∧ Hid (Below w2.heap.size w2 wr)) (fun _ wr => wr.rangeLeft b r)
  case atStart => exact ⟨_, m, [], w2.heap.size, m, rfl, by simp, HRG, Lib.hid HRW.out, Lib.hid (Coll.start _ _), HB3⟩
  case round =>
    obtain ⟨left, cnt, ks, g, cap, rfl, hkc, hrg, hrow, hC, hbr⟩ := hrel
    have hsr := hbr.out.size
    go_wp2_with (at_next; refine wpList_next_ranges _ rfl _ rfl 79 (int_keyed Tryd.underlying79) (unitElem (H := Unit)) (Value.int .u64) (fun _ : Unit => .agg #[]) (fun key kl hk => by obtain ⟨x, hx, _⟩ := Maps.keyOf_int_inv Tryd.underlying79 hk; exact ⟨x, hx⟩) (fun v y hv => by obtain ⟨h1, _⟩ := unitElem_inv hv; exact ⟨(), h1⟩) b r xs.length _ _ _ rfl hrg.out ?_ ?_)
    · intro hc0 hl0
      have hkl : ks.length = m := (inS_length hC.out.1 (hC.out.all hl0)).trans HMM.out.symm
      have hsort := sortsA_Uint w2.heap.size g cap ks wr hrow.out (by omega)
      have HD := Lib.hid (fun d hp hs => inS_of_sorted (d := d) hC.out.1 (hC.out.all hl0) hp hs)
      have HKL := Lib.hid hkl
      have HSO := Lib.hid hsort
      clear hl0 hc0 hkl hsort
      go_wp2_with fail
      refine HSO.out.mono ?_
      rintro e w4 ⟨rfl, d, hp, hs, ho4, hg4⟩
      have hd := HD.out d hp hs
      subst hd
      have hb4 : Below w2.heap.size w2 w4 := hbr.out.grown hg4 hsr (fun k hk => (hrow.out.lt k hk).1)
      have HO := Lib.hid (And.intro ho4 hb4)
      clear hp hs ho4 hg4 hb4
      go_wp2_with fail
      go_ret
      have h1 := HO.out.1
      rw [HKL.out] at h1
      exact ⟨g, cap, by rw [HKL.out]; rfl, h1, HO.out.2⟩
    · intro x cu kl y w4 cnt2 hkey hlk hvv hat hrg2 hlt hg2 hs2 hen
      obtain ⟨x', ex, rfl, hwx⟩ := Maps.keyOf_int_inv Tryd.underlying79 hkey
      obtain rfl : x = x' := by injection ex
      have hrow2 := hrow.out.kept hg2 (Or.inr (row_ne_iter hrow.out hrg.out).symm)
      have hb4 : Below w2.heap.size w2 w4 := hbr.out.grown hg2 hsr (fun k hk => by injection hk with hk; have := HR.out; omega)
      have hs4 := hb4.size
      have HRG2 := Lib.hid hrg2
      have HRW2 := Lib.hid hrow2
      have HB4 := Lib.hid hb4
      have HC2 := Lib.hid (hC.out.step hlk hat)
      have HLT := Lib.hid hlt
      clear hs2 hrg2 hrow2 hb4 hlt hlk hat hvv hkey hg2
      go_wp2_with (at_builtin; refine app1 (by rfl) _ _ 77 79 (.int .u64 0) 8 (by rfl) Tryd.underlying77 infoA_Uint rfl (by omega) w2.heap.size (some ⟨g, 0, none⟩) ks.length cap _ (by rfl) (World.ownsRow.alloc HRW2.out _) w4.heap.size (.int .u64 x) (by rfl) (by rfl) (Blk.new _ _ _) (by omega) (by simp <;> omega) ?_; intro a5 c5 w5 ho5 hg5; go_frame)
      have hrg5 := (HRG2.out.alloc (.cells #[.int .u64 x] 79)).kept hg5 (row_ne_map (World.ownsRow.alloc HRW2.out (.cells #[.int .u64 x] 79)) (HRG2.out.alloc _).owns) (row_ne_iter (World.ownsRow.alloc HRW2.out (.cells #[.int .u64 x] 79)) (HRG2.out.alloc _))
      have hb5 : Below w2.heap.size w2 w5 := (HB4.out.alloc (by omega) _).grown hg5 (by simp; omega) (fun k hk => (HRW2.out.lt k hk).1)
      rcases ho5.2 with ⟨h5, _⟩ | ⟨g5, cap5, cur5, h5, _⟩
      · cases h5
      injection h5 with h6 h7 h8
      subst h6
      subst h8
      have HK := Lib.hid (And.intro ho5 (And.intro hrg5 hb5))
      clear ho5 hrg5 hb5 hg5
      go_roundw
      case rel => exact ⟨_, cnt2, ks ++ [x], g5, c5, by simp, by have := HLT.out; simp; omega, Lib.hid HK.out.2.1, Lib.hid (by simpa using HK.out.1), HC2, Lib.hid HK.out.2.2⟩
      case measure => rw [HK.out.2.1.left_eq, hrg.out.left_eq]; exact HLT.out


end Go.Proofs.YtbngkfdfjpbajaaDoor
