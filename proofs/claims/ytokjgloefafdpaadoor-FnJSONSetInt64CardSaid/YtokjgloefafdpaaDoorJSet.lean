/- impl.JSONSet..: a set laid, written as JSON. -/
import Derived.Test.YtokjgloefafdpaaDoorMarshJ
namespace Go.Proofs.YtokjgloefafdpaaDoor
open Go.RowKit Go.Maps Go.Lib
set_option linter.unusedVariables false
set_option linter.unusedSimpArgs false

theorem conv_ofJ {w : World} {a : Option Addr} {n c : Nat} {l : List Int} (h : Vw w a n c l) :
    (convert 34 9 (.slice a n c)).run Tryd.prog w = .ok (.string (strOfNums l)) w :=
  h.string Tryd.prog 34 5 9 Tryd.underlying34 Tryd.underlying5 Tryd.underlying9

set_option maxRecDepth 100000 in
set_option maxHeartbeats 4000000 in
theorem jset_Uint8 (xs : List Int) (a2 : Option Addr) (c2 : Nat) (w : World) (hr : Rd w a2 (xs.map (Value.int .u8))) (h1 : 1 ≤ xs.length) (hx : xs.length ≤ 100) (hwf : ∀ x ∈ xs, (Lit.int .u8 x).wf = true) (htab : Tab10 w.heap.size w) :
    Calls Tryd.prog 14 #[.slice a2 xs.length c2] w fun e w' => e = .returned (.string (strB (jtx ((inS xs).map (fun x => decDigits x.toNat))))) ∧ Below w.heap.size w w' := by
  obtain ⟨m, hm⟩ : ∃ m, m = xs.length := ⟨_, rfl⟩
  obtain ⟨lb2, lo2, rfl, hcl⟩ := hr.at_ (by simp; omega)
  rw [← hm] at hx h1 ⊢
  have HM := Lib.hid hm
  have HR := Lib.hid hcl
  have HW := Lib.hid hwf
  have HT := Lib.hid htab
  clear hm hr hcl hwf htab
  have hmm := @run_makeMap Tryd.prog
  go_enter Tryd.func14, Tryd.ntmps14
  go_wp2_with fail
  go_loopw [11] (fun i wr => ∃ j : Nat, j ≤ m ∧ i = .int .i64 j ∧ Hid (SetM 5 .u8 wr w.heap.size (xs.take j)) ∧ Hid (Below w.heap.size w wr)) (fun i _ => m - (intOf i).toNat)
  case atStart => exact ⟨0, Nat.zero_le _, rfl, Lib.hid (SetM.made _ _ _), Lib.hid ((Below.refl _ _).alloc (Nat.le_refl _) _)⟩
  case round =>
    obtain ⟨j, hj, rfl, hset, hbr⟩ := hrel
    have hbs := hbr.out.size
    by_cases hlt : j < m
    · have hli : (j : Int) < m := by omega
      have hjl : j < xs.length := by have := HM.out; omega
      have hcj : wr.cell? ⟨lb2, lo2 + j, none⟩ = some (.int .u8 (xs.getD j 0)) := by
        have h := HR.out j (by simpa using hjl)
        have hlt2 := World.block_lt_of_cell? w _ h
        rw [hbr.out.cell (p := ⟨lb2, lo2 + j, none⟩) hlt2, h]
        simp [List.getD, List.getElem?_eq_getElem hjl]
      obtain ⟨x, hxx⟩ : ∃ x, x = xs.getD j 0 := ⟨_, rfl⟩
      have hxm : x ∈ xs := by rw [hxx]; simp [List.getD, List.getElem?_eq_getElem hjl]
      have hwx := HW.out x hxm
      rw [← hxx] at hcj
      have htk : xs.take (j + 1) = xs.take j ++ [x] := by rw [List.take_add_one, List.getElem?_eq_getElem hjl, hxx]; simp [List.getD, List.getElem?_eq_getElem hjl]
      have HTK := Lib.hid htk
      have HWX := Lib.hid hwx
      clear hxx hxm htk hwx
      go_wp2_with (at_mapUpdate; refine wpList_mapUpdate_own _ rfl _ _ _ 75 rfl 5 _ (int_keyed Tryd.underlying5) Tryd.underlying75 (unitElem (H := Unit)) w.heap.size (xs.take j).length _ rfl hset.out (by simp [maxLen]; omega) (.int .u8 x) (.agg #[]) (.int .u8 x) (by rfl) (by rfl) (keyOf_int_mk Tryd.underlying5 HWX.out) (.agg []) [] unitElem_mk ?_; intro w2 hown2 hg2; go_frame)
      have hs2 : SetM 5 .u8 w2 w.heap.size (xs.take (j + 1)) := by
        rw [HTK.out]
        unfold SetM
        rw [dSet_snoc, List.length_append]
        exact hown2
      have hb2 : Below w.heap.size w w2 := hbr.out.grown hg2 hbs (fun k hk => by injection hk with hk; omega)
      have HS2 := Lib.hid hs2
      have HB2 := Lib.hid hb2
      clear hown2 hg2 hs2 hb2
      go_wp2_with fail
      go_roundw
      case rel => exact ⟨j + 1, by omega, congrArg (Value.int .i64) (by omega), HS2, HB2⟩
      case measure => first | omega | (simp [intOf]; omega)
    · obtain rfl : j = m := by omega
      have e1 : xs.take j = xs := by rw [HM.out]; simp
      have hset2 := hset.out
      rw [e1] at hset2
      have HS2 := Lib.hid hset2
      clear hset hset2 e1
      have HMJ := Lib.hid (marshJ_Uint8 w.heap.size xs wr HS2.out (by have := HM.out; omega) HW.out ((HT.out.on hbr.out).mono hbs))
      go_wp2_with fail
      refine HMJ.out.mono ?_
      rintro e w4 ⟨a4, n4, c4, rfl, hv4, hb4⟩
      have hcv := conv_ofJ hv4
      rw [strOf_nums] at hcv
      have HB4 := Lib.hid (hbr.out.trans (hb4.mono hbs))
      obtain ⟨str, hstr⟩ : ∃ str, str = strB (jtx ((inS xs).map (fun x => decDigits x.toNat))) := ⟨_, rfl⟩
      rw [← hstr] at hcv
      have HSTR := Lib.hid hstr
      clear hv4 hb4 hstr
      go_wp2_with fail
      go_ret
      exact ⟨by rw [← HSTR.out]; rfl, HB4.out⟩

set_option maxRecDepth 100000 in
set_option maxHeartbeats 4000000 in
theorem jset_Int64 (xs : List Int) (a2 : Option Addr) (c2 : Nat) (w : World) (hr : Rd w a2 (xs.map (Value.int .i64))) (h1 : 1 ≤ xs.length) (hx : xs.length ≤ 100) (hwf : ∀ x ∈ xs, (Lit.int .i64 x).wf = true) (htab : Tab10 w.heap.size w) :
    Calls Tryd.prog 16 #[.slice a2 xs.length c2] w fun e w' => e = .returned (.string (strB (jtx ((inS xs).map (fun x => itoa x))))) ∧ Below w.heap.size w w' := by
  obtain ⟨m, hm⟩ : ∃ m, m = xs.length := ⟨_, rfl⟩
  obtain ⟨lb2, lo2, rfl, hcl⟩ := hr.at_ (by simp; omega)
  rw [← hm] at hx h1 ⊢
  have HM := Lib.hid hm
  have HR := Lib.hid hcl
  have HW := Lib.hid hwf
  have HT := Lib.hid htab
  clear hm hr hcl hwf htab
  have hmm := @run_makeMap Tryd.prog
  go_enter Tryd.func16, Tryd.ntmps16
  go_wp2_with fail
  go_loopw [11] (fun i wr => ∃ j : Nat, j ≤ m ∧ i = .int .i64 j ∧ Hid (SetM 2 .i64 wr w.heap.size (xs.take j)) ∧ Hid (Below w.heap.size w wr)) (fun i _ => m - (intOf i).toNat)
  case atStart => exact ⟨0, Nat.zero_le _, rfl, Lib.hid (SetM.made _ _ _), Lib.hid ((Below.refl _ _).alloc (Nat.le_refl _) _)⟩
  case round =>
    obtain ⟨j, hj, rfl, hset, hbr⟩ := hrel
    have hbs := hbr.out.size
    by_cases hlt : j < m
    · have hli : (j : Int) < m := by omega
      have hjl : j < xs.length := by have := HM.out; omega
      have hcj : wr.cell? ⟨lb2, lo2 + j, none⟩ = some (.int .i64 (xs.getD j 0)) := by
        have h := HR.out j (by simpa using hjl)
        have hlt2 := World.block_lt_of_cell? w _ h
        rw [hbr.out.cell (p := ⟨lb2, lo2 + j, none⟩) hlt2, h]
        simp [List.getD, List.getElem?_eq_getElem hjl]
      obtain ⟨x, hxx⟩ : ∃ x, x = xs.getD j 0 := ⟨_, rfl⟩
      have hxm : x ∈ xs := by rw [hxx]; simp [List.getD, List.getElem?_eq_getElem hjl]
      have hwx := HW.out x hxm
      rw [← hxx] at hcj
      have htk : xs.take (j + 1) = xs.take j ++ [x] := by rw [List.take_add_one, List.getElem?_eq_getElem hjl, hxx]; simp [List.getD, List.getElem?_eq_getElem hjl]
      have HTK := Lib.hid htk
      have HWX := Lib.hid hwx
      clear hxx hxm htk hwx
      go_wp2_with (at_mapUpdate; refine wpList_mapUpdate_own _ rfl _ _ _ 77 rfl 2 _ (int_keyed Tryd.underlying2) Tryd.underlying77 (unitElem (H := Unit)) w.heap.size (xs.take j).length _ rfl hset.out (by simp [maxLen]; omega) (.int .i64 x) (.agg #[]) (.int .i64 x) (by rfl) (by rfl) (keyOf_int_mk Tryd.underlying2 HWX.out) (.agg []) [] unitElem_mk ?_; intro w2 hown2 hg2; go_frame)
      have hs2 : SetM 2 .i64 w2 w.heap.size (xs.take (j + 1)) := by
        rw [HTK.out]
        unfold SetM
        rw [dSet_snoc, List.length_append]
        exact hown2
      have hb2 : Below w.heap.size w w2 := hbr.out.grown hg2 hbs (fun k hk => by injection hk with hk; omega)
      have HS2 := Lib.hid hs2
      have HB2 := Lib.hid hb2
      clear hown2 hg2 hs2 hb2
      go_wp2_with fail
      go_roundw
      case rel => exact ⟨j + 1, by omega, congrArg (Value.int .i64) (by omega), HS2, HB2⟩
      case measure => first | omega | (simp [intOf]; omega)
    · obtain rfl : j = m := by omega
      have e1 : xs.take j = xs := by rw [HM.out]; simp
      have hset2 := hset.out
      rw [e1] at hset2
      have HS2 := Lib.hid hset2
      clear hset hset2 e1
      have HMJ := Lib.hid (marshJ_Int64 w.heap.size xs wr HS2.out (by have := HM.out; omega) HW.out ((HT.out.on hbr.out).mono hbs))
      go_wp2_with fail
      refine HMJ.out.mono ?_
      rintro e w4 ⟨a4, n4, c4, rfl, hv4, hb4⟩
      have hcv := conv_ofJ hv4
      rw [strOf_nums] at hcv
      have HB4 := Lib.hid (hbr.out.trans (hb4.mono hbs))
      obtain ⟨str, hstr⟩ : ∃ str, str = strB (jtx ((inS xs).map (fun x => itoa x))) := ⟨_, rfl⟩
      rw [← hstr] at hcv
      have HSTR := Lib.hid hstr
      clear hv4 hb4 hstr
      go_wp2_with fail
      go_ret
      exact ⟨by rw [← HSTR.out]; rfl, HB4.out⟩
end Go.Proofs.YtokjgloefafdpaaDoor
