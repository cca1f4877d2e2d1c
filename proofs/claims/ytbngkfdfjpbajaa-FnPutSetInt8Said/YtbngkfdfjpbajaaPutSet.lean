/- impl.PutSet..: a set laid, written. -/
import Derived.Test.YtbngkfdfjpbajaaMarsh
namespace Go.Proofs.Ytbngkfdfjpbajaa
open Go.RowKit Go.Maps Go.Lib
set_option linter.unusedVariables false
set_option linter.unusedSimpArgs false

set_option maxRecDepth 100000 in
set_option maxHeartbeats 4000000 in
theorem putSet_Uint32 (lb : List Int) (a : Option Addr) (n c : Nat) (xs : List Int) (a2 : Option Addr) (c2 : Nat) (es : List (List Int)) (w : World) (hv : Vw w a n c lb) (hr : Rd w a2 (xs.map (Value.int .u32))) (h1 : 1 ≤ xs.length) (hx : xs.length ≤ 100) (hwf : ∀ x ∈ xs, (Lit.int .u32 x).wf = true)
    (he : Encs 22 .u32 (fun x => 3) (fun x => x) (inS xs) es) (hn : n ≤ 1000000) :
    Calls Try.prog 5 #[.slice a n c, .slice a2 xs.length c2] w fun e w' => ∃ a' n' c', e = .returned (.slice a' n' c') ∧ O8 w' w.heap.size a' n' c' (lb ++ (hdA (inS xs).length ++ es.flatten)) ∧ Below w.heap.size w w' := by
  obtain ⟨m, hm⟩ : ∃ m, m = xs.length := ⟨_, rfl⟩
  obtain ⟨lb2, lo2, rfl, hcl⟩ := hr.at_ (by simp; omega)
  rw [← hm] at hx h1 ⊢
  have HM := Lib.hid hm
  have HR := Lib.hid hcl
  have HV := Lib.hid hv
  have HE := Lib.hid he
  have HW := Lib.hid hwf
  clear hm hr hcl hv he hwf
  have hmm := @run_makeMap Try.prog
  go_enter Try.func5, Try.ntmps5
  go_wp2_with fail
  go_loopw [13] (fun i wr => ∃ j : Nat, j ≤ m ∧ i = .int .i64 j ∧ Hid (SetM 25 .u32 wr w.heap.size (xs.take j)) ∧ Hid (Below w.heap.size w wr)) (fun i _ => m - (intOf i).toNat)
  case atStart => exact ⟨0, Nat.zero_le _, rfl, Lib.hid (SetM.made _ _ _), Lib.hid ((Below.refl _ _).alloc (Nat.le_refl _) _)⟩
  case round =>
    obtain ⟨j, hj, rfl, hset, hbr⟩ := hrel
    have hbs := hbr.out.size
    by_cases hlt : j < m
    · have hli : (j : Int) < m := by omega
      have hjl : j < xs.length := by have := HM.out; omega
      have hcj : wr.cell? ⟨lb2, lo2 + j, none⟩ = some (.int .u32 (xs.getD j 0)) := by
        have h := HR.out j (by simpa using hjl)
        have hlt2 := World.block_lt_of_cell? w _ h
        rw [hbr.out.cell (p := ⟨lb2, lo2 + j, none⟩) hlt2, h]
        simp [List.getD, List.getElem?_eq_getElem hjl]
      obtain ⟨x, hxx⟩ : ∃ x, x = xs.getD j 0 := ⟨_, rfl⟩
      have hxm : x ∈ xs := by rw [hxx]; simp [List.getD, List.getElem?_eq_getElem hjl]
      have hwx := HW.out x hxm
      rw [← hxx] at hcj
      have htk : xs.take (j + 1) = xs.take j ++ [x] := by rw [List.take_add_one, List.getElem?_eq_getElem hjl, hxx]; simp [List.getD, List.getElem?_eq_getElem hjl]
      have HT := Lib.hid htk
      have HWX := Lib.hid hwx
      clear hxx hxm htk hwx
      go_wp2_with (at_mapUpdate; refine wpList_mapUpdate_own _ rfl _ _ _ 40 rfl 25 _ (int_keyed Try.underlying25) Try.underlying40 (unitElem (H := Unit)) w.heap.size (xs.take j).length _ rfl hset.out (by simp [maxLen]; omega) (.int .u32 x) (.agg #[]) (.int .u32 x) (by rfl) (by rfl) (keyOf_int_mk Try.underlying25 HWX.out) (.agg []) [] unitElem_mk ?_; intro w2 hown2 hg2; go_frame)
      have hs2 : SetM 25 .u32 w2 w.heap.size (xs.take (j + 1)) := by
        rw [HT.out]
        unfold SetM
        rw [dSet_snoc, List.length_append]
        exact hown2
      have hb2 : Below w.heap.size w w2 := hbr.out.grown hg2 hbs (fun k hk => by injection hk with hk; omega)
      have HS2 := Lib.hid hs2
      have HB2 := Lib.hid hb2
      clear hown2 hg2 hs2 hb2
      go_wp2_with fail
      go_roundw
      case rel => exact ⟨j + 1, by omega, congrArg (Value.int .i64) (by omega), HS2, HB2⟩
      case measure => first | omega | (simp [intOf]; omega)
    · obtain rfl : j = m := by omega
      have e1 : xs.take j = xs := by rw [HM.out]; simp
      have hset2 := hset.out
      rw [e1] at hset2
      have HS2 := Lib.hid hset2
      clear hset hset2 e1
      have hv2 := Lib.hid (Vw.below hbr.out (Nat.le_refl _) HV.out)
      have hbl := SetM.lt HS2.out
      go_wp2_with fail
      refine (copied_any _ _ _ _ _ hv2.out (by omega)).mono ?_
      rintro e w3 ⟨a3, c3, rfl, ho3, hb3⟩
      have hb3s := hb3.size
      have HO3 := Lib.hid ho3
      have HB3 := Lib.hid hb3
      clear ho3 hb3
      go_wp2_with fail
      refine (marsh_Uint32 w.heap.size xs es wr.heap.size a3 n c3 lb w3 (SetM.below HS2.out HB3.out hbl) (by have := HM.out; omega) (by have := HM.out; omega) HW.out HE.out HO3.out hb3s hbl (by omega)).mono ?_
      rintro e w4 ⟨a4, n4, c4, rfl, ho4, hb4⟩
      go_wp2_with fail
      go_ret
      exact ⟨a4, n4, c4, rfl, ho4.mono hbs, hbr.out.trans ((HB3.out.trans hb4).mono hbs)⟩

set_option maxRecDepth 100000 in
set_option maxHeartbeats 4000000 in
theorem putSet_Int8 (lb : List Int) (a : Option Addr) (n c : Nat) (xs : List Int) (a2 : Option Addr) (c2 : Nat) (es : List (List Int)) (w : World) (hv : Vw w a n c lb) (hr : Rd w a2 (xs.map (Value.int .i8))) (h1 : 1 ≤ xs.length) (hx : xs.length ≤ 100) (hwf : ∀ x ∈ xs, (Lit.int .i8 x).wf = true)
    (he : Encs 29 .i8 (fun x => (if 0 ≤ x then 3 else 2)) (fun x => (x % 18446744073709551616)) (inS xs) es) (hn : n ≤ 1000000) :
    Calls Try.prog 9 #[.slice a n c, .slice a2 xs.length c2] w fun e w' => ∃ a' n' c', e = .returned (.slice a' n' c') ∧ O8 w' w.heap.size a' n' c' (lb ++ (hdA (inS xs).length ++ es.flatten)) ∧ Below w.heap.size w w' := by
  obtain ⟨m, hm⟩ : ∃ m, m = xs.length := ⟨_, rfl⟩
  obtain ⟨lb2, lo2, rfl, hcl⟩ := hr.at_ (by simp; omega)
  rw [← hm] at hx h1 ⊢
  have HM := Lib.hid hm
  have HR := Lib.hid hcl
  have HV := Lib.hid hv
  have HE := Lib.hid he
  have HW := Lib.hid hwf
  clear hm hr hcl hv he hwf
  have hmm := @run_makeMap Try.prog
  go_enter Try.func9, Try.ntmps9
  go_wp2_with fail
  go_loopw [13] (fun i wr => ∃ j : Nat, j ≤ m ∧ i = .int .i64 j ∧ Hid (SetM 36 .i8 wr w.heap.size (xs.take j)) ∧ Hid (Below w.heap.size w wr)) (fun i _ => m - (intOf i).toNat)
  case atStart => exact ⟨0, Nat.zero_le _, rfl, Lib.hid (SetM.made _ _ _), Lib.hid ((Below.refl _ _).alloc (Nat.le_refl _) _)⟩
  case round =>
    obtain ⟨j, hj, rfl, hset, hbr⟩ := hrel
    have hbs := hbr.out.size
    by_cases hlt : j < m
    · have hli : (j : Int) < m := by omega
      have hjl : j < xs.length := by have := HM.out; omega
      have hcj : wr.cell? ⟨lb2, lo2 + j, none⟩ = some (.int .i8 (xs.getD j 0)) := by
        have h := HR.out j (by simpa using hjl)
        have hlt2 := World.block_lt_of_cell? w _ h
        rw [hbr.out.cell (p := ⟨lb2, lo2 + j, none⟩) hlt2, h]
        simp [List.getD, List.getElem?_eq_getElem hjl]
      obtain ⟨x, hxx⟩ : ∃ x, x = xs.getD j 0 := ⟨_, rfl⟩
      have hxm : x ∈ xs := by rw [hxx]; simp [List.getD, List.getElem?_eq_getElem hjl]
      have hwx := HW.out x hxm
      rw [← hxx] at hcj
      have htk : xs.take (j + 1) = xs.take j ++ [x] := by rw [List.take_add_one, List.getElem?_eq_getElem hjl, hxx]; simp [List.getD, List.getElem?_eq_getElem hjl]
      have HT := Lib.hid htk
      have HWX := Lib.hid hwx
      clear hxx hxm htk hwx
      go_wp2_with (at_mapUpdate; refine wpList_mapUpdate_own _ rfl _ _ _ 51 rfl 36 _ (int_keyed Try.underlying36) Try.underlying51 (unitElem (H := Unit)) w.heap.size (xs.take j).length _ rfl hset.out (by simp [maxLen]; omega) (.int .i8 x) (.agg #[]) (.int .i8 x) (by rfl) (by rfl) (keyOf_int_mk Try.underlying36 HWX.out) (.agg []) [] unitElem_mk ?_; intro w2 hown2 hg2; go_frame)
      have hs2 : SetM 36 .i8 w2 w.heap.size (xs.take (j + 1)) := by
        rw [HT.out]
        unfold SetM
        rw [dSet_snoc, List.length_append]
        exact hown2
      have hb2 : Below w.heap.size w w2 := hbr.out.grown hg2 hbs (fun k hk => by injection hk with hk; omega)
      have HS2 := Lib.hid hs2
      have HB2 := Lib.hid hb2
      clear hown2 hg2 hs2 hb2
      go_wp2_with fail
      go_roundw
      case rel => exact ⟨j + 1, by omega, congrArg (Value.int .i64) (by omega), HS2, HB2⟩
      case measure => first | omega | (simp [intOf]; omega)
    · obtain rfl : j = m := by omega
      have e1 : xs.take j = xs := by rw [HM.out]; simp
      have hset2 := hset.out
      rw [e1] at hset2
      have HS2 := Lib.hid hset2
      clear hset hset2 e1
      have hv2 := Lib.hid (Vw.below hbr.out (Nat.le_refl _) HV.out)
      have hbl := SetM.lt HS2.out
      go_wp2_with fail
      refine (copied_any _ _ _ _ _ hv2.out (by omega)).mono ?_
      rintro e w3 ⟨a3, c3, rfl, ho3, hb3⟩
      have hb3s := hb3.size
      have HO3 := Lib.hid ho3
      have HB3 := Lib.hid hb3
      clear ho3 hb3
      go_wp2_with fail
      refine (marsh_Int8 w.heap.size xs es wr.heap.size a3 n c3 lb w3 (SetM.below HS2.out HB3.out hbl) (by have := HM.out; omega) (by have := HM.out; omega) HW.out HE.out HO3.out hb3s hbl (by omega)).mono ?_
      rintro e w4 ⟨a4, n4, c4, rfl, ho4, hb4⟩
      go_wp2_with fail
      go_ret
      exact ⟨a4, n4, c4, rfl, ho4.mono hbs, hbr.out.trans ((HB3.out.trans hb4).mono hbs)⟩
end Go.Proofs.Ytbngkfdfjpbajaa
