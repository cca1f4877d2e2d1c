/- The walk of laws.FnSetOfJSONUint16. -/
import Derived.Test.YtokjgloefafdpaaDoorSetOf
import Derived.Test.YtokjgloefafdpaaDoorSameIt
import Derived.Test.YtokjgloefafdpaaDoorInSet
namespace Go.Proofs.YtokjgloefafdpaaDoor
open Go.RowKit Go.Maps Go.Lib
set_option linter.unusedVariables false
set_option linter.unusedSimpArgs false

theorem five_dec : strD (jtB false ([5].map decDigits)) = { data := #[91, 53, 93] } := by
  have e : decDigits 5 = [53] := by rw [decDigits]; rfl
  simp only [List.map_cons, List.map_nil, e]
  rfl
theorem infoStr : (Tryd.prog.info? 9).map (fun i => (i.zero, i.size, i.bytes)) = some (some (.string ⟨#[]⟩), 1, 16) := by kernel_rfl

set_option maxRecDepth 100000 in
set_option maxHeartbeats 4000000 in
theorem fnSetOfUint16_us (bl : Bool) (la : Option Addr) (m lc : Nat) (us : List Nat) (w : World) (hr : Rd w la ((us.map fun (u : Nat) => (u : Int)).map (Value.int .u16))) (hm : m = us.length) (hus : ∀ u ∈ us, u < 2 ^ 16) :
    Calls Tryd.prog 7 #[.slice la m lc, .bool bl] w fun e w' => e = .returned (.bool true) ∧ Below w.heap.size w w' := by
  by_cases hbig2 : 2147483647 < m
  · have hb2 : (2147483647 : Int) < m := by omega
    go_enter Tryd.func7, Tryd.ntmps7
    go_wp2_with fail
    go_ret
    exact ⟨rfl, Below.refl _ _⟩
  have hb2 : ¬ ((2147483647 : Int) < m) := by omega
  have hp5 := setOf_Uint16 false [5] (by simp) (by simp) w
  rw [five_dec] at hp5
  have e5 : inS ([5].map fun (u : Nat) => (u : Int)) = [5] := by decide
  rw [e5] at hp5
  have HP5 := Lib.hid hp5
  have HR := Lib.hid hr
  have HM := Lib.hid hm
  have HUS := Lib.hid hus
  clear hp5 hr hm hus e5
  go_enter Tryd.func7, Tryd.ntmps7
  go_wp2_with fail
  refine HP5.out.mono ?_
  rintro e w1 ⟨a1, c1, rfl, hr1, hb1⟩
  obtain ⟨b1, o1, rfl, hc1⟩ := hr1.at_ (by simp)
  have c10 : w1.cell? ⟨b1, o1, none⟩ = some (.int .u16 5) := by have := hc1 0 (by simp); simpa using this
  have HB1 := Lib.hid hb1
  have hz1 := hb1.size
  clear hr1 hc1 hb1
  by_cases hm1 : 100 < m
  · have hm2 : (100 : Int) < m := by omega
    go_wp2_with fail
    go_ret
    exact ⟨rfl, HB1.out⟩
  have hm2 : ¬ ((100 : Int) < m) := by omega
  go_wp2_with fail
  clear c10
  go_loopw [8, 38] (fun s i wr => ∃ j : Nat, j ≤ m ∧ i = .int .i64 j ∧ ∃ aj cj, s = .slice aj j cj ∧ Hid (wr.ownsRow w1.heap.size 9 1 (.slice aj j cj) j (((us.map decDigits).take j).map fun t => Value.string (strD t))) ∧ Hid (Below w1.heap.size w1 wr)) (fun _ i _ => m - (intOf i).toNat)
  case atStart => exact ⟨0, Nat.zero_le _, rfl, none, 0, rfl, Lib.hid (World.ownsRow_nil _ _ _ _), Lib.hid (Below.refl _ _)⟩
  case round =>
    obtain ⟨j, hj, rfl, aj, cj, rfl, how, hbr⟩ := hrel
    have hbs := hbr.out.size
    by_cases hlt : j < m
    · have hli : (j : Int) < m := by omega
      have hju : j < us.length := by have := HM.out; omega
      obtain ⟨bq, oq, rfl, hc2⟩ := ((HR.out.below HB1.out (Nat.le_refl _)).below hbr.out (Nat.le_refl _)).at_ (by simp; omega)
      obtain ⟨u, hu⟩ : ∃ u, u = us[j] := ⟨_, rfl⟩
      have hcj : wr.cell? ⟨bq, oq + j, none⟩ = some (.int .u16 (u : Int)) := by
        rw [hc2 j (by simp; omega), hu]
        simp [List.getD, List.getElem?_eq_getElem hju]
      have hub := HUS.out us[j] (List.getElem_mem _)
      rw [← hu] at hub
      have hcv : IntKind.u64.wrap (u : Int) = (u : Int) := by rw [wrap_u64]; omega
      have HDG := Lib.hid (digitsOf_any u (by omega) wr)
      have htk : ((us.map decDigits).take (j + 1)).map (fun t => Value.string (strD t)) = ((us.map decDigits).take j).map (fun t => Value.string (strD t)) ++ [Value.string (strD (decDigits u))] := by
        have hjd : j < (us.map decDigits).length := by simpa using hju
        rw [List.take_add_one, List.getElem?_eq_getElem hjd, List.getElem_map, hu, List.map_append]; rfl
      obtain ⟨st, hst⟩ : ∃ st, st = strD (decDigits u) := ⟨_, rfl⟩
      rw [← hst] at htk HDG
      have HTK := Lib.hid htk
      clear hu htk hst hc2
      go_wp2_with fail
      refine HDG.out.mono ?_
      rintro e w3 ⟨rfl, hb3⟩
      have hb13 := hbr.out.trans (hb3.mono hbs)
      have hz3 := hb13.size
      have HB3 := Lib.hid hb13
      have HO3 := Lib.hid (owns_below how.out hb3)
      clear hb3 hb13
      go_wp2_with (at_builtin; refine app1 (by rfl) _ _ 22 9 (.string ⟨#[]⟩) 16 (by rfl) Tryd.underlying22 infoStr rfl (by omega) w1.heap.size aj j cj _ (by rfl) (World.ownsRow.alloc HO3.out _) w3.heap.size (.string st) (by rfl) (by rfl) (Blk.new _ _ _) (by omega) (by simp <;> omega) ?_; intro a5 c5 w5 ho5 hg5)
      have hb5 : Below w1.heap.size w1 w5 := Below.trans (b := w3.alloc (.cells #[.string st] 9)) (HB3.out.alloc hz3 _) (below_of_grown hg5 (by simp; omega) (ge_of_owns HO3.out))
      rw [← HTK.out] at ho5
      have HO5 := Lib.hid ho5
      have HB5 := Lib.hid hb5
      clear ho5 hb5 hg5
      go_wp2_with fail
      go_roundw
      case rel => exact ⟨j + 1, by omega, congrArg (Value.int .i64) (by omega), a5, c5, rfl, HO5, HB5⟩
      case measure => first | omega | (simp [intOf]; omega)
    · have hli : ¬ (j : Int) < m := by omega
      obtain rfl : j = m := by omega
      have how2 := how.out
      rw [List.take_of_length_le (by simp; have := HM.out; omega)] at how2
      have hbw := HB1.out.trans (hbr.out.mono hz1)
      have hzw := hbw.size
      have h20 : ∀ t ∈ us.map decDigits, t.length ≤ 20 := fun t ht => by
        obtain ⟨u, hu, rfl⟩ := List.mem_map.1 ht
        exact dec_len u (by have := HUS.out u hu; omega)
      have hjl := jsonList_any bl (us.map decDigits) aj cj wr (Rd.of_owns how2) (by simp; have := HM.out; omega) h20
      rw [List.length_map, ← HM.out] at hjl
      have hso := fun W => setOf_Uint16 bl us HUS.out (by have := HM.out; omega) W
      obtain ⟨st, hst⟩ : ∃ st, st = strD (jtB bl (us.map decDigits)) := ⟨_, rfl⟩
      rw [← hst] at hjl hso
      obtain ⟨xs, hxs⟩ : ∃ xs : List Int, xs = us.map fun (u : Nat) => (u : Int) := ⟨_, rfl⟩
      have hr2 := HR.out
      rw [← hxs] at hso hr2
      have hxl : xs.length = j := by rw [hxs, List.length_map]; exact HM.out.symm
      have HXL := Lib.hid hxl
      have HR2 := Lib.hid hr2
      have HJL := Lib.hid hjl
      have HSO := Lib.hid hso
      have HBW := Lib.hid hbw
      have hle := inS_le xs
      obtain ⟨k, hk⟩ : ∃ k, k = (inS xs).length := ⟨_, rfl⟩
      rw [← hk] at hle HSO
      have HK := Lib.hid hk
      clear how2 hjl hso hxs hxl hr2 hbw h20 hst hk
      go_wp2_with fail
      refine HJL.out.mono ?_
      rintro e w2 ⟨rfl, rfl⟩
      go_wp2_with fail
      refine (HSO.out _).mono ?_
      rintro e w3 ⟨a3, c3, rfl, hr3, hb3⟩
      have hb3w := HBW.out.trans (hb3.mono hzw)
      have hz3 := hb3w.size
      have hin := inSet_u16 xs la lc w3 (by have := HXL.out; omega) (HR2.out.below hb3w (Nat.le_refl _))
      rw [HXL.out, ← HK.out] at hin
      have HIN := Lib.hid hin
      have HR3 := Lib.hid hr3
      have HB3 := Lib.hid hb3w
      clear hin hr3 hb3 hb3w
      go_wp2_with fail
      refine HIN.out.mono ?_
      rintro e w4 ⟨a4, c4, rfl, hr4, hb4⟩
      have hsm := same_u16 (inS xs) a3 a4 c3 c4 w4 (by have := HK.out; have := HXL.out; omega) (HR3.out.below hb4 (Nat.le_refl _)) hr4
      rw [← HK.out] at hsm
      have HSM := Lib.hid hsm
      have hb4w := HB3.out.trans (hb4.mono hz3)
      have hz4 := hb4w.size
      have HB4 := Lib.hid hb4w
      clear hsm hb4 hr4 hb4w
      go_wp2_with fail
      refine HSM.out.mono ?_
      rintro e w5 ⟨rfl, hb5⟩
      have HB5 := Lib.hid (HB4.out.trans (hb5.mono hz4))
      clear hb5
      go_wp2_with fail
      go_ret
      exact ⟨rfl, HB5.out⟩
theorem fnSetOfUint16_walk (bl : Bool) (la : Option Addr) (m lc : Nat) (xs : List Int) (w : World) (hr : Rd w la (xs.map (Value.int .u16))) (hm : m = xs.length) (hwf : ∀ x ∈ xs, (Lit.int .u16 x).wf = true) :
    Calls Tryd.prog 7 #[.slice la m lc, .bool bl] w fun e w' => e = .returned (.bool true) ∧ Below w.heap.size w w' := by
  have hb : ∀ x ∈ xs, 0 ≤ x ∧ x < 2 ^ 16 := fun x hx => by
    have h := hwf x hx
    simp [Lit.wf, IntKind.min, IntKind.max, IntKind.bits, IntKind.signed] at h; omega
  have e : (xs.map Int.toNat).map (fun (u : Nat) => (u : Int)) = xs := by
    rw [List.map_map]
    conv => rhs; rw [← List.map_id xs]
    exact List.map_congr_left fun x hx => by have := (hb x hx).1; simp; omega
  exact fnSetOfUint16_us bl la m lc (xs.map Int.toNat) w (by rw [e]; exact hr) (by simpa using hm) (fun u hu => by
    obtain ⟨x, hx, rfl⟩ := List.mem_map.1 hu
    have := hb x hx; omega)
end Go.Proofs.YtokjgloefafdpaaDoor
