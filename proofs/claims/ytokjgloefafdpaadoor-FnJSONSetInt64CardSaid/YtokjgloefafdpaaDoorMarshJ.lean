/- setof's sets as JSON: MarshalJSON. -/
import Derived.Test.YtokjgloefafdpaaDoorJson6
import Derived.Test.YtokjgloefafdpaaDoorAsSlice
import Derived.Shelf.Strconv.AppendInt10
import Derived.Lib.ItoaLen
namespace Go.Proofs.YtokjgloefafdpaaDoor
open Go.RowKit Go.Maps Go.Lib Go.Sort Go.Shelf
set_option linter.unusedVariables false
set_option linter.unusedSimpArgs false

/-- The listed table. -/
def Tab10 (B : Nat) (w : World) : Prop := Lib.TabBelow Tryd.prog B w "internal/strconv.uint64pow10" .u64 Lib.pow10Tab
theorem Tab10.mono {B B' : Nat} {w : World} (h : Tab10 B w) (hB : B ≤ B') : Tab10 B' w := fun w' hb => h w' (hb.mono hB)
theorem Tab10.on {B : Nat} {w w1 : World} (h : Tab10 B w) (hb : Below B w w1) : Tab10 B w1 := Lib.TabBelow.on h hb
def nums (l : List UInt8) : List Int := l.map fun b => (b.toNat : Int)
theorem byteCells_nums (l : List UInt8) : Lib.byteCells l = bytesV (nums l) := by simp [Lib.byteCells, bytesV, nums]
theorem strOf_nums (l : List UInt8) : strOfNums (nums l) = strB l := by
  unfold strOfNums nums strB
  congr 2
  rw [List.map_map]
  have : ((fun n : Int => UInt8.ofNat n.toNat) ∘ fun b : UInt8 => (b.toNat : Int)) = id := by funext b; simp
  rw [this, List.map_id]
theorem infoJ8 : (Tryd.prog.info? 5).map (fun i => (i.zero, i.size, i.bytes)) = some (some (.int .u8 0), 1, 1) := by kernel_rfl
theorem makeJ (m : Nat) (hm : m ≤ 100000) (k : Int) (hk : k = m) (w : World) : ∃ cur : Array Value, cur.size = m ∧ (Instr.makeSlice 34 (.int .i64 0) (.int .i64 k)).run Tryd.prog w = .ok (.slice (some ⟨w.heap.size, 0, none⟩) 0 m) (w.alloc (.cells cur 5)) := by
  subst hk
  obtain ⟨j, hj, hz, h1, h2⟩ := info_parts infoJ8
  have h := run_make (P := Tryd.prog) w 34 5 j (.int .u8 0) Tryd.underlying34 hj hz .i64 .i64 0 (m : Int) (by omega) (by omega) (by rw [h2]; omega) (by omega)
  rw [h1] at h
  refine ⟨madeCells (Value.int .u8 0).cells m, size_madeCells _ _, ?_⟩
  simpa using h
theorem take_snoc (d : List Int) (f : Int → List UInt8) (j : Nat) (h : j < d.length) : (d.map f).take (j + 1) = (d.map f).take j ++ [f (d.getD j 0)] := by
  rw [List.take_add_one]
  simp [List.getD, List.getElem?_eq_getElem h]
theorem take_nil (d : List Int) (f : Int → List UInt8) (j : Nat) (h : j < d.length) (h0 : 0 < j) : (d.map f).take j ≠ [] := by
  intro e
  have := congrArg List.length e
  rw [List.length_take, List.length_map] at this; simp only [List.length_nil] at this; omega

theorem strAppU (u : Nat) (hu : u < 18446744073709551616) (B n : Nat) (sv : Value) (xs : List Value) (w : World) (hown : w.ownsRow B 5 1 sv n xs) (hB : B ≤ w.heap.size) (hlim : n + 20 ≤ 140737488355328) (htab : Tab10 B w) :
    Calls Tryd.prog 44 #[sv, .int .u64 (u : Int), .int .i64 10] w fun e w' => ∃ a c, e = .returned (.slice a (n + (decDigits u).length) c) ∧ w'.ownsRow B 5 1 (.slice a (n + (decDigits u).length) c) (n + (decDigits u).length) (xs ++ Lib.byteCells (decDigits u)) ∧ Below B w w' := by
  have HC := Lib.hid (Any.internal_strconv_AppendUint_10 Tryd.laysAU B n u hu sv xs w hown hB hlim htab.here)
  clear hown htab
  go_enter Tryd.func44, Tryd.ntmps44
  go_wp2_with fail
  refine HC.out.mono ?_
  rintro e w1 ⟨v', rfl, ho, hb, _⟩
  obtain ⟨a', c', rfl⟩ := slice_of_owns ho
  go_wp2_with fail
  go_ret
  exact ⟨a', c', rfl, ho, hb⟩
theorem strAppI (i : Int) (h0 : -9223372036854775808 ≤ i) (h1 : i ≤ 9223372036854775807) (B n : Nat) (sv : Value) (xs : List Value) (w : World) (hown : w.ownsRow B 5 1 sv n xs) (hB : B ≤ w.heap.size) (hlim : n + 21 ≤ 140737488355328) (htab : Tab10 B w) :
    Calls Tryd.prog 46 #[sv, .int .i64 i, .int .i64 10] w fun e w' => ∃ a c, e = .returned (.slice a (n + (itoa i).length) c) ∧ w'.ownsRow B 5 1 (.slice a (n + (itoa i).length) c) (n + (itoa i).length) (xs ++ Lib.byteCells (itoa i)) ∧ Below B w w' := by
  have HC := Lib.hid (Any.internal_strconv_AppendInt_10 Tryd.laysAI B n i h0 h1 sv xs w hown hB hlim htab)
  clear hown htab
  go_enter Tryd.func46, Tryd.ntmps46
  go_wp2_with fail
  refine HC.out.mono ?_
  rintro e w1 ⟨v', rfl, ho, hb, _⟩
  obtain ⟨a', c', rfl⟩ := slice_of_owns ho
  go_wp2_with fail
  go_ret
  exact ⟨a', c', rfl, ho, hb⟩

theorem mapNnJ_Uint8 (b : Nat) (w : World) : (binOp .eql 75 (.map (some b)) (.map none)).run Tryd.prog w = .ok (.bool false) w := by kernel_rfl

set_option maxRecDepth 100000 in
set_option maxHeartbeats 4000000 in
theorem marshJ_Uint8 (b : Nat) (xs : List Int) (w : World) (hm : SetM 5 .u8 w b xs) (hx : xs.length ≤ 100) (hwf : ∀ x ∈ xs, (Lit.int .u8 x).wf = true) (htab : Tab10 w.heap.size w) :
    Calls Tryd.prog 30 #[.map (some b)] w fun e w' => ∃ a n c, e = .returned (.tuple #[.slice a n c, .nilIface]) ∧ Vw w' a n c (nums (jtx ((inS xs).map (fun x => decDigits x.toNat)))) ∧ Below w.heap.size w w' := by
  have hle := inS_le xs
  obtain ⟨m, hmm⟩ : ∃ m, m = (inS xs).length := ⟨_, rfl⟩
  have HAS := Lib.hid (asSlice_Uint8 b xs w hm hx hwf)
  rw [← hmm] at hle HAS
  have HMM := Lib.hid hmm
  have HW := Lib.hid hwf
  have HT := Lib.hid htab
  clear hmm hm hwf htab
  have hnn := mapNnJ_Uint8 b
  go_enter Tryd.func30, Tryd.ntmps30
  go_wp2_with fail
  refine HAS.out.mono ?_
  rintro e w1 ⟨g, c, rfl, ho1, hb1⟩
  have hgl : g < w1.heap.size := lt_of_owns ho1 _ rfl
  have HR1 := Lib.hid (Rd.of_owns ho1)
  have HB1 := Lib.hid hb1
  have hs1 := hb1.size
  have HT1 := Lib.hid ((HT.out.on hb1).mono hs1)
  clear ho1 hb1 HAS
  obtain ⟨cur, hcur, hmk⟩ := makeJ (2 + m * 10) (by omega) (2 + (m : Int) * 10) (by omega) w1
  have hrow : (w1.alloc (.cells cur 5)).ownsRow w1.heap.size 5 1 (.slice (some ⟨w1.heap.size, 0, none⟩) 0 (2 + m * 10)) 0 [] := World.ownsRow_made w1 cur (2 + m * 10) (Nat.le_refl _) (by simp only [maxLen]; omega) (by simpa using hcur)
  have HROW := Lib.hid hrow
  clear hcur hrow
  go_wp2_with (at_builtin; refine app1 (by rfl) _ _ 34 5 (.int .u8 0) 1 (by rfl) Tryd.underlying34 infoJ8 rfl (by omega) w1.heap.size (some ⟨w1.heap.size, 0, none⟩) 0 (2 + m * 10) [] (by first | rfl | simp [Act.eval, Act.put]) (World.ownsRow.alloc HROW.out _) (w1.heap.size + 1) (.int .u8 91) (by rfl) (by first | rfl | simp [Act.eval, Act.put]) (Blk.newAt (by simp) _ _) (by omega) (by simp <;> omega) ?_; intro a2 c2 w2 ho2 hg2)
  have hb2 : Below w1.heap.size w1 w2 := Below.trans (b := (w1.alloc (.cells cur 5)).alloc (.cells #[.int .u8 91] 5)) (((Below.refl _ _).alloc (Nat.le_refl _) _).alloc (by simp) _) (below_of_grown hg2 (by simp; omega) (ge_of_owns HROW.out))
  have HO2 := Lib.hid ho2
  have HB2 := Lib.hid hb2
  have hs2 := hb2.size
  clear ho2 hb2 hg2 hmk
  go_wp2_with fail
  go_loopw [5, 24] (fun s i wr => ∃ j : Nat, j ≤ m ∧ i = .int .i64 j ∧ ∃ (aj : Option Addr) (nj cj : Nat), s = .slice aj nj cj ∧ nj ≤ 1 + 22 * j ∧ Hid (wr.ownsRow w1.heap.size 5 1 (.slice aj nj cj) nj (Lib.byteCells (91 :: jn (((inS xs).map (fun x => decDigits x.toNat)).take j)))) ∧ Hid (Below w1.heap.size w1 wr)) (fun _ i _ => m - (intOf i).toNat)
  case atStart => exact ⟨0, Nat.zero_le _, rfl, a2, _, c2, rfl, by omega, Lib.hid (by simpa [jn, Lib.byteCells] using HO2.out), HB2⟩
  case round =>
    obtain ⟨j, hj, rfl, aj, nj, cj, rfl, hnj, how, hbr⟩ := hrel
    have hbs := hbr.out.size
    by_cases hlt : j < m
    · have hli : (j : Int) < m := by omega
      have hjd : j < (inS xs).length := by have := HMM.out; omega
      obtain ⟨bq, oq, e2, hc2⟩ := (HR1.out.belowAt hbr.out (fun x hx => by injection hx with hx; subst hx; exact hgl)).at_ (by simp; omega)
      injection e2 with e2
      injection e2 with e3 e4
      subst e3
      subst e4
      obtain ⟨x, hxx⟩ : ∃ x, x = (inS xs).getD j 0 := ⟨_, rfl⟩
      have hcj : wr.cell? ⟨g, j, none⟩ = some (.int .u8 x) := by
        have := hc2 j (by simp; omega)
        rw [Nat.zero_add] at this
        rw [this, hxx]
        simp [List.getD, List.getElem?_eq_getElem hjd]
      have hxm : x ∈ xs := (mem_inS x xs).1 (by rw [hxx]; simp [List.getD, List.getElem?_eq_getElem hjd])
      have hwx := HW.out x hxm
      simp [Lit.wf, IntKind.min, IntKind.max, IntKind.bits, IntKind.signed] at hwx
      have htk := take_snoc (inS xs) (fun x => decDigits x.toNat) j hjd
      rw [← hxx] at htk
      obtain ⟨u, hu⟩ : ∃ u : Nat, u = x.toNat := ⟨_, rfl⟩
      have hcv : IntKind.u64.wrap x = (u : Int) := by rw [wrap_u64]; omega
      have hu9 : u < 18446744073709551616 := by omega
      simp only [← hu] at htk
      clear hu
      have HTK := Lib.hid htk
      have HT6 := Lib.hid (fun W (h : Below w1.heap.size w1 W) => HT1.out.on h)
      have HTL := Lib.hid (Nat.le_trans (dec_len u hu9) (by omega : 20 ≤ 21))
      clear hc2 htk hxm hxx
      by_cases h0 : j = 0
      · subst h0
        have hl0 : ¬ ((0 : Int) < 0) := by omega
        go_wp2_with fail
        refine (strAppU u hu9 w1.heap.size nj _ _ wr how.out (by omega) (by omega) (HT6.out _ hbr.out)).mono ?_
        rintro e w6 ⟨a6, c6, rfl, ho6, hb6⟩
        have ho7 : w6.ownsRow w1.heap.size 5 1 (.slice a6 (nj + (decDigits u).length) c6) (nj + (decDigits u).length) (Lib.byteCells (91 :: jn (((inS xs).map (fun x => decDigits x.toNat)).take (0 + 1)))) := by
          have := ho6
          rw [HTK.out, jn_snoc]
          rw [if_pos (by simp)]
          simpa [Lib.byteCells, jn] using this
        have HO6 := Lib.hid ho7
        have hb6w := (hbr.out).trans hb6
        have HB6 := Lib.hid hb6w
        have HR6 := Lib.hid (HR1.out.belowAt hb6w (fun x hx => by injection hx with hx; subst hx; exact hgl))
        have htl := HTL.out
        clear ho6 hb6 ho7 hb6w
        go_wp2_with fail
        go_roundw
        case rel => exact ⟨0 + 1, by omega, congrArg (Value.int .i64) (by omega), a6, nj + (decDigits u).length, c6, rfl, by have := HTL.out; omega, HO6, HB6⟩
        case measure => first | omega | (simp [intOf]; omega)
      · have hl0 : (0 : Int) < j := by omega
        have HNE := Lib.hid (take_nil (inS xs) (fun x => decDigits x.toNat) j hjd (by omega))
        go_wp2_with (at_builtin; refine app1 (by rfl) _ _ 34 5 (.int .u8 0) 1 (by rfl) Tryd.underlying34 infoJ8 rfl (by omega) w1.heap.size aj nj cj _ (by rfl) (World.ownsRow.alloc how.out _) wr.heap.size (.int .u8 44) (by rfl) (by rfl) (Blk.new _ _ _) (by omega) (by simp <;> omega) ?_; intro a5 c5 w5 ho5 hg5)
        have hb5 : Below w1.heap.size w1 w5 := Below.trans (b := wr.alloc (.cells #[.int .u8 44] 5)) (hbr.out.alloc hbs _) (below_of_grown hg5 (by simp; omega) (ge_of_owns how.out))
        have hs5 := hb5.size
        have HO5 := Lib.hid ho5
        have HB5 := Lib.hid hb5
        clear ho5 hb5 hg5
        go_wp2_with fail
        refine (strAppU u hu9 w1.heap.size (nj + 1) _ _ w5 HO5.out (by omega) (by omega) (HT6.out _ HB5.out)).mono ?_
        rintro e w6 ⟨a6, c6, rfl, ho6, hb6⟩
        have ho7 : w6.ownsRow w1.heap.size 5 1 (.slice a6 ((nj + 1) + (decDigits u).length) c6) ((nj + 1) + (decDigits u).length) (Lib.byteCells (91 :: jn (((inS xs).map (fun x => decDigits x.toNat)).take (j + 1)))) := by
          have := ho6
          rw [HTK.out, jn_snoc]
          rw [if_neg HNE.out]
          simpa [Lib.byteCells] using this
        have HO6 := Lib.hid ho7
        have hb6w := (HB5.out).trans hb6
        have HB6 := Lib.hid hb6w
        have HR6 := Lib.hid (HR1.out.belowAt hb6w (fun x hx => by injection hx with hx; subst hx; exact hgl))
        have htl := HTL.out
        clear ho6 hb6 ho7 hb6w
        go_wp2_with fail
        go_roundw
        case rel => exact ⟨j + 1, by omega, congrArg (Value.int .i64) (by omega), a6, (nj + 1) + (decDigits u).length, c6, rfl, by have := HTL.out; omega, HO6, HB6⟩
        case measure => first | omega | (simp [intOf]; omega)
    · obtain rfl : j = m := by omega
      have e1 : ((inS xs).map (fun x => decDigits x.toNat)).take j = (inS xs).map (fun x => decDigits x.toNat) := by rw [HMM.out]; exact List.take_of_length_le (by simp)
      have how2 := how.out
      rw [e1] at how2
      have HOW := Lib.hid how2
      clear how2 e1 how
      go_wp2_with (at_builtin; refine app1 (by rfl) _ _ 34 5 (.int .u8 0) 1 (by rfl) Tryd.underlying34 infoJ8 rfl (by omega) w1.heap.size aj nj cj _ (by rfl) (World.ownsRow.alloc HOW.out _) wr.heap.size (.int .u8 93) (by rfl) (by rfl) (Blk.new _ _ _) (by omega) (by simp <;> omega) ?_; intro a5 c5 w5 ho5 hg5)
      have hb5 : Below w1.heap.size w1 w5 := Below.trans (b := wr.alloc (.cells #[.int .u8 93] 5)) (hbr.out.alloc hbs _) (below_of_grown hg5 (by simp; omega) (ge_of_owns HOW.out))
      have hv5 : Vw w5 a5 (nj + 1) c5 (nums (jtx ((inS xs).map (fun x => decDigits x.toNat)))) := by
        have e : Lib.byteCells (91 :: jn ((inS xs).map (fun x => decDigits x.toNat))) ++ [Value.int .u8 93] = bytesV (nums (jtx ((inS xs).map (fun x => decDigits x.toNat)))) := by
          rw [← byteCells_nums]; simp [jtx, Lib.byteCells]
        rw [e] at ho5
        obtain ⟨a', c', he, hO⟩ := Own.of_owns ho5 (by intro y hy; unfold nums at hy; obtain ⟨z, _, rfl⟩ := List.mem_map.1 hy; have := z.toNat_lt; omega)
        injection he with h6 h7 h8
        subst h6
        subst h8
        exact hO.vw
      have HV5 := Lib.hid hv5
      have HB5 := Lib.hid (HB1.out.trans (hb5.mono hs1))
      clear ho5 hb5 hg5 hv5
      go_wp2_with fail
      go_ret2
      exact ⟨a5, _, c5, rfl, HV5.out, HB5.out⟩

theorem mapNnJ_Int64 (b : Nat) (w : World) : (binOp .eql 77 (.map (some b)) (.map none)).run Tryd.prog w = .ok (.bool false) w := by kernel_rfl

set_option maxRecDepth 100000 in
set_option maxHeartbeats 4000000 in
theorem marshJ_Int64 (b : Nat) (xs : List Int) (w : World) (hm : SetM 2 .i64 w b xs) (hx : xs.length ≤ 100) (hwf : ∀ x ∈ xs, (Lit.int .i64 x).wf = true) (htab : Tab10 w.heap.size w) :
    Calls Tryd.prog 31 #[.map (some b)] w fun e w' => ∃ a n c, e = .returned (.tuple #[.slice a n c, .nilIface]) ∧ Vw w' a n c (nums (jtx ((inS xs).map (fun x => itoa x)))) ∧ Below w.heap.size w w' := by
  have hle := inS_le xs
  obtain ⟨m, hmm⟩ : ∃ m, m = (inS xs).length := ⟨_, rfl⟩
  have HAS := Lib.hid (asSlice_Int64 b xs w hm hx hwf)
  rw [← hmm] at hle HAS
  have HMM := Lib.hid hmm
  have HW := Lib.hid hwf
  have HT := Lib.hid htab
  clear hmm hm hwf htab
  have hnn := mapNnJ_Int64 b
  go_enter Tryd.func31, Tryd.ntmps31
  go_wp2_with fail
  refine HAS.out.mono ?_
  rintro e w1 ⟨g, c, rfl, ho1, hb1⟩
  have hgl : g < w1.heap.size := lt_of_owns ho1 _ rfl
  have HR1 := Lib.hid (Rd.of_owns ho1)
  have HB1 := Lib.hid hb1
  have hs1 := hb1.size
  have HT1 := Lib.hid ((HT.out.on hb1).mono hs1)
  clear ho1 hb1 HAS
  obtain ⟨cur, hcur, hmk⟩ := makeJ (2 + m * 10) (by omega) (2 + (m : Int) * 10) (by omega) w1
  have hrow : (w1.alloc (.cells cur 5)).ownsRow w1.heap.size 5 1 (.slice (some ⟨w1.heap.size, 0, none⟩) 0 (2 + m * 10)) 0 [] := World.ownsRow_made w1 cur (2 + m * 10) (Nat.le_refl _) (by simp only [maxLen]; omega) (by simpa using hcur)
  have HROW := Lib.hid hrow
  clear hcur hrow
  go_wp2_with (at_builtin; refine app1 (by rfl) _ _ 34 5 (.int .u8 0) 1 (by rfl) Tryd.underlying34 infoJ8 rfl (by omega) w1.heap.size (some ⟨w1.heap.size, 0, none⟩) 0 (2 + m * 10) [] (by first | rfl | simp [Act.eval, Act.put]) (World.ownsRow.alloc HROW.out _) (w1.heap.size + 1) (.int .u8 91) (by rfl) (by first | rfl | simp [Act.eval, Act.put]) (Blk.newAt (by simp) _ _) (by omega) (by simp <;> omega) ?_; intro a2 c2 w2 ho2 hg2)
  have hb2 : Below w1.heap.size w1 w2 := Below.trans (b := (w1.alloc (.cells cur 5)).alloc (.cells #[.int .u8 91] 5)) (((Below.refl _ _).alloc (Nat.le_refl _) _).alloc (by simp) _) (below_of_grown hg2 (by simp; omega) (ge_of_owns HROW.out))
  have HO2 := Lib.hid ho2
  have HB2 := Lib.hid hb2
  have hs2 := hb2.size
  clear ho2 hb2 hg2 hmk
  go_wp2_with fail
  go_loopw [5, 24] (fun s i wr => ∃ j : Nat, j ≤ m ∧ i = .int .i64 j ∧ ∃ (aj : Option Addr) (nj cj : Nat), s = .slice aj nj cj ∧ nj ≤ 1 + 22 * j ∧ Hid (wr.ownsRow w1.heap.size 5 1 (.slice aj nj cj) nj (Lib.byteCells (91 :: jn (((inS xs).map (fun x => itoa x)).take j)))) ∧ Hid (Below w1.heap.size w1 wr)) (fun _ i _ => m - (intOf i).toNat)
  case atStart => exact ⟨0, Nat.zero_le _, rfl, a2, _, c2, rfl, by omega, Lib.hid (by simpa [jn, Lib.byteCells] using HO2.out), HB2⟩
  case round =>
    obtain ⟨j, hj, rfl, aj, nj, cj, rfl, hnj, how, hbr⟩ := hrel
    have hbs := hbr.out.size
    by_cases hlt : j < m
    · have hli : (j : Int) < m := by omega
      have hjd : j < (inS xs).length := by have := HMM.out; omega
      obtain ⟨bq, oq, e2, hc2⟩ := (HR1.out.belowAt hbr.out (fun x hx => by injection hx with hx; subst hx; exact hgl)).at_ (by simp; omega)
      injection e2 with e2
      injection e2 with e3 e4
      subst e3
      subst e4
      obtain ⟨x, hxx⟩ : ∃ x, x = (inS xs).getD j 0 := ⟨_, rfl⟩
      have hcj : wr.cell? ⟨g, j, none⟩ = some (.int .i64 x) := by
        have := hc2 j (by simp; omega)
        rw [Nat.zero_add] at this
        rw [this, hxx]
        simp [List.getD, List.getElem?_eq_getElem hjd]
      have hxm : x ∈ xs := (mem_inS x xs).1 (by rw [hxx]; simp [List.getD, List.getElem?_eq_getElem hjd])
      have hwx := HW.out x hxm
      simp [Lit.wf, IntKind.min, IntKind.max, IntKind.bits, IntKind.signed] at hwx
      have htk := take_snoc (inS xs) (fun x => itoa x) j hjd
      rw [← hxx] at htk

      have HTK := Lib.hid htk
      have HT6 := Lib.hid (fun W (h : Below w1.heap.size w1 W) => HT1.out.on h)
      have HTL := Lib.hid (itoa_length_le x (by omega) (by omega))
      clear hc2 htk hxm hxx
      by_cases h0 : j = 0
      · subst h0
        have hl0 : ¬ ((0 : Int) < 0) := by omega
        go_wp2_with fail
        refine (strAppI x (by omega) (by omega) w1.heap.size nj _ _ wr how.out (by omega) (by omega) (HT6.out _ hbr.out)).mono ?_
        rintro e w6 ⟨a6, c6, rfl, ho6, hb6⟩
        have ho7 : w6.ownsRow w1.heap.size 5 1 (.slice a6 (nj + (itoa x).length) c6) (nj + (itoa x).length) (Lib.byteCells (91 :: jn (((inS xs).map (fun x => itoa x)).take (0 + 1)))) := by
          have := ho6
          rw [HTK.out, jn_snoc]
          rw [if_pos (by simp)]
          simpa [Lib.byteCells, jn] using this
        have HO6 := Lib.hid ho7
        have hb6w := (hbr.out).trans hb6
        have HB6 := Lib.hid hb6w
        have HR6 := Lib.hid (HR1.out.belowAt hb6w (fun x hx => by injection hx with hx; subst hx; exact hgl))
        have htl := HTL.out
        clear ho6 hb6 ho7 hb6w
        go_wp2_with fail
        go_roundw
        case rel => exact ⟨0 + 1, by omega, congrArg (Value.int .i64) (by omega), a6, nj + (itoa x).length, c6, rfl, by have := HTL.out; omega, HO6, HB6⟩
        case measure => first | omega | (simp [intOf]; omega)
      · have hl0 : (0 : Int) < j := by omega
        have HNE := Lib.hid (take_nil (inS xs) (fun x => itoa x) j hjd (by omega))
        go_wp2_with (at_builtin; refine app1 (by rfl) _ _ 34 5 (.int .u8 0) 1 (by rfl) Tryd.underlying34 infoJ8 rfl (by omega) w1.heap.size aj nj cj _ (by rfl) (World.ownsRow.alloc how.out _) wr.heap.size (.int .u8 44) (by rfl) (by rfl) (Blk.new _ _ _) (by omega) (by simp <;> omega) ?_; intro a5 c5 w5 ho5 hg5)
        have hb5 : Below w1.heap.size w1 w5 := Below.trans (b := wr.alloc (.cells #[.int .u8 44] 5)) (hbr.out.alloc hbs _) (below_of_grown hg5 (by simp; omega) (ge_of_owns how.out))
        have hs5 := hb5.size
        have HO5 := Lib.hid ho5
        have HB5 := Lib.hid hb5
        clear ho5 hb5 hg5
        go_wp2_with fail
        refine (strAppI x (by omega) (by omega) w1.heap.size (nj + 1) _ _ w5 HO5.out (by omega) (by omega) (HT6.out _ HB5.out)).mono ?_
        rintro e w6 ⟨a6, c6, rfl, ho6, hb6⟩
        have ho7 : w6.ownsRow w1.heap.size 5 1 (.slice a6 ((nj + 1) + (itoa x).length) c6) ((nj + 1) + (itoa x).length) (Lib.byteCells (91 :: jn (((inS xs).map (fun x => itoa x)).take (j + 1)))) := by
          have := ho6
          rw [HTK.out, jn_snoc]
          rw [if_neg HNE.out]
          simpa [Lib.byteCells] using this
        have HO6 := Lib.hid ho7
        have hb6w := (HB5.out).trans hb6
        have HB6 := Lib.hid hb6w
        have HR6 := Lib.hid (HR1.out.belowAt hb6w (fun x hx => by injection hx with hx; subst hx; exact hgl))
        have htl := HTL.out
        clear ho6 hb6 ho7 hb6w
        go_wp2_with fail
        go_roundw
        case rel => exact ⟨j + 1, by omega, congrArg (Value.int .i64) (by omega), a6, (nj + 1) + (itoa x).length, c6, rfl, by have := HTL.out; omega, HO6, HB6⟩
        case measure => first | omega | (simp [intOf]; omega)
    · obtain rfl : j = m := by omega
      have e1 : ((inS xs).map (fun x => itoa x)).take j = (inS xs).map (fun x => itoa x) := by rw [HMM.out]; exact List.take_of_length_le (by simp)
      have how2 := how.out
      rw [e1] at how2
      have HOW := Lib.hid how2
      clear how2 e1 how
      go_wp2_with (at_builtin; refine app1 (by rfl) _ _ 34 5 (.int .u8 0) 1 (by rfl) Tryd.underlying34 infoJ8 rfl (by omega) w1.heap.size aj nj cj _ (by rfl) (World.ownsRow.alloc HOW.out _) wr.heap.size (.int .u8 93) (by rfl) (by rfl) (Blk.new _ _ _) (by omega) (by simp <;> omega) ?_; intro a5 c5 w5 ho5 hg5)
      have hb5 : Below w1.heap.size w1 w5 := Below.trans (b := wr.alloc (.cells #[.int .u8 93] 5)) (hbr.out.alloc hbs _) (below_of_grown hg5 (by simp; omega) (ge_of_owns HOW.out))
      have hv5 : Vw w5 a5 (nj + 1) c5 (nums (jtx ((inS xs).map (fun x => itoa x)))) := by
        have e : Lib.byteCells (91 :: jn ((inS xs).map (fun x => itoa x))) ++ [Value.int .u8 93] = bytesV (nums (jtx ((inS xs).map (fun x => itoa x)))) := by
          rw [← byteCells_nums]; simp [jtx, Lib.byteCells]
        rw [e] at ho5
        obtain ⟨a', c', he, hO⟩ := Own.of_owns ho5 (by intro y hy; unfold nums at hy; obtain ⟨z, _, rfl⟩ := List.mem_map.1 hy; have := z.toNat_lt; omega)
        injection he with h6 h7 h8
        subst h6
        subst h8
        exact hO.vw
      have HV5 := Lib.hid hv5
      have HB5 := Lib.hid (HB1.out.trans (hb5.mono hs1))
      clear ho5 hb5 hg5 hv5
      go_wp2_with fail
      go_ret2
      exact ⟨a5, _, c5, rfl, HV5.out, HB5.out⟩
end Go.Proofs.YtokjgloefafdpaaDoor
