/- setof's sets read: UnmarshalMsg; impl.GetSet... -/
import Derived.Test.YtbngkfdfjpbajaaDoorRah
import Derived.Test.YtbngkfdfjpbajaaDoorIntP
import Derived.Test.YtbngkfdfjpbajaaDoorAsSlice
import Derived.Test.YtbngkfdfjpbajaaDoorApp
namespace Go.Proofs.YtbngkfdfjpbajaaDoor
open Go.RowKit Go.Maps Go.Lib
set_option linter.unusedVariables false
set_option linter.unusedSimpArgs false

/-- A reader of one value's bytes. -/
def Rk (F : FuncId) (q : IntKind) (x : Int) (enc : List Int) : Prop := ∀ (rest : List Int) (a : Option Addr) (n c : Nat) (w : World), Vw w a n c (enc ++ rest) →
  ∃ a', Vw w a' (n - enc.length) (c - enc.length) rest ∧ Calls Tryd.prog F #[.slice a n c] w fun e w' => e = .returned (.tuple #[.int q x, .slice a' (n - enc.length) (c - enc.length), .nilIface]) ∧ Below w.heap.size w w'

theorem Vw.mapKept {H : Type} {k : TypeId} {R : Value → Option (DataW H × List MemPlace)} {D : DataW H} {w w' : World} {a : Option Addr} {n c b m : Nat} {l : List Int} (h : Vw w a n c l) (hown : w.ownsMap Tryd.prog k R b m D) (hg : w.grownBy w' (some b)) : Vw w' a n c l := by
  obtain ⟨es, clock, hb, _⟩ := hown
  refine h.of_cells fun b' o v hv => ?_
  have hlt := World.block_lt_of_cell? w _ hv
  have hne : b' ≠ b := by
    rintro rfl
    simp [World.cell?, hb] at hv
  rw [World.cell?_of_block (hg.block b' hlt (fun e => hne (by injection e)))]
  exact hv

theorem Vw.setMap {w : World} {R T : Nat} {a : Option Addr} {n c : Nat} {l : List Int} (h : Vw w a n c l) (hR : Blk w R T #[.map none]) (v : Value) : Vw (w.setCell ⟨R, 0, none⟩ v) a n c l := by
  refine ⟨h.len, h.cap, h.big, h.byt, h.nul, ?_⟩
  rcases h.cells with h0 | ⟨b, off, ha, hc⟩
  · exact .inl h0
  · refine .inr ⟨b, off, ha, fun i hi => ?_⟩
    rw [World.cell?_setCell_other]
    · exact hc i hi
    · intro e
      have h1 := hc i hi
      have h2 := hR.cell (i := 0) (v := .map none) rfl
      rw [← e, h2] at h1
      cases h1

theorem div_lt {n : Nat} {k : Nat} (h : (n : Int) / ((2 : Int) ^ k) = 0) : (n : Int) < 2 ^ k := by
  have hp : (0 : Int) < 2 ^ k := Int.pow_pos (by decide)
  by_cases h1 : (n : Int) < 2 ^ k
  · exact h1
  · have := Int.le_ediv_of_mul_le hp (show (1 : Int) * 2 ^ k ≤ n by omega)
    omega

/-- The head of an array, in whatever form, read. -/
theorem rah_of {m : Nat} {h : List Int} (hh : HeadL m 144 16 formsA h) (t : List Int) (a : Option Addr) (n c : Nat) (w : World) (hv : Vw w a n c (h ++ t)) : ∃ z r, h = z :: r ∧ z ≠ 192 ∧ ∃ a', Vw w a' (n - h.length) (c - h.length) t ∧ Rah a n c w m a' h.length := by
  obtain ⟨z, r, rfl, h1⟩ := headL_hd hh
  refine ⟨z, r, rfl, ?_⟩
  rcases h1 with ⟨_, hm, rfl, rfl⟩ | ⟨f, hf, hd, rfl, rfl⟩
  · refine ⟨by omega, ?_⟩
    obtain ⟨a', h2, h3⟩ := rah_fix (144 + (m : Int)) t a n c w hv (by omega) (by omega)
    exact ⟨a', h2, by rw [show (144 : Int) + m - 144 = m by omega] at h3; exact h3⟩
  · simp [formsA] at hf
    rcases hf with rfl | rfl
    · refine ⟨by decide, ?_⟩
      have hlt : (m : Int) < 65536 := by
        rcases hd with hd | hd
        · exact absurd hd (by decide)
        · have := div_lt hd; simpa using this
      simp only [beL_2] at hv ⊢
      obtain ⟨a', h2, h3⟩ := rah_220 _ _ t a n c w hv
      rw [beN_2, Int.emod_eq_of_lt (by omega) hlt] at h3
      exact ⟨a', h2, h3⟩
    · refine ⟨by decide, ?_⟩
      have hlt : (m : Int) < 4294967296 := by
        rcases hd with hd | hd
        · exact absurd hd (by decide)
        · have := div_lt hd; simpa using this
      simp only [beL_4] at hv ⊢
      obtain ⟨a', h2, h3⟩ := rah_221 _ _ _ _ t a n c w hv
      rw [beN_4, Int.emod_eq_of_lt (by omega) hlt] at h3
      exact ⟨a', h2, h3⟩

/-- Values' bytes, as spec.PutPack may write them. -/
def PEs (xs : List Int) (es : List (List Int)) : Prop := es.length = xs.length ∧ ∀ i (h : i < es.length), PosL (xs.getD i 0) es[i]
theorem flatD (es : List (List Int)) (j : Nat) (h : j < es.length) : (es.drop j).flatten = es[j] ++ (es.drop (j + 1)).flatten := by
  rw [List.drop_eq_getElem_cons h, List.flatten_cons]
theorem pes_len : ∀ (es : List (List Int)), (∀ i (h : i < es.length), 1 ≤ es[i].length ∧ es[i].length ≤ 9) → es.length ≤ es.flatten.length ∧ es.flatten.length ≤ es.length * 9
  | [], _ => by simp
  | e :: r, h => by
    have h1 := h 0 (by simp)
    have h2 := pes_len r (fun i hi => by have := h (i + 1) (by simpa using hi); rwa [List.getElem_cons_succ] at this)
    rw [List.getElem_cons_zero] at h1
    rw [List.flatten_cons, List.length_append, List.length_cons]; omega

set_option maxRecDepth 100000 in
set_option maxHeartbeats 4000000 in
theorem rk_Uint16 (x : Int) (h0 : 0 ≤ x) (h1 : x < 65536) (enc : List Int) (h : PosL x enc) : Rk 43 .u16 x enc := by
  intro rest a n c w hv
  have hd := (dUint_pos x h0 (by omega) enc (by omega) h).1 rest
  obtain ⟨a1, hv1, hc⟩ := ru_good a n c _ x enc.length hd w hv
  have HC := Lib.hid hc
  refine ⟨a1, by simpa using hv1, ?_⟩
  have hng : ¬ (65535 < x) := by omega
  have hwu : IntKind.u16.wrap x = x := by rw [IntKind.wrap_u16]; omega
  clear hc hd hv1 hv h
  go_enter Tryd.func43, Tryd.ntmps43
  go_wp2_with fail
  refine HC.out.mono ?_
  rintro e w1 ⟨rfl, hb1⟩
  go_wp2_with fail
  go_ret3
  exact ⟨rfl, hb1⟩
set_option maxRecDepth 100000 in
set_option maxHeartbeats 4000000 in
theorem rk_Uint (x : Int) (h0 : 0 ≤ x) (h1 : x < 18446744073709551616) (enc : List Int) (h : PosL x enc) : Rk 49 .u64 x enc := by
  intro rest a n c w hv
  have hd := (dUint_pos x h0 (by omega) enc (by omega) h).1 rest
  obtain ⟨a1, hv1, hc⟩ := ru_good a n c _ x enc.length hd w hv
  have HC := Lib.hid hc
  refine ⟨a1, by simpa using hv1, ?_⟩
  clear hc hd hv1 hv h
  go_enter Tryd.func49, Tryd.ntmps49
  go_wp2_with fail
  refine HC.out.mono ?_
  rintro e w1 ⟨rfl, hb1⟩
  go_wp2_with fail
  go_ret3
  exact ⟨rfl, hb1⟩

theorem makeH_Uint16 (u : Int) (w : World) : (Instr.makeMap 62 (some (.int .u32 u))).run Tryd.prog w = .ok (.map (some w.heap.size)) (w.alloc (.map #[] 0)) := by kernel_rfl
theorem mapN0_Uint16 (w : World) : (binOp .eql 62 (.map none) (.map none)).run Tryd.prog w = .ok (.bool true) w := by kernel_rfl

set_option maxRecDepth 100000 in
set_option maxHeartbeats 4000000 in
theorem unm_Uint16 (R : Nat) (h : List Int) (xs : List Int) (es : List (List Int)) (tail : List Int) (a : Option Addr) (n c : Nat) (w : World) (hR : Blk w R 62 #[.map none]) (hh : HeadL xs.length 144 16 formsA h) (he : PEs xs es) (hx : ∀ x ∈ xs, (Lit.int .u16 x).wf = true) (hm : xs.length ≤ 100)
    (hv : Vw w a n c (h ++ (es.flatten ++ tail))) :
    Calls Tryd.prog 25 #[.pointer (some ⟨R, 0, none⟩), .slice a n c] w fun e w' => ∃ a' c' b, e = .returned (.tuple #[.slice a' tail.length c', .nilIface]) ∧ Vw w' a' tail.length c' tail ∧ Blk w' R 62 #[.map (some b)] ∧ SetM 38 .u16 w' b xs ∧ Below R w w' ∧ w.heap.size ≤ w'.heap.size := by
  obtain ⟨z, r, hz, hz2, a1, hv1, hrah⟩ := rah_of hh _ a n c w hv
  rw [hz] at hv
  obtain ⟨m, hmm⟩ : ∃ m, m = xs.length := ⟨_, rfl⟩
  rw [← hmm] at hm hrah
  have HN := Lib.hid (isNil_no z _ a n c w hv hz2)
  unfold Rah at hrah
  have HRA := Lib.hid hrah
  have HM := Lib.hid hmm
  have HE := Lib.hid he
  have HX := Lib.hid hx
  have HV1 := Lib.hid hv1
  have hRl := hR.lt
  have HRB := Lib.hid hR
  have hm0 := mapN0_Uint16
  have hmk := makeH_Uint16
  clear hrah hmm he hx hv1 hv hz hh hR
  go_enter Tryd.func25, Tryd.ntmps25
  go_wp2_with fail
  refine HN.out.mono ?_
  rintro e w0 ⟨rfl, rfl⟩
  go_wp2_with fail
  refine HRA.out.mono ?_
  rintro e w1 ⟨rfl, hb1⟩
  have hs1 := hb1.size
  have hR1 := Blk.below HRB.out hb1 hRl
  have q0 : w1.cell? ⟨R, 0, none⟩ = some (.map none) := hR1.cell rfl
  have HR1 := Lib.hid hR1
  have HV2 := Lib.hid (Vw.below hb1 (Nat.le_refl _) HV1.out)
  have HB1 := Lib.hid hb1
  clear hb1 hR1
  go_wp2_with fail
  have hsm : w1.heap.size < (w1.alloc (.map #[] 0)).heap.size := by simp
  go_loopw [1, 34] (fun s i wr => ∃ j : Nat, j ≤ m ∧ i = .int .u32 j ∧ ∃ aj nj cj, s = .slice aj nj cj ∧ Hid (Vw wr aj nj cj ((es.drop j).flatten ++ tail)) ∧ Hid (SetM 38 .u16 wr w1.heap.size (xs.take j)) ∧ Hid (Blk wr R 62 #[.map none]) ∧ Hid (Below R w0 wr ∧ w1.heap.size < wr.heap.size)) (fun _ i _ => m - (intOf i).toNat)
  case atStart => exact ⟨0, Nat.zero_le _, rfl, a1, _, _, rfl, Lib.hid (by simpa using HV2.out.alloc _), Lib.hid (SetM.made _ _ _), Lib.hid (HR1.out.alloc _), Lib.hid ⟨(HB1.out.mono (by omega)).alloc (by omega) _, hsm⟩⟩
  case round =>
    obtain ⟨j, hj, rfl, aj, nj, cj, rfl, hvj, hset, hRj, hbr⟩ := hrel
    have hbs := hbr.out.2
    by_cases hlt : j < m
    · have hli : (j : Int) < m := by omega
      have hjx : j < xs.length := by have := HM.out; omega
      have hje : j < es.length := by have := HE.out.1; omega
      have hvj2 := hvj.out
      rw [flatD es j hje, List.append_assoc] at hvj2
      have hP := HE.out.2 j hje
      have hxm : xs.getD j 0 ∈ xs := by simp [List.getD, List.getElem?_eq_getElem hjx]
      have htk : xs.take (j + 1) = xs.take j ++ [xs.getD j 0] := by rw [List.take_add_one, List.getElem?_eq_getElem hjx]; simp [List.getD, List.getElem?_eq_getElem hjx]
      obtain ⟨x, hxx⟩ : ∃ x, x = xs.getD j 0 := ⟨_, rfl⟩
      rw [← hxx] at hP hxm htk
      have hwx := HX.out x hxm
      have hb9 := Go.Proofs.YtbngkfdfjpbajaaDoor.wf_u16 x hwx
      obtain ⟨a2, hv2, hcall⟩ := rk_Uint16 x hb9.1 hb9.2 _ hP _ _ _ _ _ hvj2
      have HC := Lib.hid hcall
      have HV3 := Lib.hid hv2
      have HWX := Lib.hid hwx
      have HT := Lib.hid htk
      obtain ⟨k, hk⟩ : ∃ k, k = es[j].length := ⟨_, rfl⟩
      rw [← hk] at HC HV3
      clear hvj2 hP hxm htk hxx hwx hb9 hv2 hcall hk
      go_wp2_with fail
      refine HC.out.mono ?_
      rintro e w2 ⟨rfl, hb2⟩
      have hs2 := hb2.size
      have hset2 := SetM.below hset.out hb2 hbs
      have HS2 := Lib.hid hset2
      have HV4 := Lib.hid (Vw.below hb2 (Nat.le_refl _) HV3.out)
      have HR2 := Lib.hid (Blk.below hRj.out hb2 hRj.out.lt)
      have HB2 := Lib.hid (hbr.out.1.trans (hb2.mono (by have := hRj.out.lt; omega)))
      clear hb2 hset2
      go_wp2_with (at_mapUpdate; refine wpList_mapUpdate_own _ rfl _ _ _ 62 rfl 38 _ (int_keyed Tryd.underlying38) Tryd.underlying62 (unitElem (H := Unit)) w1.heap.size (xs.take j).length _ rfl HS2.out (by simp [maxLen]; omega) (.int .u16 x) (.agg #[]) (.int .u16 x) (by rfl) (by rfl) (keyOf_int_mk Tryd.underlying38 HWX.out) (.agg []) [] unitElem_mk ?_; intro w3 hown3 hg3; go_frame)
      have hs3 : SetM 38 .u16 w3 w1.heap.size (xs.take (j + 1)) := by
        rw [HT.out]
        unfold SetM
        rw [dSet_snoc, List.length_append]
        exact hown3
      have hb3 : Below R w0 w3 := HB2.out.grown hg3 (by have := HR2.out.lt; omega) (fun k hk => by injection hk with hk; omega)
      have hv5 := HV4.out.mapKept HS2.out hg3
      have hR3 : Blk w3 R 62 #[.map none] := by
        unfold Blk
        rw [hg3.block R HR2.out.lt (fun e => by injection e with e; omega)]
        exact HR2.out
      have HX3 := Lib.hid (And.intro hs3 (And.intro hb3 (And.intro hv5 (And.intro hR3 hg3.size))))
      clear hown3 hg3 hs3 hb3 hv5 hR3
      have hwu : IntKind.u32.wrap ((j : Int) + 1) = ((j + 1 : Nat) : Int) := by rw [IntKind.wrap_u32]; omega
      go_wp2_with fail
      go_roundw
      case rel => exact ⟨j + 1, by omega, by first | exact congrArg (Value.int .u32) hwu | exact congrArg (Value.int .u32) (by omega), a2, _, _, rfl, Lib.hid HX3.out.2.2.1, Lib.hid HX3.out.1, Lib.hid HX3.out.2.2.2.1, Lib.hid ⟨HX3.out.2.1, by have := HX3.out.2.2.2.2; omega⟩⟩
      case measure => first | omega | (simp [intOf]; omega) | (rw [hwu]; simp [intOf]; omega)
    · obtain rfl : j = m := by omega
      have e1 : xs.take j = xs := by rw [HM.out]; simp
      have e2 : es.drop j = [] := List.drop_eq_nil_of_le (by have := HE.out.1; have := HM.out; omega)
      have hset2 := hset.out
      have hv2 := hvj.out
      rw [e1] at hset2
      rw [e2, List.flatten_nil, List.nil_append] at hv2
      have hnt := hv2.len
      obtain rfl : nj = tail.length := hnt.symm
      have HS2 := Lib.hid hset2
      have HV3 := Lib.hid hv2
      have q1 : wr.cell? ⟨R, 0, none⟩ = some (.map none) := hRj.out.cell rfl
      have f1 : wr.frozen? ⟨R, 0, none⟩ = false := hRj.out.frozen 0
      clear hset2 hv2 hnt e1 e2
      go_wp2_with fail
      go_ret2
      refine ⟨aj, cj, w1.heap.size, rfl, ?_, ?_, ?_, ?_, ?_⟩
      · exact HV3.out.setMap hRj.out _
      · exact hRj.out.set 0 (.map (some w1.heap.size))
      · exact SetM.setCell HS2.out (by simp; omega) _
      · exact hbr.out.1.setCell (by simp) _
      · simp; omega

theorem infoG_Uint16 : (Tryd.prog.info? 38).map (fun i => (i.zero, i.size, i.bytes)) = some (some (.int .u16 0), 1, 2) := by kernel_rfl
set_option maxRecDepth 100000 in
set_option maxHeartbeats 4000000 in
theorem getSet_Uint16 (h : List Int) (xs : List Int) (es : List (List Int)) (tail : List Int) (a : Option Addr) (n c : Nat) (w : World) (hh : HeadL xs.length 144 16 formsA h) (he : PEs xs es) (hx : ∀ x ∈ xs, (Lit.int .u16 x).wf = true) (hm : xs.length ≤ 100)
    (hv : Vw w a n c (h ++ (es.flatten ++ tail))) (hn : n ≤ 1000000) :
    Calls Tryd.prog 11 #[.slice a n c] w fun e w' => ∃ ga gc ra rc, e = .returned (.tuple #[.slice ga (inS xs).length gc, .slice ra tail.length rc, .bool true]) ∧ Rd w' ga ((inS xs).map (Value.int .u16)) ∧ Vw w' ra tail.length rc tail ∧ Below w.heap.size w w' := by
  obtain ⟨z, r, hz, hz2, a1, hv1, hrah⟩ := rah_of hh _ a n c w hv
  have hl1 := hv1.len
  rw [List.length_append] at hl1
  have hpl := (pes_len es (fun i hi => posL_len (he.2 i hi))).1
  have hnf := enough_yes z (r ++ (es.flatten ++ tail)) a n c w xs.length h.length (by rw [hz] at hv; exact hv) hz2 a1 hrah (by have := he.1; omega) (by omega)
  have hil := inS_le xs
  have HNF := Lib.hid hnf
  have HV := Lib.hid hv
  have HH := Lib.hid hh
  have HE := Lib.hid he
  have HX := Lib.hid hx
  clear hnf hv hh he hx hv1 hrah hz hl1 hpl
  go_enter Tryd.func11, Tryd.ntmps11
  go_wp2_with fail
  refine HNF.out.mono ?_
  rintro e w1 ⟨rfl, hb1⟩
  have hs1 := hb1.size
  have HB1 := Lib.hid hb1
  have HV1 := Lib.hid (Vw.below hb1 (Nat.le_refl _) HV.out)
  clear hb1
  go_wp2_with fail
  refine (copied_any _ _ _ _ _ (HV1.out.alloc _) (by omega)).mono ?_
  rintro e w2 ⟨a2, c2, rfl, ho2, hb2⟩
  have hR2 : Blk w2 w1.heap.size 62 #[.map none] := Blk.below (Blk.new w1 _ _) hb2 (by simp)
  have hs2 := hb2.size
  have hb2w : Below w.heap.size w w2 := (HB1.out.alloc (by omega) _).trans (hb2.mono (by simp; omega))
  have HU := Lib.hid (unm_Uint16 w1.heap.size h xs es tail a2 n c2 w2 hR2 HH.out HE.out HX.out hm ho2.vw)
  have HB2 := Lib.hid hb2w
  clear hR2 ho2 hb2 hb2w
  go_wp2_with fail
  refine HU.out.mono ?_
  rintro e w3 ⟨a3, c3, b, rfl, hv3, hR3, hset3, hb3, hs3⟩
  have q3 : w3.cell? ⟨w1.heap.size, 0, none⟩ = some (.map (some b)) := hR3.cell rfl
  have HV3 := Lib.hid hv3
  have HS3 := Lib.hid hset3
  have HB3 := Lib.hid (HB2.out.trans (hb3.mono (by omega)))
  have hs3w := HB3.out.size
  clear hv3 hR3 hset3 hb3
  go_wp2_with fail
  refine (asSlice_Uint16 b xs w3 HS3.out hm HX.out).mono ?_
  rintro e w4 ⟨g, gc, rfl, ho4, hb4⟩
  obtain ⟨d, hd⟩ : ∃ d, d = inS xs := ⟨_, rfl⟩
  rw [← hd] at ho4 hil ⊢
  obtain ⟨k, hk⟩ : ∃ k, k = d.length := ⟨_, rfl⟩
  rw [← hk] at ho4 hil ⊢
  have HO4 := Lib.hid ho4
  have HD := Lib.hid hk
  have HDD := Lib.hid hd
  have HV4 := Lib.hid (Vw.below hb4 (Nat.le_refl _) HV3.out)
  have HB4 := Lib.hid (HB3.out.trans (hb4.mono hs3w))
  have hs4 := HB4.out.size
  have hgl : g < w4.heap.size := lt_of_owns ho4 _ rfl
  clear ho4 hb4 hd hk
  go_wp2_with fail
  go_loopw [2, 23] (fun o i wr => ∃ j : Nat, j ≤ k ∧ i = .int .i64 j ∧ ∃ oa oc, o = .slice oa j oc ∧ Hid (wr.ownsRow w4.heap.size 38 1 (.slice oa j oc) j ((d.take j).map (Value.int .u16))) ∧ Hid (Below w4.heap.size w4 wr)) (fun _ i _ => k - (intOf i).toNat)
  case atStart => exact ⟨0, Nat.zero_le _, rfl, none, 0, rfl, Lib.hid (World.ownsRow_nil _ _ _ _), Lib.hid (Below.refl _ _)⟩
  case round =>
    obtain ⟨j, hj, rfl, oa, oc, rfl, how, hbr⟩ := hrel
    have hBs := hbr.out.size
    by_cases hlt : j < k
    · have hli : (j : Int) < k := by omega
      have hjd : j < d.length := by have := HD.out; omega
      obtain ⟨y, hy⟩ : ∃ y, y = d[j] := ⟨_, rfl⟩
      have hcj : wr.cell? ⟨g, j, none⟩ = some (.int .u16 y) := by
        have h1 := HO4.out.cells (g := g) rfl j (.int .u16 y) (by simp [List.getElem?_eq_getElem hjd, hy])
        rw [Addr.add_lit, Nat.zero_add] at h1
        rw [hbr.out.cell (p := ⟨g, j, none⟩) hgl]
        exact h1
      have htk : (d.take (j + 1)).map (Value.int .u16) = (d.take j).map (Value.int .u16) ++ [.int .u16 y] := by rw [List.take_add_one, List.getElem?_eq_getElem hjd, Option.toList_some, List.map_append, hy]; rfl
      have HT := Lib.hid htk
      clear hy htk
      go_wp2_with (at_builtin; refine app1 (by rfl) _ _ 35 38 (.int .u16 0) 2 (by rfl) Tryd.underlying35 infoG_Uint16 rfl (by omega) w4.heap.size oa j oc _ (by rfl) (World.ownsRow.alloc how.out _) wr.heap.size (.int .u16 y) (by rfl) (by rfl) (Blk.new _ _ _) (by omega) (by simp <;> omega) ?_; intro a5 c5 w5 ho5 hg5)
      have hb5 : Below w4.heap.size w4 w5 := hbr.out.trans (Below.trans (b := wr.alloc _) ((Below.refl _ _).alloc hBs _) (below_of_grown hg5 (by simp; omega) (ge_of_owns how.out)))
      rw [← HT.out] at ho5
      have HO5 := Lib.hid ho5
      have HB5 := Lib.hid hb5
      clear ho5 hg5 hb5
      go_wp2_with fail
      go_roundw
      case rel => exact ⟨j + 1, by omega, congrArg (Value.int .i64) (by omega), a5, c5, rfl, HO5, HB5⟩
      case measure => first | omega | (simp [intOf]; omega)
    · obtain rfl : j = k := by omega
      have e1 : d.take j = d := by rw [HD.out]; simp
      have how2 := how.out
      rw [e1] at how2
      have HQ := Lib.hid (Rd.of_owns how2)
      have HVR := Lib.hid (Vw.below hbr.out (Nat.le_refl _) HV4.out)
      have htl : tail.length ≤ 1000000 := by
        have := HV.out.len
        rw [List.length_append, List.length_append] at this
        omega
      clear how2 e1
      go_wp2_with fail
      refine (copied_any _ _ _ _ _ HVR.out (by omega)).mono ?_
      rintro e w6 ⟨a6, c6, rfl, ho6, hb6⟩
      go_wp2_with fail
      go_ret3
      exact ⟨oa, oc, a6, c6, by rw [← HDD.out, ← HD.out]; rfl, by rw [← HDD.out]; exact HQ.out.below hb6 (Nat.le_refl _), ho6.vw, HB4.out.trans ((hbr.out.trans (hb6.mono hBs)).mono hs4)⟩

theorem makeH_Uint (u : Int) (w : World) : (Instr.makeMap 76 (some (.int .u32 u))).run Tryd.prog w = .ok (.map (some w.heap.size)) (w.alloc (.map #[] 0)) := by kernel_rfl
theorem mapN0_Uint (w : World) : (binOp .eql 76 (.map none) (.map none)).run Tryd.prog w = .ok (.bool true) w := by kernel_rfl

set_option maxRecDepth 100000 in
set_option maxHeartbeats 4000000 in
theorem unm_Uint (R : Nat) (h : List Int) (xs : List Int) (es : List (List Int)) (tail : List Int) (a : Option Addr) (n c : Nat) (w : World) (hR : Blk w R 76 #[.map none]) (hh : HeadL xs.length 144 16 formsA h) (he : PEs xs es) (hx : ∀ x ∈ xs, (Lit.int .u64 x).wf = true) (hm : xs.length ≤ 100)
    (hv : Vw w a n c (h ++ (es.flatten ++ tail))) :
    Calls Tryd.prog 32 #[.pointer (some ⟨R, 0, none⟩), .slice a n c] w fun e w' => ∃ a' c' b, e = .returned (.tuple #[.slice a' tail.length c', .nilIface]) ∧ Vw w' a' tail.length c' tail ∧ Blk w' R 76 #[.map (some b)] ∧ SetM 79 .u64 w' b xs ∧ Below R w w' ∧ w.heap.size ≤ w'.heap.size := by
  obtain ⟨z, r, hz, hz2, a1, hv1, hrah⟩ := rah_of hh _ a n c w hv
  rw [hz] at hv
  obtain ⟨m, hmm⟩ : ∃ m, m = xs.length := ⟨_, rfl⟩
  rw [← hmm] at hm hrah
  have HN := Lib.hid (isNil_no z _ a n c w hv hz2)
  unfold Rah at hrah
  have HRA := Lib.hid hrah
  have HM := Lib.hid hmm
  have HE := Lib.hid he
  have HX := Lib.hid hx
  have HV1 := Lib.hid hv1
  have hRl := hR.lt
  have HRB := Lib.hid hR
  have hm0 := mapN0_Uint
  have hmk := makeH_Uint
  clear hrah hmm he hx hv1 hv hz hh hR
  go_enter Tryd.func32, Tryd.ntmps32
  go_wp2_with fail
  refine HN.out.mono ?_
  rintro e w0 ⟨rfl, rfl⟩
  go_wp2_with fail
  refine HRA.out.mono ?_
  rintro e w1 ⟨rfl, hb1⟩
  have hs1 := hb1.size
  have hR1 := Blk.below HRB.out hb1 hRl
  have q0 : w1.cell? ⟨R, 0, none⟩ = some (.map none) := hR1.cell rfl
  have HR1 := Lib.hid hR1
  have HV2 := Lib.hid (Vw.below hb1 (Nat.le_refl _) HV1.out)
  have HB1 := Lib.hid hb1
  clear hb1 hR1
  go_wp2_with fail
  have hsm : w1.heap.size < (w1.alloc (.map #[] 0)).heap.size := by simp
  go_loopw [1, 34] (fun s i wr => ∃ j : Nat, j ≤ m ∧ i = .int .u32 j ∧ ∃ aj nj cj, s = .slice aj nj cj ∧ Hid (Vw wr aj nj cj ((es.drop j).flatten ++ tail)) ∧ Hid (SetM 79 .u64 wr w1.heap.size (xs.take j)) ∧ Hid (Blk wr R 76 #[.map none]) ∧ Hid (Below R w0 wr ∧ w1.heap.size < wr.heap.size)) (fun _ i _ => m - (intOf i).toNat)
  case atStart => exact ⟨0, Nat.zero_le _, rfl, a1, _, _, rfl, Lib.hid (by simpa using HV2.out.alloc _), Lib.hid (SetM.made _ _ _), Lib.hid (HR1.out.alloc _), Lib.hid ⟨(HB1.out.mono (by omega)).alloc (by omega) _, hsm⟩⟩
  case round =>
    obtain ⟨j, hj, rfl, aj, nj, cj, rfl, hvj, hset, hRj, hbr⟩ := hrel
    have hbs := hbr.out.2
    by_cases hlt : j < m
    · have hli : (j : Int) < m := by omega
      have hjx : j < xs.length := by have := HM.out; omega
      have hje : j < es.length := by have := HE.out.1; omega
      have hvj2 := hvj.out
      rw [flatD es j hje, List.append_assoc] at hvj2
      have hP := HE.out.2 j hje
      have hxm : xs.getD j 0 ∈ xs := by simp [List.getD, List.getElem?_eq_getElem hjx]
      have htk : xs.take (j + 1) = xs.take j ++ [xs.getD j 0] := by rw [List.take_add_one, List.getElem?_eq_getElem hjx]; simp [List.getD, List.getElem?_eq_getElem hjx]
      obtain ⟨x, hxx⟩ : ∃ x, x = xs.getD j 0 := ⟨_, rfl⟩
      rw [← hxx] at hP hxm htk
      have hwx := HX.out x hxm
      have hb9 := Go.Proofs.YtbngkfdfjpbajaaDoor.wf_u64 x hwx
      obtain ⟨a2, hv2, hcall⟩ := rk_Uint x hb9.1 hb9.2 _ hP _ _ _ _ _ hvj2
      have HC := Lib.hid hcall
      have HV3 := Lib.hid hv2
      have HWX := Lib.hid hwx
      have HT := Lib.hid htk
      obtain ⟨k, hk⟩ : ∃ k, k = es[j].length := ⟨_, rfl⟩
      rw [← hk] at HC HV3
      clear hvj2 hP hxm htk hxx hwx hb9 hv2 hcall hk
      go_wp2_with fail
      refine HC.out.mono ?_
      rintro e w2 ⟨rfl, hb2⟩
      have hs2 := hb2.size
      have hset2 := SetM.below hset.out hb2 hbs
      have HS2 := Lib.hid hset2
      have HV4 := Lib.hid (Vw.below hb2 (Nat.le_refl _) HV3.out)
      have HR2 := Lib.hid (Blk.below hRj.out hb2 hRj.out.lt)
      have HB2 := Lib.hid (hbr.out.1.trans (hb2.mono (by have := hRj.out.lt; omega)))
      clear hb2 hset2
      go_wp2_with (at_mapUpdate; refine wpList_mapUpdate_own _ rfl _ _ _ 76 rfl 79 _ (int_keyed Tryd.underlying79) Tryd.underlying76 (unitElem (H := Unit)) w1.heap.size (xs.take j).length _ rfl HS2.out (by simp [maxLen]; omega) (.int .u64 x) (.agg #[]) (.int .u64 x) (by rfl) (by rfl) (keyOf_int_mk Tryd.underlying79 HWX.out) (.agg []) [] unitElem_mk ?_; intro w3 hown3 hg3; go_frame)
      have hs3 : SetM 79 .u64 w3 w1.heap.size (xs.take (j + 1)) := by
        rw [HT.out]
        unfold SetM
        rw [dSet_snoc, List.length_append]
        exact hown3
      have hb3 : Below R w0 w3 := HB2.out.grown hg3 (by have := HR2.out.lt; omega) (fun k hk => by injection hk with hk; omega)
      have hv5 := HV4.out.mapKept HS2.out hg3
      have hR3 : Blk w3 R 76 #[.map none] := by
        unfold Blk
        rw [hg3.block R HR2.out.lt (fun e => by injection e with e; omega)]
        exact HR2.out
      have HX3 := Lib.hid (And.intro hs3 (And.intro hb3 (And.intro hv5 (And.intro hR3 hg3.size))))
      clear hown3 hg3 hs3 hb3 hv5 hR3
      have hwu : IntKind.u32.wrap ((j : Int) + 1) = ((j + 1 : Nat) : Int) := by rw [IntKind.wrap_u32]; omega
      go_wp2_with fail
      go_roundw
      case rel => exact ⟨j + 1, by omega, by first | exact congrArg (Value.int .u32) hwu | exact congrArg (Value.int .u32) (by omega), a2, _, _, rfl, Lib.hid HX3.out.2.2.1, Lib.hid HX3.out.1, Lib.hid HX3.out.2.2.2.1, Lib.hid ⟨HX3.out.2.1, by have := HX3.out.2.2.2.2; omega⟩⟩
      case measure => first | omega | (simp [intOf]; omega) | (rw [hwu]; simp [intOf]; omega)
    · obtain rfl : j = m := by omega
      have e1 : xs.take j = xs := by rw [HM.out]; simp
      have e2 : es.drop j = [] := List.drop_eq_nil_of_le (by have := HE.out.1; have := HM.out; omega)
      have hset2 := hset.out
      have hv2 := hvj.out
      rw [e1] at hset2
      rw [e2, List.flatten_nil, List.nil_append] at hv2
      have hnt := hv2.len
      obtain rfl : nj = tail.length := hnt.symm
      have HS2 := Lib.hid hset2
      have HV3 := Lib.hid hv2
      have q1 : wr.cell? ⟨R, 0, none⟩ = some (.map none) := hRj.out.cell rfl
      have f1 : wr.frozen? ⟨R, 0, none⟩ = false := hRj.out.frozen 0
      clear hset2 hv2 hnt e1 e2
      go_wp2_with fail
      go_ret2
      refine ⟨aj, cj, w1.heap.size, rfl, ?_, ?_, ?_, ?_, ?_⟩
      · exact HV3.out.setMap hRj.out _
      · exact hRj.out.set 0 (.map (some w1.heap.size))
      · exact SetM.setCell HS2.out (by simp; omega) _
      · exact hbr.out.1.setCell (by simp) _
      · simp; omega

theorem infoG_Uint : (Tryd.prog.info? 22).map (fun i => (i.zero, i.size, i.bytes)) = some (some (.int .u64 0), 1, 8) := by kernel_rfl
set_option maxRecDepth 100000 in
set_option maxHeartbeats 4000000 in
theorem getSet_Uint (h : List Int) (xs : List Int) (es : List (List Int)) (tail : List Int) (a : Option Addr) (n c : Nat) (w : World) (hh : HeadL xs.length 144 16 formsA h) (he : PEs xs es) (hx : ∀ x ∈ xs, (Lit.int .u64 x).wf = true) (hm : xs.length ≤ 100)
    (hv : Vw w a n c (h ++ (es.flatten ++ tail))) (hn : n ≤ 1000000) :
    Calls Tryd.prog 16 #[.slice a n c] w fun e w' => ∃ ga gc ra rc, e = .returned (.tuple #[.slice ga (inS xs).length gc, .slice ra tail.length rc, .bool true]) ∧ Rd w' ga ((inS xs).map (Value.int .u64)) ∧ Vw w' ra tail.length rc tail ∧ Below w.heap.size w w' := by
  obtain ⟨z, r, hz, hz2, a1, hv1, hrah⟩ := rah_of hh _ a n c w hv
  have hl1 := hv1.len
  rw [List.length_append] at hl1
  have hpl := (pes_len es (fun i hi => posL_len (he.2 i hi))).1
  have hnf := enough_yes z (r ++ (es.flatten ++ tail)) a n c w xs.length h.length (by rw [hz] at hv; exact hv) hz2 a1 hrah (by have := he.1; omega) (by omega)
  have hil := inS_le xs
  have HNF := Lib.hid hnf
  have HV := Lib.hid hv
  have HH := Lib.hid hh
  have HE := Lib.hid he
  have HX := Lib.hid hx
  clear hnf hv hh he hx hv1 hrah hz hl1 hpl
  go_enter Tryd.func16, Tryd.ntmps16
  go_wp2_with fail
  refine HNF.out.mono ?_
  rintro e w1 ⟨rfl, hb1⟩
  have hs1 := hb1.size
  have HB1 := Lib.hid hb1
  have HV1 := Lib.hid (Vw.below hb1 (Nat.le_refl _) HV.out)
  clear hb1
  go_wp2_with fail
  refine (copied_any _ _ _ _ _ (HV1.out.alloc _) (by omega)).mono ?_
  rintro e w2 ⟨a2, c2, rfl, ho2, hb2⟩
  have hR2 : Blk w2 w1.heap.size 76 #[.map none] := Blk.below (Blk.new w1 _ _) hb2 (by simp)
  have hs2 := hb2.size
  have hb2w : Below w.heap.size w w2 := (HB1.out.alloc (by omega) _).trans (hb2.mono (by simp; omega))
  have HU := Lib.hid (unm_Uint w1.heap.size h xs es tail a2 n c2 w2 hR2 HH.out HE.out HX.out hm ho2.vw)
  have HB2 := Lib.hid hb2w
  clear hR2 ho2 hb2 hb2w
  go_wp2_with fail
  refine HU.out.mono ?_
  rintro e w3 ⟨a3, c3, b, rfl, hv3, hR3, hset3, hb3, hs3⟩
  have q3 : w3.cell? ⟨w1.heap.size, 0, none⟩ = some (.map (some b)) := hR3.cell rfl
  have HV3 := Lib.hid hv3
  have HS3 := Lib.hid hset3
  have HB3 := Lib.hid (HB2.out.trans (hb3.mono (by omega)))
  have hs3w := HB3.out.size
  clear hv3 hR3 hset3 hb3
  go_wp2_with fail
  refine (asSlice_Uint b xs w3 HS3.out hm HX.out).mono ?_
  rintro e w4 ⟨g, gc, rfl, ho4, hb4⟩
  obtain ⟨d, hd⟩ : ∃ d, d = inS xs := ⟨_, rfl⟩
  rw [← hd] at ho4 hil ⊢
  obtain ⟨k, hk⟩ : ∃ k, k = d.length := ⟨_, rfl⟩
  rw [← hk] at ho4 hil ⊢
  have HO4 := Lib.hid ho4
  have HD := Lib.hid hk
  have HDD := Lib.hid hd
  have HV4 := Lib.hid (Vw.below hb4 (Nat.le_refl _) HV3.out)
  have HB4 := Lib.hid (HB3.out.trans (hb4.mono hs3w))
  have hs4 := HB4.out.size
  have hgl : g < w4.heap.size := lt_of_owns ho4 _ rfl
  clear ho4 hb4 hd hk
  go_wp2_with fail
  go_loopw [2, 23] (fun o i wr => ∃ j : Nat, j ≤ k ∧ i = .int .i64 j ∧ ∃ oa oc, o = .slice oa j oc ∧ Hid (wr.ownsRow w4.heap.size 22 1 (.slice oa j oc) j ((d.take j).map (Value.int .u64))) ∧ Hid (Below w4.heap.size w4 wr)) (fun _ i _ => k - (intOf i).toNat)
  case atStart => exact ⟨0, Nat.zero_le _, rfl, none, 0, rfl, Lib.hid (World.ownsRow_nil _ _ _ _), Lib.hid (Below.refl _ _)⟩
  case round =>
    obtain ⟨j, hj, rfl, oa, oc, rfl, how, hbr⟩ := hrel
    have hBs := hbr.out.size
    by_cases hlt : j < k
    · have hli : (j : Int) < k := by omega
      have hjd : j < d.length := by have := HD.out; omega
      obtain ⟨y, hy⟩ : ∃ y, y = d[j] := ⟨_, rfl⟩
      have hcj : wr.cell? ⟨g, j, none⟩ = some (.int .u64 y) := by
        have h1 := HO4.out.cells (g := g) rfl j (.int .u64 y) (by simp [List.getElem?_eq_getElem hjd, hy])
        rw [Addr.add_lit, Nat.zero_add] at h1
        rw [hbr.out.cell (p := ⟨g, j, none⟩) hgl]
        exact h1
      have htk : (d.take (j + 1)).map (Value.int .u64) = (d.take j).map (Value.int .u64) ++ [.int .u64 y] := by rw [List.take_add_one, List.getElem?_eq_getElem hjd, Option.toList_some, List.map_append, hy]; rfl
      have HT := Lib.hid htk
      clear hy htk
      go_wp2_with (at_builtin; refine app1 (by rfl) _ _ 47 22 (.int .u64 0) 8 (by rfl) Tryd.underlying47 infoG_Uint rfl (by omega) w4.heap.size oa j oc _ (by rfl) (World.ownsRow.alloc how.out _) wr.heap.size (.int .u64 y) (by rfl) (by rfl) (Blk.new _ _ _) (by omega) (by simp <;> omega) ?_; intro a5 c5 w5 ho5 hg5)
      have hb5 : Below w4.heap.size w4 w5 := hbr.out.trans (Below.trans (b := wr.alloc _) ((Below.refl _ _).alloc hBs _) (below_of_grown hg5 (by simp; omega) (ge_of_owns how.out)))
      rw [← HT.out] at ho5
      have HO5 := Lib.hid ho5
      have HB5 := Lib.hid hb5
      clear ho5 hg5 hb5
      go_wp2_with fail
      go_roundw
      case rel => exact ⟨j + 1, by omega, congrArg (Value.int .i64) (by omega), a5, c5, rfl, HO5, HB5⟩
      case measure => first | omega | (simp [intOf]; omega)
    · obtain rfl : j = k := by omega
      have e1 : d.take j = d := by rw [HD.out]; simp
      have how2 := how.out
      rw [e1] at how2
      have HQ := Lib.hid (Rd.of_owns how2)
      have HVR := Lib.hid (Vw.below hbr.out (Nat.le_refl _) HV4.out)
      have htl : tail.length ≤ 1000000 := by
        have := HV.out.len
        rw [List.length_append, List.length_append] at this
        omega
      clear how2 e1
      go_wp2_with fail
      refine (copied_any _ _ _ _ _ HVR.out (by omega)).mono ?_
      rintro e w6 ⟨a6, c6, rfl, ho6, hb6⟩
      go_wp2_with fail
      go_ret3
      exact ⟨oa, oc, a6, c6, by rw [← HDD.out, ← HD.out]; rfl, by rw [← HDD.out]; exact HQ.out.below hb6 (Nat.le_refl _), ho6.vw, HB4.out.trans ((hbr.out.trans (hb6.mono hBs)).mono hs4)⟩
end Go.Proofs.YtbngkfdfjpbajaaDoor
