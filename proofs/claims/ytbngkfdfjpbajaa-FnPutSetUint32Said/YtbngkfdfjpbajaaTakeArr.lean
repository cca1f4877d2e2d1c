/- spec.takeKids, spec.TakePack at arrays of values without values in them. -/
import Derived.Test.YtbngkfdfjpbajaaReads
import Derived.Test.YtbngkfdfjpbajaaRd
namespace Go.Proofs.Ytbngkfdfjpbajaa
open Go.RowKit
set_option linter.unusedVariables false
set_option linter.unusedSimpArgs false

/-- A value of a kind and a number: its five cells. -/
def l5 (p : Int × Int) : List Value := [.int .i64 p.1, .int .u64 p.2, .string ⟨#[]⟩, .int .i64 0, .slice none 0 0]
def l5s (ps : List (Int × Int)) : List Value := ps.flatMap l5
theorem l5s_snoc (ps : List (Int × Int)) (j : Nat) (h : j < ps.length) : l5s (ps.take (j + 1)) = l5s (ps.take j) ++ l5 ps[j] := by
  unfold l5s; rw [List.take_add_one, List.getElem?_eq_getElem h, Option.toList_some, List.flatMap_append]; simp
theorem l5s_len : ∀ ps : List (Int × Int), (l5s ps).length = ps.length * 5
  | [] => rfl
  | p :: r => by unfold l5s; rw [List.flatMap_cons, List.length_append]; have := l5s_len r; unfold l5s at this; rw [this]; simp [l5]; omega

theorem infoPk : (Try.prog.info? 31).map (fun i => (i.zero.map (·.cells.size), i.size, i.bytes)) = some (some 5, 5, 64) := by kernel_rfl

/-- What TakePack makes of each. -/
def Rds (ps : List (Int × Int)) (es : List (List Int)) : Prop := es.length = ps.length ∧ ∀ i (h : i < es.length) (h2 : i < ps.length), Reads es[i] ps[i].1 ps[i].2 ⟨#[]⟩ 0
theorem flat_drop (es : List (List Int)) (j : Nat) (h : j < es.length) : (es.drop j).flatten = es[j] ++ (es.drop (j + 1)).flatten := by
  rw [List.drop_eq_getElem_cons h, List.flatten_cons]

theorem blk_grown {w w' : World} {g t n c B : Nat} {a : Option Addr} {cs : Array Value} (h : Blk w g t cs) (hg : w.grownBy w' (Value.ownBlock (.slice a n c))) (ha : ∀ x, a = some x → B ≤ x.block) (hB : g < B) : Blk w' g t cs := by
  unfold Blk
  rw [hg.block g h.lt (fun e => ?_)]
  · exact h
  · cases a with
    | none => cases e
    | some x => injection e with e; have := ha x rfl; omega

theorem below_ownP {B n c : Nat} {a w w' : World} {p : Option Addr} (h : Below B a w) (hg : w.grownBy w' (Value.ownBlock (.slice p n c))) (hB : ∀ x, p = some x → B ≤ x.block) (hBa : B ≤ a.heap.size := by omega) : Below B a w' := by
  refine h.grown hg ?_ (fun k hk => ?_)
  · have := h.size; omega
  · cases p with
    | none => cases hk
    | some x => injection hk with hk; have := hB x rfl; omega

set_option maxRecDepth 100000 in
set_option maxHeartbeats 4000000 in
theorem takeKids_leaves (ps : List (Int × Int)) (es : List (List Int)) (a : Option Addr) (n c : Nat) (lv : Int) (w : World) (hR : Rds ps es) (hm : ps.length ≤ 1000) (hv : Vw w a n c es.flatten) (hlv : 2 ≤ lv) (hlv2 : lv ≤ 1000) :
    Calls Try.prog 23 #[.int .i64 8, .int .i64 (ps.length : Int), .slice a n c, .int .i64 lv] w fun e w' => ∃ ka kc a' c', e = .returned (.tuple #[.agg #[.int .i64 8, .int .u64 0, .string ⟨#[]⟩, .int .i64 0, .slice ka ps.length kc], .slice a' 0 c', .bool true]) ∧
      Rd w' ka (l5s ps) ∧ (∀ x, ka = some x → w.heap.size ≤ x.block) ∧ Below w.heap.size w w' := by
  obtain ⟨m, hmm⟩ : ∃ m, m = ps.length := ⟨_, rfl⟩
  rw [← hmm] at hm ⊢
  have HM := Lib.hid hmm
  have HR := Lib.hid hR
  have HV := Lib.hid hv
  clear hmm hR hv
  go_enter Try.func23, Try.ntmps23
  go_wp2_with fail
  go_loopw [2, 12] (fun s i wr => ∃ j : Nat, j ≤ m ∧ i = .int .i64 j ∧ ∃ aj nj cj, s = .slice aj nj cj ∧ Hid (Vw w aj nj cj (es.drop j).flatten) ∧ ∃ ka kc, Hid (Blk wr (w.heap.size + 1) 31 #[.int .i64 8, .int .u64 0, .string ⟨#[]⟩, .int .i64 0, .slice ka j kc]) ∧ Hid (Blk wr w.heap.size 31 #[.int .i64 0, .int .u64 0, .string ⟨#[]⟩, .int .i64 0, .slice none 0 0]) ∧
      Hid (wr.ownsRow (w.heap.size + 2) 31 5 (.slice ka j kc) j (l5s (ps.take j))) ∧ Hid (Below w.heap.size w wr ∧ w.heap.size + 2 ≤ wr.heap.size)) (fun _ i _ => m - (intOf i).toNat)
  case atStart =>
    have hb2 : Below w.heap.size w ((w.alloc (.cells #[.int .i64 0, .int .u64 0, .string ⟨#[]⟩, .int .i64 0, .slice none 0 0] 31)).alloc (.cells #[.int .i64 8, .int .u64 0, .string ⟨#[]⟩, .int .i64 0, .slice none 0 0] 31)) := by (repeat (first | with_reducible exact Below.refl _ _ | with_reducible assumption | with_reducible refine below_drewN ?_ _ | with_reducible refine Below.drew ?_ | with_reducible refine below_row ?_ (by first | omega | (simp; done) | (simp; omega)) _ | with_reducible refine Below.alloc ?_ (by first | omega | (simp; done) | (simp; omega)) _ | with_reducible refine Below.setCell ?_ (by first | omega | (simp; done) | (simp; omega)) _))
    exact ⟨0, Nat.zero_le _, rfl, a, n, c, rfl, Lib.hid (by simpa using HV.out), none, 0, Lib.hid (by (repeat (first | with_reducible exact Blk.new _ _ _ | with_reducible assumption | with_reducible refine Blk.newAt (by first | rfl | (simp; done) | (simp; omega)) _ _ | with_reducible refine Blk.alloc ?_ _ | with_reducible refine Blk.drewN ?_ _ | with_reducible refine Blk.drew ?_ | with_reducible refine Blk.other ?_ (by first | omega | (simp; done) | (simp; omega)) _))), Lib.hid (by (repeat (first | with_reducible exact Blk.new _ _ _ | with_reducible assumption | with_reducible refine Blk.newAt (by first | rfl | (simp; done) | (simp; omega)) _ _ | with_reducible refine Blk.alloc ?_ _ | with_reducible refine Blk.drewN ?_ _ | with_reducible refine Blk.drew ?_ | with_reducible refine Blk.other ?_ (by first | omega | (simp; done) | (simp; omega)) _))), Lib.hid (World.ownsRow_nil _ _ _ _), Lib.hid ⟨hb2, by simp⟩⟩
  case round =>
    obtain ⟨j, hj, rfl, aj, nj, cj, rfl, hvj, ka, kc, hk, hz, how, hbr⟩ := hrel
    have hbs := hbr.out.2
    by_cases hlt : j < m
    · have hli : (j : Int) < m := by omega
      have hjp : j < ps.length := by have := HM.out; omega
      have hje : j < es.length := by have := HR.out.1; omega
      have hvj2 := hvj.out
      rw [flat_drop es j hje] at hvj2
      obtain ⟨a2, n2, c2, hn2, hv2, hT⟩ := (HR.out.2 j hje hjp) w aj nj cj _ (lv - 1) (by omega) hvj2
      have HT := Lib.hid (hT wr hbr.out.1)
      obtain ⟨p, hp⟩ : ∃ p, p = ps[j] := ⟨_, rfl⟩
      rw [← hp] at HT
      have hsn := l5s_snoc ps j hjp
      rw [← hp] at hsn
      have HS := Lib.hid hsn
      have HV2 := Lib.hid hv2
      clear hvj2 hn2 hv2 hT hp hsn
      go_wp2_with fail
      refine HT.out.mono ?_
      rintro e w3 ⟨rfl, hb3⟩
      have hb3s := hb3.size
      have hB1 := Blk.below hk.out hb3 (by omega)
      have hB0 := Blk.below hz.out hb3 (by omega)
      have HO3 := Lib.hid (owns_below how.out hb3)
      have HB3 := Lib.hid (hbr.out.1.trans (hb3.mono (by omega)))
      have HK1 := Lib.hid hB1
      have HK0 := Lib.hid hB0
      have q4 := fun o => Blk.cell (hB1.alloc o) (i := 4) (v := .slice ka j kc) rfl
      unfold pk
      clear hb3 hB1 hB0
      go_wp2_with (at_builtin; refine appN (by rfl) _ _ 27 31 5 64 (by rfl) Try.underlying27 infoPk (by omega) (by omega) (w.heap.size + 2) ka j kc _ (by rfl) ((HO3.out.alloc _).alloc _) (w3.heap.size + 1) (by simp [Act.eval]) (l5 p) rfl (by intro u hu; simp [l5] at hu; rcases hu with rfl | rfl | rfl | rfl | rfl <;> rfl) (Blk.newAt (by simp) _ _) (by omega) (by simp <;> omega) ?_; intro ka5 kc5 w5 ho5 hg5; have hB1 := blk_grown ((HK1.out.alloc _).alloc _) hg5 (ge_of_owns HO3.out) (by omega); have f5 := hB1.frozen 4; have q5 := Blk.cell hB1 (i := 4) (v := .slice ka j kc) rfl)
      have hB0 := blk_grown ((HK0.out.alloc _).alloc _) hg5 (ge_of_owns HO3.out) (by omega)
      have hb5 : Below (w.heap.size) w w5 := below_ownP (((HB3.out.alloc (by have := HB3.out.size; omega) _).alloc (by have := HB3.out.size; simp; omega) _)) hg5 (fun x hx => by have := ge_of_owns HO3.out x hx; omega)
      have HX := Lib.hid (And.intro ho5 (And.intro hB1 (And.intro hB0 (And.intro hb5 hg5.size))))
      clear ho5 hg5 hB0 hb5
      go_wp2_with fail
      have hB1' := HX.out.2.1.set 4 (.slice ka5 (j + 1) kc5)
      have hB0' := HX.out.2.2.1.other (p := ⟨w.heap.size + 1, 4, none⟩) (by simp) (.slice ka5 (j + 1) kc5)
      have hrow := owns_set HX.out.1 (p := ⟨w.heap.size + 1, 4, none⟩) (by simp) (.slice ka5 (j + 1) kc5)
      rw [← HS.out] at hrow
      have HY := Lib.hid (And.intro hB1' (And.intro hB0' hrow))
      clear hB1' hB0' hrow
      have hsz5 : w.heap.size + 2 ≤ w5.heap.size := by have := HX.out.2.2.2.2; simp at this; omega
      go_roundw
      case rel => exact ⟨j + 1, by omega, congrArg (Value.int .i64) (by omega), a2, n2, c2, rfl, HV2, ka5, kc5, Lib.hid HY.out.1, Lib.hid HY.out.2.1, Lib.hid HY.out.2.2, Lib.hid ⟨by have := HX.out.2.2.2.1; (repeat (first | with_reducible exact Below.refl _ _ | with_reducible assumption | with_reducible refine below_drewN ?_ _ | with_reducible refine Below.drew ?_ | with_reducible refine below_row ?_ (by first | omega | (simp; done) | (simp; omega)) _ | with_reducible refine Below.alloc ?_ (by first | omega | (simp; done) | (simp; omega)) _ | with_reducible refine Below.setCell ?_ (by first | omega | (simp; done) | (simp; omega)) _)), by simp; omega⟩⟩
      case measure => first | omega | (simp [intOf]; omega)
    · obtain rfl : j = m := by omega
      have e1 : ps.take j = ps := by rw [HM.out]; simp
      have e2 : es.drop j = [] := by have := HM.out; have := HR.out.1; exact List.drop_eq_nil_of_le (by omega)
      have hvl := hvj.out
      have how2 := how.out
      rw [e2] at hvl
      rw [e1] at how2
      have hn0 : nj = 0 := by have := hvl.len; simpa using this.symm
      subst hn0
      have HOW := Lib.hid how2
      have hB1 := hk.out
      have hB0 := hz.out
      clear hvl how2 e1 e2
      have c0 : wr.cell? ⟨w.heap.size + 1, 0, none⟩ = some (.int .i64 8) := hB1.cell rfl
      have c1 : wr.cell? ⟨w.heap.size + 1, 1, none⟩ = some (.int .u64 0) := hB1.cell rfl
      have c2 : wr.cell? ⟨w.heap.size + 1, 2, none⟩ = some (.string ⟨#[]⟩) := hB1.cell rfl
      have c3 : wr.cell? ⟨w.heap.size + 1, 3, none⟩ = some (.int .i64 0) := hB1.cell rfl
      have c4 : wr.cell? ⟨w.heap.size + 1, 4, none⟩ = some (.slice ka j kc) := hB1.cell rfl
      go_wp2_with (refine wpList_store_row (by rfl) 31 _ _ (by rfl) w.heap.size _ (by rfl) (by rfl) _ _ hB0 (by kernel_rfl) (by rfl) (by simp [Value.oneCell']) ?_)
      refine bodyPost_ret (results_ctt rfl _ _ w.heap.size 31 _ _ rfl (hB0.row _) Try.underlying31 rfl (by kernel_rfl)) rfl ⟨ka, kc, aj, cj, rfl, ?_, ?_, ?_⟩
      · rcases Rd.of_owns HOW.out with h | ⟨b, off, ha, hx⟩
        · exact .inl h
        · refine .inr ⟨b, off, ha, fun i v hv => ?_⟩
          rw [World.cell?_of_block (setRow_other wr w.heap.size b _ (by have := ge_of_owns HOW.out _ ha; simp at this; omega))]
          exact hx i v hv
      · intro x hx; have := ge_of_owns HOW.out x hx; omega
      · exact below_row hbr.out.1 (Nat.le_refl _) _

/-- What TakePack makes of an array's bytes. -/
def TookA (f : FuncId) (args : Array Value) (w : World) (ps : List (Int × Int)) : Prop :=
  Calls Try.prog f args w fun e w' => ∃ ka kc a' c', e = .returned (.tuple #[.agg #[.int .i64 8, .int .u64 0, .string ⟨#[]⟩, .int .i64 0, .slice ka ps.length kc], .slice a' 0 c', .bool true]) ∧
      Rd w' ka (l5s ps) ∧ (∀ x, ka = some x → w.heap.size ≤ x.block) ∧ Below w.heap.size w w'

theorem rd_row {w : World} {a : Option Addr} {xs : List Value} (h : Rd w a xs) {g : Nat} (cs : Array Value) (hg : ∀ x, a = some x → x.block ≠ g) : Rd (w.setRow g cs) a xs := by
  rcases h with h | ⟨b, off, ha, hx⟩
  · exact .inl h
  · refine .inr ⟨b, off, ha, fun i v hv => ?_⟩
    rw [World.cell?_of_block (setRow_other w g b _ (hg _ ha))]
    exact hx i v hv

set_option maxRecDepth 100000 in
set_option maxHeartbeats 4000000 in
theorem takePack_fixarr (ps : List (Int × Int)) (es : List (List Int)) (b : Int) (hb : b = 144 + (ps.length : Int)) (a : Option Addr) (n c : Nat) (lv : Int) (w : World) (hR : Rds ps es) (hm : ps.length < 16) (hv : Vw w a n c (b :: es.flatten)) (hlv : 2 ≤ lv) (hlv2 : lv ≤ 1000) :
    TookA 13 #[.slice a n c, .int .i64 lv] w ps := by
  have hcn := hv.cap
  have hcb := hv.big
  have hn : 1 ≤ n := by have := hv.len; simp at this; omega
  obtain ⟨m, hm2⟩ : ∃ m, m = ps.length := ⟨_, rfl⟩
  obtain ⟨a1, hs, hv'⟩ := off_of hv 1 1 rfl hn
  simp at hv'
  unfold TookA
  rcases hv.cells with h0 | ⟨bl, off, rfl, hc⟩
  · omega
  · have hc0 := hc 0 (by omega)
    simp at hc0
    clear hc
    have hbl := World.block_lt_of_cell? w _ hc0
    have hn0 : ((n : Int) == 0) = false := by simp; omega
    have hn1 : (0 : Int) < (n : Int) := by omega
    have HK := Lib.hid (fun W hx => takeKids_leaves ps es a1 (n - 1) (c - 1) lv W hR (by omega) (Vw.below (B := w.heap.size) hx (Nat.le_refl _) hv') hlv hlv2)
    have hb2 : 144 ≤ b := by omega
    have hb3 : b < 160 := by omega
    have hand : bits .and .i64 b 15 = m := by rw [i64_and15]; omega
    have h15 : b % 16 = m := by omega
    rw [← hm2] at HK hm ⊢
    clear hv hv' hm2 hR hb
    unfold Off at hs
    go_enter Try.func13, Try.ntmps13
    go_wp2_with fail
    go_quiet (fail)
    go_wp2_with fail
    refine (HK.out _ (by (repeat (first | with_reducible exact Below.refl _ _ | with_reducible assumption | with_reducible refine below_drewN ?_ _ | with_reducible refine Below.drew ?_ | with_reducible refine below_row ?_ (by first | omega | (simp; done) | (simp; omega)) _ | with_reducible refine Below.alloc ?_ (by first | omega | (simp; done) | (simp; omega)) _ | with_reducible refine Below.setCell ?_ (by first | omega | (simp; done) | (simp; omega)) _)))).mono ?_
    rintro e w1 ⟨ka, kc, a', c', rfl, hr, hka, hb1⟩
    have hB : Blk w1 w.heap.size 31 _ := Blk.below (((Blk.new w _ _).alloc _).drewN _) hb1 (by simp <;> omega)
    have hr' := Lib.hid (rd_row hr (g := w.heap.size) #[.int .i64 8, .int .u64 0, .string ⟨#[]⟩, .int .i64 0, .slice ka m kc] (fun x hx => by have := hka x hx; simp at this; omega))
    have hka' := Lib.hid (fun x hx => Nat.le_trans (by simp; omega : w.heap.size ≤ _) (hka x hx))
    clear hr hka
    go_wp2_with (refine wpList_store_row (by rfl) 31 _ _ (by rfl) w.heap.size _ (by rfl) (by rfl) _ _ hB (by kernel_rfl) (by rfl) (by simp [Value.oneCell']) ?_)
    refine bodyPost_ret (results_ctt rfl _ _ w.heap.size 31 _ _ rfl (hB.row _) Try.underlying31 rfl (by kernel_rfl)) rfl ⟨ka, kc, a', c', rfl, hr'.out, hka'.out, ?_⟩
    refine below_row (Below.trans ?_ (hb1.mono (by simp <;> omega))) (Nat.le_refl _) _
    (repeat (first | with_reducible exact Below.refl _ _ | with_reducible assumption | with_reducible refine below_drewN ?_ _ | with_reducible refine Below.drew ?_ | with_reducible refine below_row ?_ (by first | omega | (simp; done) | (simp; omega)) _ | with_reducible refine Below.alloc ?_ (by first | omega | (simp; done) | (simp; omega)) _ | with_reducible refine Below.setCell ?_ (by first | omega | (simp; done) | (simp; omega)) _))
end Go.Proofs.Ytbngkfdfjpbajaa
