/- spec.takeCoded, spec.TakePack at arrays of 16 values and more. -/
import Derived.Test.YtbngkfdfjpbajaaTakeArr
import Derived.Test.YtbngkfdfjpbajaaMarsh
namespace Go.Proofs.Ytbngkfdfjpbajaa
open Go.RowKit
set_option linter.unusedVariables false
set_option linter.unusedSimpArgs false

set_option maxRecDepth 100000 in
set_option maxHeartbeats 4000000 in
theorem takeCoded_arr (ps : List (Int × Int)) (es : List (List Int)) (hi lo : Int) (a : Option Addr) (n c : Nat) (lv : Int) (w : World) (hR : Rds ps es) (hm : ps.length ≤ 1000) (hb : hi * 256 + lo = ps.length) (hfl : ps.length ≤ es.flatten.length) (hv : Vw w a n c (hi :: lo :: es.flatten)) (hlv : 2 ≤ lv) (hlv2 : lv ≤ 1000) :
    TookA 25 #[.int .i64 220, .slice a n c, .int .i64 lv] w ps := by
  have hlk := look_codes 220 (.int .i64 2) rfl
  have hmm := @run_makeMap Try.prog
  have hln : es.flatten.length + 2 = n := by have := hv.len; rw [List.length_cons, List.length_cons] at this; omega
  have hcb := hv.big
  have hcn := hv.cap
  obtain ⟨a1, hs, hv'⟩ := off_of hv (2 : Int) 2 rfl (by omega)
  simp at hv'
  obtain ⟨m, hm2⟩ : ∃ m, m = ps.length := ⟨_, rfl⟩
  have HK := Lib.hid (fun W hx => takeKids_leaves ps es a1 (n - 2) (c - 2) lv W hR (by omega) (Vw.below (B := w.heap.size) hx (Nat.le_refl _) hv') hlv hlv2)
  have hbn : beN ((hi :: lo :: es.flatten).take 2) = m := by simp only [List.take_succ_cons, List.take_zero, beN, List.foldl]; omega
  have hfl2 : m ≤ n - 2 := by omega
  unfold TookA
  rw [← hm2] at HK hm ⊢
  clear hm2 hR hb hfl hv'
  have HB := Lib.hid hbn
  have hgt : ¬ ((n : Int) - 2 < m) := by omega
  have hwn : IntKind.u64.wrap ((n : Int) - 2) = (n : Int) - 2 := by rw [IntKind.wrap_u64]; omega
  have hwn2 : IntKind.u64.wrap ((n - 2 : Nat) : Int) = ((n - 2 : Nat) : Int) := by rw [IntKind.wrap_u64]; omega
  have hgt2 : ¬ (((n - 2 : Nat) : Int) < m) := by omega
  clear hbn
  go_enter Try.func25, Try.ntmps25
  go_wp2_with (refine wpList_inserts_n _ 73 3 3 Try.underlying73 Try.underlying3 17 23 codes (by simp [Act.eval]) (by simp [insOf, codes]) codes_apart ?_)
  go_wp2_with (go_at_call 37; refine (takeBig_ok _ _ _ 2 2 rfl _ _ (((hv.alloc _).alloc _).alloc _) _ hs (by omega) (by omega)).mono ?_; rw [HB.out]; rintro e w' ⟨rfl, nq, rfl⟩)
  refine (HK.out _ (by (repeat (first | with_reducible exact Below.refl _ _ | with_reducible assumption | with_reducible refine below_drewN ?_ _ | with_reducible refine Below.drew ?_ | with_reducible refine below_row ?_ (by first | omega | (simp; done) | (simp; omega)) _ | with_reducible refine Below.alloc ?_ (by first | omega | (simp; done) | (simp; omega)) _ | with_reducible refine Below.setCell ?_ (by first | omega | (simp; done) | (simp; omega)) _)))).mono ?_
  rintro e w1 ⟨ka, kc, a', c', rfl, hr, hka, hb1⟩
  have hB : Blk w1 w.heap.size 31 _ := Blk.below ((((Blk.new w _ _).alloc _).alloc _).drewN _) hb1 (by simp <;> omega)
  have hr' := Lib.hid (rd_row hr (g := w.heap.size) #[.int .i64 8, .int .u64 0, .string ⟨#[]⟩, .int .i64 0, .slice ka m kc] (fun x hx => by have := hka x hx; simp at this; omega))
  have hka' := Lib.hid (fun x hx => Nat.le_trans (by simp; omega : w.heap.size ≤ _) (hka x hx))
  clear hr hka
  go_wp2_with (refine wpList_store_row (by rfl) 31 _ _ (by rfl) w.heap.size _ (by rfl) (by rfl) _ _ hB (by kernel_rfl) (by rfl) (by simp [Value.oneCell']) ?_)
  refine bodyPost_ret (results_ctt rfl _ _ w.heap.size 31 _ _ rfl (hB.row _) Try.underlying31 rfl (by kernel_rfl)) rfl ⟨ka, kc, a', c', rfl, hr'.out, hka'.out, ?_⟩
  refine below_row (Below.trans ?_ (hb1.mono (by simp <;> omega))) (Nat.le_refl _) _
  (repeat (first | with_reducible exact Below.refl _ _ | with_reducible assumption | with_reducible refine below_drewN ?_ _ | with_reducible refine Below.drew ?_ | with_reducible refine below_row ?_ (by first | omega | (simp; done) | (simp; omega)) _ | with_reducible refine Below.alloc ?_ (by first | omega | (simp; done) | (simp; omega)) _ | with_reducible refine Below.setCell ?_ (by first | omega | (simp; done) | (simp; omega)) _))

set_option maxRecDepth 100000 in
set_option maxHeartbeats 4000000 in
theorem takePack_arr16 (ps : List (Int × Int)) (es : List (List Int)) (hi lo : Int) (a : Option Addr) (n c : Nat) (lv : Int) (w : World) (hR : Rds ps es) (hm : ps.length ≤ 1000) (hb : hi * 256 + lo = ps.length) (hfl : ps.length ≤ es.flatten.length) (hv : Vw w a n c (220 :: hi :: lo :: es.flatten)) (hlv : 2 ≤ lv) (hlv2 : lv ≤ 1000) :
    TookA 13 #[.slice a n c, .int .i64 lv] w ps := by
  have hcn := hv.cap
  have hcb := hv.big
  have hn : 1 ≤ n := by have := hv.len; simp at this; omega
  obtain ⟨m, hm2⟩ : ∃ m, m = ps.length := ⟨_, rfl⟩
  obtain ⟨a1, hs, hv'⟩ := off_of hv 1 1 rfl hn
  simp at hv'
  unfold TookA
  rcases hv.cells with h0 | ⟨bl, off, rfl, hc⟩
  · omega
  · have hc0 : w.cell? ⟨bl, off, none⟩ = some (.int .u8 220) := hc 0 (by omega)
    clear hc
    have hbl := World.block_lt_of_cell? w _ hc0
    have hn0 : ((n : Int) == 0) = false := by simp; omega
    have hn1 : (0 : Int) < (n : Int) := by omega
    have HK := Lib.hid (fun W hx => takeCoded_arr ps es hi lo a1 (n - 1) (c - 1) lv W hR hm hb hfl (Vw.below (B := w.heap.size) hx (Nat.le_refl _) hv') hlv hlv2)
    unfold TookA at HK
    rw [← hm2] at HK hm ⊢
    clear hv hv' hm2 hR hb hfl
    unfold Off at hs
    go_enter Try.func13, Try.ntmps13
    go_wp2_with fail
    go_quiet (fail)
    go_wp2_with fail
    refine (HK.out _ (by (repeat (first | with_reducible exact Below.refl _ _ | with_reducible assumption | with_reducible refine below_drewN ?_ _ | with_reducible refine Below.drew ?_ | with_reducible refine below_row ?_ (by first | omega | (simp; done) | (simp; omega)) _ | with_reducible refine Below.alloc ?_ (by first | omega | (simp; done) | (simp; omega)) _ | with_reducible refine Below.setCell ?_ (by first | omega | (simp; done) | (simp; omega)) _)))).mono ?_
    rintro e w1 ⟨ka, kc, a', c', rfl, hr, hka, hb1⟩
    have hB : Blk w1 w.heap.size 31 _ := Blk.below (((Blk.new w _ _).alloc _).drewN _) hb1 (by simp <;> omega)
    have hr' := Lib.hid (rd_row hr (g := w.heap.size) #[.int .i64 8, .int .u64 0, .string ⟨#[]⟩, .int .i64 0, .slice ka m kc] (fun x hx => by have := hka x hx; simp at this; omega))
    have hka' := Lib.hid (fun x hx => Nat.le_trans (by simp; omega : w.heap.size ≤ _) (hka x hx))
    clear hr hka
    go_wp2_with (refine wpList_store_row (by rfl) 31 _ _ (by rfl) w.heap.size _ (by rfl) (by rfl) _ _ hB (by kernel_rfl) (by rfl) (by simp [Value.oneCell']) ?_)
    refine bodyPost_ret (results_ctt rfl _ _ w.heap.size 31 _ _ rfl (hB.row _) Try.underlying31 rfl (by kernel_rfl)) rfl ⟨ka, kc, a', c', rfl, hr'.out, hka'.out, ?_⟩
    refine below_row (Below.trans ?_ (hb1.mono (by simp <;> omega))) (Nat.le_refl _) _
    (repeat (first | with_reducible exact Below.refl _ _ | with_reducible assumption | with_reducible refine below_drewN ?_ _ | with_reducible refine Below.drew ?_ | with_reducible refine below_row ?_ (by first | omega | (simp; done) | (simp; omega)) _ | with_reducible refine Below.alloc ?_ (by first | omega | (simp; done) | (simp; omega)) _ | with_reducible refine Below.setCell ?_ (by first | omega | (simp; done) | (simp; omega)) _))

/-- TakePack over what MarshalMsg writes. -/
theorem takePack_hdA (ps : List (Int × Int)) (es : List (List Int)) (a : Option Addr) (n c : Nat) (lv : Int) (w : World) (hR : Rds ps es) (hm : ps.length ≤ 1000) (hfl : ps.length ≤ es.flatten.length) (hv : Vw w a n c (hdA ps.length ++ es.flatten)) (hlv : 2 ≤ lv) (hlv2 : lv ≤ 1000) :
    TookA 13 #[.slice a n c, .int .i64 lv] w ps := by
  unfold hdA at hv
  by_cases h : ps.length < 16
  · rw [if_pos h] at hv
    exact takePack_fixarr ps es _ rfl a n c lv w hR h hv hlv hlv2
  · rw [if_neg h] at hv
    exact takePack_arr16 ps es _ _ a n c lv w hR hm (by omega) hfl hv hlv hlv2
end Go.Proofs.Ytbngkfdfjpbajaa
