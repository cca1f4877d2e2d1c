/- spec.takeExt; spec.takeCoded at extensions; extensions are read. -/
import Derived.Test.YtliaiaefhbgblaaReads
namespace Go.Proofs.Ytliaiaefhbgblaa
open Go.RowKit
set_option linter.unusedVariables false
set_option linter.unusedSimpArgs false

def sg8 (t : Int) : Int := if t < 128 then t else t - 256

set_option maxRecDepth 100000 in
set_option maxHeartbeats 1000000 in
theorem takeExt_ok (t : Int) (a : Option Addr) (n c : Nat) (l : List Int) (w : World) (hv : Vw w a n c (t :: l)) (k : Nat) (hk : 1 + k ≤ n) (a' : Option Addr) (hs : Off64 a n c ((1 + k : Nat) : Int) a' (1 + k)) :
    Calls Try.prog 53 #[.int .u64 (k : Int), .slice a n c] w fun e w' => e = .returned (.tuple #[pk 10 0 (strOfNums (l.take k)) (sg8 t), .slice a' (n - (1 + k)) (c - (1 + k)), .bool true]) ∧ Below w.heap.size w w' := by
  have hcn := hv.cap
  have hcb := hv.big
  have hby := hv.byt t (by simp)
  unfold Off64 at hs
  have e1 : ((1 + k : Nat) : Int) = 1 + (k : Int) := by omega
  rw [e1] at hs
  rcases hv.cells with h0 | ⟨bl, off, rfl, hc⟩
  · omega
  have hc0 := hc 0 (by omega)
  simp at hc0
  have hv2 : Vw w (if c = 1 then some ⟨bl, off, none⟩ else some ⟨bl, off + 1, none⟩) (1 + k - 1) (c - 1) (l.take k) := by
    refine ⟨by rw [List.length_take]; have := hv.len; simp at this; omega, by omega, by omega, fun x hx => hv.byt x (by simp [List.mem_of_mem_take hx]), fun e => ?_, ?_⟩
    · split at e <;> cases e
    · by_cases h0 : k = 0
      · exact .inl (by omega)
      · refine .inr ⟨bl, off + 1, by rw [if_neg (by omega)], fun i hi => ?_⟩
        have := hc (1 + i) (by omega)
        rw [show off + 1 + i = off + (1 + i) by omega, this]
        simp [List.getD, List.getElem?_take, show i < k by omega, Nat.add_comm 1 i]
  clear hc
  have hn0 : ((n : Int) == 0) = false := by simp; omega
  have hn1 : ¬ ((n : Int) - 1 < k) := by omega
  have hn2 : (0 : Int) < (n : Int) := by omega
  have hw1 : IntKind.u64.wrap ((n : Int) - 1) = (n : Int) - 1 := by rw [IntKind.wrap_u64]; omega
  have hw2 : IntKind.u64.wrap (1 + (k : Int)) = 1 + (k : Int) := by rw [IntKind.wrap_u64]; omega
  have hw3 : IntKind.i8.wrap t = sg8 t := by rw [wrap_i8]; unfold sg8; split <;> omega
  have hw4 : wrap64 (sg8 t) = sg8 t := by unfold sg8 wrap64; split <;> omega
  have hbl := World.block_lt_of_cell? w _ hc0
  clear e1
  by_cases hc1 : c = 1
  · obtain rfl : k = 0 := by omega
    subst hc1
    obtain rfl : n = 1 := by omega
    rw [if_pos rfl] at hv2
    have hcv := fun o => conv_of ((hv2.alloc o).drew)
    simp at hcv hs hw1 hw2
    go_enter Try.func53, Try.ntmps53
    go_wp2_with fail
    go_region
    go_wp2_with fail
    refine bodyPost_ret (results_ctt rfl _ _ w.heap.size 30 _ _ rfl ((Blk.new w _ _).drew) Try.underlying30 rfl (by kernel_rfl)) rfl ⟨rfl, ?_⟩
    (repeat (first | with_reducible exact Below.refl _ _ | with_reducible assumption | with_reducible refine below_drewN ?_ _ | with_reducible refine Below.drew ?_ | with_reducible refine below_row ?_ (by first | omega | (simp; done) | (simp; omega)) _ | with_reducible refine Below.alloc ?_ (by first | omega | (simp; done) | (simp; omega)) _ | with_reducible refine Below.setCell ?_ (by first | omega | (simp; done) | (simp; omega)) _))
  · rw [if_neg hc1] at hv2
    have hcv := fun o => conv_of ((hv2.alloc o).drew)
    have hcv2 := hcv
    rw [Nat.add_sub_cancel_left] at hcv2
    go_enter Try.func53, Try.ntmps53
    go_wp2_with fail
    go_region
    go_wp2_with fail
    refine bodyPost_ret (results_ctt rfl _ _ w.heap.size 30 _ _ rfl ((Blk.new w _ _).drew) Try.underlying30 rfl (by kernel_rfl)) rfl ⟨rfl, ?_⟩
    (repeat (first | with_reducible exact Below.refl _ _ | with_reducible assumption | with_reducible refine below_drewN ?_ _ | with_reducible refine Below.drew ?_ | with_reducible refine below_row ?_ (by first | omega | (simp; done) | (simp; omega)) _ | with_reducible refine Below.alloc ?_ (by first | omega | (simp; done) | (simp; omega)) _ | with_reducible refine Below.setCell ?_ (by first | omega | (simp; done) | (simp; omega)) _))

set_option maxRecDepth 100000 in
set_option maxHeartbeats 4000000 in
/-- What stands behind the code of an extension: its length, if one stands there, its type, its bytes. -/
theorem takeCoded_ext (b : Int) (k : Nat) (hb : b = 199 ∧ k = 1 ∨ b = 200 ∧ k = 2 ∨ b = 201 ∧ k = 4) (a : Option Addr) (n c : Nat) (hd : List Int) (t : Int) (l : List Int) (lv : Int) (w0 : World) (hv : Vw w0 a n c (hd ++ t :: l)) (hh : hd.length = k) (m : Nat) (hm : beN hd = m) (hmn : k + (1 + m) ≤ n) :
    ∃ a', Vw w0 a' (n - k - (1 + m)) (c - k - (1 + m)) (l.drop m) ∧ ∀ w, Below w0.heap.size w0 w → Calls Try.prog 40 #[.int .i64 b, .slice a n c, .int .i64 lv] w fun e w' => e = .returned (.tuple #[pk 10 0 (strOfNums (l.take m)) (sg8 t), .slice a' (n - k - (1 + m)) (c - k - (1 + m)), .bool true]) ∧ Below w.heap.size w w' := by
  have hl : ilook codes (.int .i64 0) b = .int .i64 k := by rcases hb with ⟨rfl, rfl⟩ | ⟨rfl, rfl⟩ | ⟨rfl, rfl⟩ <;> rfl
  have hk8 : k ≤ 8 := by omega
  have h1 : 199 ≤ b := by omega
  have h2 : b ≤ 201 := by omega
  have h3 : ¬ b ≤ 198 := by omega
  have hlk := look_codes _ _ hl
  have e1 : (b == 193) = false := by simp; omega
  have e2 : (b == 192) = false := by simp; omega
  have e3 : (b == 194) = false := by simp; omega
  have e4 : (b == 195) = false := by simp; omega
  have e5 : (b == 202) = false := by simp; omega
  have e6 : (b == 203) = false := by simp; omega
  have hmm := @run_makeMap Try.prog
  obtain ⟨a', hs, hv'⟩ := off_of hv (k : Int) k rfl (by omega)
  have htk : (hd ++ t :: l).take k = hd := by rw [← hh]; simp
  have hdr : (hd ++ t :: l).drop k = t :: l := by rw [← hh]; simp
  rw [hdr] at hv'
  obtain ⟨a2, hs2, hv2⟩ := off_u64 hv' ((1 + m : Nat) : Int) (1 + m) rfl (by omega)
  have hd1 : (t :: l).drop (1 + m) = l.drop m := by rw [Nat.add_comm]; rfl
  rw [hd1] at hv2
  obtain ⟨L, hL⟩ : ∃ L, L = hd ++ t :: l := ⟨_, rfl⟩
  rw [← hL] at htk hv
  have HM := Lib.hid hm
  have HT := Lib.hid htk
  clear hb hl hm htk hdr hd1 hL hh
  refine ⟨a2, hv2, fun w hx => ?_⟩
  have hvw := Vw.below hx (Nat.le_refl _) hv
  go_enter Try.func40, Try.ntmps40
  go_wp2_with (refine wpList_inserts_n _ 99 3 3 Try.underlying99 Try.underlying3 17 23 codes (by simp [Act.eval]) (by simp [insOf, codes]) codes_apart ?_)
  go_wp2_with (go_at_call 52; refine (takeBig_ok _ _ _ _ _ rfl L _ (((hvw.alloc _).alloc _).alloc _) _ hs (by omega) (by omega)).mono ?_; rw [HT.out, HM.out]; rintro e w' ⟨rfl, nq, rfl⟩)
  refine (takeExt_ok t _ _ _ l _ (((((Vw.below hx (Nat.le_refl _) hv').alloc _).alloc _).alloc _).drewN _) m (by omega) _ hs2).mono ?_
  rintro e w1 ⟨rfl, hb1⟩
  have hB : Blk w1 w.heap.size 30 _ := Blk.below ((((Blk.new w _ _).alloc _).alloc _).drewN _) hb1 (by simp <;> omega)
  go_wp2_with (refine wpList_store_row (by rfl) 30 _ _ (by rfl) w.heap.size _ (by rfl) (by rfl) _ _ hB (by kernel_rfl) (by rfl) (by simp [Value.oneCell']) ?_)
  refine bodyPost_ret (results_ctt rfl _ _ w.heap.size 30 _ _ rfl (hB.row _) Try.underlying30 rfl (by kernel_rfl)) rfl ⟨rfl, ?_⟩
  refine below_row (Below.trans ?_ (hb1.mono (by simp <;> omega))) (Nat.le_refl _) _
  (repeat (first | with_reducible exact Below.refl _ _ | with_reducible assumption | with_reducible refine below_drewN ?_ _ | with_reducible refine Below.drew ?_ | with_reducible refine below_row ?_ (by first | omega | (simp; done) | (simp; omega)) _ | with_reducible refine Below.alloc ?_ (by first | omega | (simp; done) | (simp; omega)) _ | with_reducible refine Below.setCell ?_ (by first | omega | (simp; done) | (simp; omega)) _))

set_option maxRecDepth 100000 in
set_option maxHeartbeats 8000000 in
theorem takeCoded_fixext (b : Int) (m : Nat) (hb : b = 212 ∧ m = 1 ∨ b = 213 ∧ m = 2 ∨ b = 214 ∧ m = 4 ∨ b = 215 ∧ m = 8 ∨ b = 216 ∧ m = 16) (a : Option Addr) (n c : Nat) (t : Int) (l : List Int) (lv : Int) (w0 : World) (hv : Vw w0 a n c (t :: l)) (hmn : 1 + m ≤ n) :
    ∃ a', Vw w0 a' (n - (1 + m)) (c - (1 + m)) (l.drop m) ∧ ∀ w, Below w0.heap.size w0 w → Calls Try.prog 40 #[.int .i64 b, .slice a n c, .int .i64 lv] w fun e w' => e = .returned (.tuple #[pk 10 0 (strOfNums (l.take m)) (sg8 t), .slice a' (n - (1 + m)) (c - (1 + m)), .bool true]) ∧ Below w.heap.size w w' := by
  have hl : ilook codes (.int .i64 0) b = .int .i64 0 := by rcases hb with ⟨rfl, rfl⟩ | ⟨rfl, rfl⟩ | ⟨rfl, rfl⟩ | ⟨rfl, rfl⟩ | ⟨rfl, rfl⟩ <;> rfl
  have hlk := look_codes _ _ hl
  clear hl
  have hmm := @run_makeMap Try.prog
  obtain ⟨a', hs, hv'⟩ := off_of hv 0 0 rfl (by omega)
  obtain ⟨a2, hs2, hv2⟩ := off_u64 hv' ((1 + m : Nat) : Int) (1 + m) rfl (by omega)
  have hd1 : ((t :: l).drop 0).drop (1 + m) = l.drop m := by rw [Nat.add_comm]; rfl
  rw [hd1] at hv2
  simp only [Nat.sub_zero, List.drop_zero] at hv' hv2 hs2
  clear hd1
  obtain ⟨L, hL⟩ : ∃ L, L = t :: l := ⟨_, rfl⟩
  have hvL := hv
  rw [← hL] at hvL
  clear hL
  refine ⟨a2, hv2, fun w hx => ?_⟩
  have hvw := Vw.below hx (Nat.le_refl _) hvL
  rcases hb with ⟨rfl, rfl⟩ | ⟨rfl, rfl⟩ | ⟨rfl, rfl⟩ | ⟨rfl, rfl⟩ | ⟨rfl, rfl⟩
  all_goals
    go_enter Try.func40, Try.ntmps40
    go_wp2_with (refine wpList_inserts_n _ 99 3 3 Try.underlying99 Try.underlying3 17 23 codes (by simp [Act.eval]) (by simp [insOf, codes]) codes_apart ?_)
    go_wp2_with (go_at_call 52; refine (takeBig_ok _ _ _ 0 0 rfl L _ (((hvw.alloc _).alloc _).alloc _) _ hs (by omega) (by omega)).mono ?_; rintro e w' ⟨rfl, nq, rfl⟩)
    refine (takeExt_ok t _ _ _ l _ (((((Vw.below hx (Nat.le_refl _) hv').alloc _).alloc _).alloc _).drewN _) _ (by omega) _ hs2).mono ?_
    rintro e w1 ⟨rfl, hb1⟩
    have hB : Blk w1 w.heap.size 30 _ := Blk.below ((((Blk.new w _ _).alloc _).alloc _).drewN _) hb1 (by simp <;> omega)
    go_wp2_with (refine wpList_store_row (by rfl) 30 _ _ (by rfl) w.heap.size _ (by rfl) (by rfl) _ _ hB (by kernel_rfl) (by rfl) (by simp [Value.oneCell']) ?_)
    refine bodyPost_ret (results_ctt rfl _ _ w.heap.size 30 _ _ rfl (hB.row _) Try.underlying30 rfl (by kernel_rfl)) rfl ⟨rfl, ?_⟩
    refine below_row (Below.trans ?_ (hb1.mono (by simp <;> omega))) (Nat.le_refl _) _
    (repeat (first | with_reducible exact Below.refl _ _ | with_reducible assumption | with_reducible refine below_drewN ?_ _ | with_reducible refine Below.drew ?_ | with_reducible refine below_row ?_ (by first | omega | (simp; done) | (simp; omega)) _ | with_reducible refine Below.alloc ?_ (by first | omega | (simp; done) | (simp; omega)) _ | with_reducible refine Below.setCell ?_ (by first | omega | (simp; done) | (simp; omega)) _))

theorem reads_ext (b : Int) (k : Nat) (hb : b = 199 ∧ k = 1 ∨ b = 200 ∧ k = 2 ∨ b = 201 ∧ k = 4) (hd : List Int) (t : Int) (bs : List Int) (hl : hd.length = k) (hn : beN hd = bs.length) : Reads (b :: (hd ++ t :: bs)) 10 0 (strOfNums bs) (sg8 t) := by
  intro w0 a n c rest lv hlv hv
  have hnn : k + (1 + bs.length) ≤ n - 1 := by have := hv.len; simp at this; omega
  obtain ⟨a', h1, h2⟩ := takePack_coded b a n c (hd ++ t :: (bs ++ rest)) lv w0 (by simpa using hv) hlv (by omega) (by omega) 10 0 (sg8 t) (strOfNums bs) (n - 1 - k - (1 + bs.length)) (c - 1 - k - (1 + bs.length)) rest (fun a1 h1 => by
    have := takeCoded_ext b k hb a1 _ _ hd t (bs ++ rest) lv w0 h1 hl bs.length hn hnn
    rw [List.drop_left, List.take_left] at this
    exact this)
  exact ⟨a', _, _, h1.len.symm, h1, h2⟩
theorem reads_fixext (b : Int) (m : Nat) (hb : b = 212 ∧ m = 1 ∨ b = 213 ∧ m = 2 ∨ b = 214 ∧ m = 4 ∨ b = 215 ∧ m = 8 ∨ b = 216 ∧ m = 16) (t : Int) (bs : List Int) (hl : bs.length = m) : Reads (b :: t :: bs) 10 0 (strOfNums bs) (sg8 t) := by
  intro w0 a n c rest lv hlv hv
  have hnn : 1 + m ≤ n - 1 := by have := hv.len; simp at this; omega
  obtain ⟨a', h1, h2⟩ := takePack_coded b a n c (t :: (bs ++ rest)) lv w0 (by simpa using hv) hlv (by omega) (by omega) 10 0 (sg8 t) (strOfNums bs) (n - 1 - (1 + m)) (c - 1 - (1 + m)) rest (fun a1 h1 => by
    have := takeCoded_fixext b m hb a1 _ _ t (bs ++ rest) lv w0 h1 hnn
    rw [← hl, List.drop_left, List.take_left, hl] at this
    exact this)
  exact ⟨a', _, _, h1.len.symm, h1, h2⟩
end Go.Proofs.Ytliaiaefhbgblaa
