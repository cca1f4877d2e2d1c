/- spec.TakePack at values without values in them. -/
import Derived.Test.YtbngkfdfjpbajaaCodedTxt
import Derived.Test.YtbngkfdfjpbajaaCodedInt
namespace Go.Proofs.Ytbngkfdfjpbajaa
open Go.RowKit
set_option linter.unusedVariables false

/-- The answer of a function that takes a value off bytes. -/
def Took (f : FuncId) (args : Array Value) (w : World) (v : Value) (a : Option Addr) (n c : Nat) : Prop :=
  Calls Try.prog f args w fun e w' => e = .returned (.tuple #[v, .slice a n c, .bool true]) ∧ Below w.heap.size w w'

set_option maxRecDepth 100000 in
set_option maxHeartbeats 1000000 in
theorem takePack_small (b : Int) (a : Option Addr) (n c : Nat) (l : List Int) (lv : Int) (w0 : World) (hv : Vw w0 a n c (b :: l)) (hlv : 1 ≤ lv) (hb : b < 128) :
    ∃ a', Vw w0 a' (n - 1) (c - 1) l ∧ ∀ w, Below w0.heap.size w0 w → Took 13 #[.slice a n c, .int .i64 lv] w (pk 3 b ⟨#[]⟩ 0) a' (n - 1) (c - 1) := by
  have hcn := hv.cap
  have hcb := hv.big
  have hn : 1 ≤ n := by have := hv.len; simp at this; omega
  have hby := hv.byt b (by simp)
  obtain ⟨hb0, hb1⟩ := hby
  obtain ⟨a1, hs, hv'⟩ := off_of hv 1 1 rfl hn
  unfold Off at hs
  refine ⟨a1, hv', fun w hx => ?_⟩
  rcases (Vw.below hx (Nat.le_refl _) hv).cells with h0 | ⟨bl, off, rfl, hc⟩
  · omega
  · have hc0 := hc 0 (by omega)
    simp at hc0
    clear hc
    have hbl := World.block_lt_of_cell? w _ hc0
    have hn0 : ((n : Int) == 0) = false := by simp; omega
    have hn1 : (0 : Int) < (n : Int) := by omega
    unfold Took
    go_enter Try.func13, Try.ntmps13
    go_wp2_with fail
    go_quiet (fail)
    go_wp2_with fail
    refine bodyPost_ret (results_ctt rfl _ _ w.heap.size 31 _ _ rfl ?_ Try.underlying31 rfl (by kernel_rfl)) rfl ⟨rfl, ?_⟩
    · exact Blk.set5 (((Blk.new w _ _).alloc _).drewN _) rfl _ _ _ _ _
    · (repeat (first | with_reducible exact Below.refl _ _ | with_reducible assumption | with_reducible refine below_drewN ?_ _ | with_reducible refine Below.drew ?_ | with_reducible refine below_row ?_ (by first | omega | (simp; done) | (simp; omega)) _ | with_reducible refine Below.alloc ?_ (by first | omega | (simp; done) | (simp; omega)) _ | with_reducible refine Below.setCell ?_ (by first | omega | (simp; done) | (simp; omega)) _))

set_option maxRecDepth 100000 in
set_option maxHeartbeats 1000000 in
theorem takePack_nfix (b : Int) (a : Option Addr) (n c : Nat) (l : List Int) (lv : Int) (w0 : World) (hv : Vw w0 a n c (b :: l)) (hlv : 1 ≤ lv) (hb : 224 ≤ b) :
    ∃ a', Vw w0 a' (n - 1) (c - 1) l ∧ ∀ w, Below w0.heap.size w0 w → Took 13 #[.slice a n c, .int .i64 lv] w (pk 2 (b + 18446744073709551360) ⟨#[]⟩ 0) a' (n - 1) (c - 1) := by
  have hcn := hv.cap
  have hcb := hv.big
  have hn : 1 ≤ n := by have := hv.len; simp at this; omega
  have hby := hv.byt b (by simp)
  obtain ⟨hb0, hb1⟩ := hby
  obtain ⟨a1, hs, hv'⟩ := off_of hv 1 1 rfl hn
  unfold Off at hs
  refine ⟨a1, hv', fun w hx => ?_⟩
  rcases (Vw.below hx (Nat.le_refl _) hv).cells with h0 | ⟨bl, off, rfl, hc⟩
  · omega
  · have hc0 := hc 0 (by omega)
    simp at hc0
    clear hc
    have hbl := World.block_lt_of_cell? w _ hc0
    have hn0 : ((n : Int) == 0) = false := by simp; omega
    have hn1 : (0 : Int) < (n : Int) := by omega
    have hval := Lib.hid (show IntKind.u64.wrap (wrap64 (IntKind.i8.wrap b)) = b + 18446744073709551360 by rw [wrap_i8, IntKind.wrap_u64]; unfold wrap64; omega)
    unfold Took
    go_enter Try.func13, Try.ntmps13
    go_wp2_with fail
    go_quiet (fail)
    go_wp2_with fail
    refine bodyPost_ret (results_ctt rfl _ _ w.heap.size 31 _ _ rfl ?_ Try.underlying31 rfl (by kernel_rfl)) rfl ⟨congrArg (fun x => Ending.returned (.tuple #[pk 2 x ⟨#[]⟩ 0, .slice a1 (n - 1) (c - 1), .bool true])) hval.out, ?_⟩
    · exact Blk.set5 (((Blk.new w _ _).alloc _).drewN _) rfl _ _ _ _ _
    · (repeat (first | with_reducible exact Below.refl _ _ | with_reducible assumption | with_reducible refine below_drewN ?_ _ | with_reducible refine Below.drew ?_ | with_reducible refine below_row ?_ (by first | omega | (simp; done) | (simp; omega)) _ | with_reducible refine Below.alloc ?_ (by first | omega | (simp; done) | (simp; omega)) _ | with_reducible refine Below.setCell ?_ (by first | omega | (simp; done) | (simp; omega)) _))

set_option maxRecDepth 100000 in
set_option maxHeartbeats 1000000 in
theorem takePack_fixtext (b : Int) (a : Option Addr) (n c : Nat) (l : List Int) (lv : Int) (w0 : World) (hv : Vw w0 a n c (b :: l)) (hlv : 1 ≤ lv) (hb2 : 160 ≤ b) (hb3 : b < 192) (m : Nat) (hm : b = 160 + m) (hml : m ≤ l.length) :
    ∃ a', Vw w0 a' (n - 1 - m) (c - 1 - m) (l.drop m) ∧ ∀ w, Below w0.heap.size w0 w → Took 13 #[.slice a n c, .int .i64 lv] w (pk 6 0 (strOfNums (l.take m)) 0) a' (n - 1 - m) (c - 1 - m) := by
  have hcn := hv.cap
  have hcb := hv.big
  have hn : 1 ≤ n := by have := hv.len; simp at this; omega
  have hby := hv.byt b (by simp)
  obtain ⟨hb0, hb1⟩ := hby
  obtain ⟨a1, hs, hv'⟩ := off_of hv 1 1 rfl hn
  unfold Off at hs
  have hl1 := hv.len
  simp at hl1
  simp at hv'
  have HV := Lib.hid (show IntKind.u64.wrap (bits BinOp.and IntKind.i64 b 31) = (m : Int) by rw [i64_and31, IntKind.wrap_u64]; omega)
  have HM := Lib.hid hm
  obtain ⟨a2, hs2, hv2⟩ := off_u64 hv' _ m HV.out (by omega)
  clear hm
  refine ⟨a2, hv2, fun w hx => ?_⟩
  rcases (Vw.below hx (Nat.le_refl _) hv).cells with h0 | ⟨bl, off, rfl, hc⟩
  · omega
  · have hc0 := hc 0 (by omega)
    simp at hc0
    clear hc
    have hbl := World.block_lt_of_cell? w _ hc0
    have hn0 : ((n : Int) == 0) = false := by simp; omega
    have hn1 : (0 : Int) < (n : Int) := by omega
    unfold Took
    go_enter Try.func13, Try.ntmps13
    go_wp2_with fail
    go_quiet (fail)
    go_wp2_with fail
    refine (takeText_ok _ _ _ _ _ _ ((((Vw.below hx (Nat.le_refl _) hv').alloc _).alloc _).drewN _) _ m HV.out (by omega) _ hs2).mono ?_
    rintro e w1 ⟨rfl, hb1⟩
    have hB : Blk w1 w.heap.size 31 _ := Blk.below (((Blk.new w _ _).alloc _).drewN _) hb1 (by simp <;> omega)
    go_wp2_with (refine wpList_store_row (by rfl) 31 _ _ (by rfl) w.heap.size _ (by rfl) (by rfl) _ _ hB (by kernel_rfl) (by rfl) (by simp [Value.oneCell']) ?_)
    refine bodyPost_ret (results_ctt rfl _ _ w.heap.size 31 _ _ rfl (hB.row _) Try.underlying31 rfl (by kernel_rfl)) rfl ⟨rfl, ?_⟩
    refine below_row (Below.trans ?_ (hb1.mono (by simp <;> omega))) (Nat.le_refl _) _
    (repeat (first | with_reducible exact Below.refl _ _ | with_reducible assumption | with_reducible refine below_drewN ?_ _ | with_reducible refine Below.drew ?_ | with_reducible refine below_row ?_ (by first | omega | (simp; done) | (simp; omega)) _ | with_reducible refine Below.alloc ?_ (by first | omega | (simp; done) | (simp; omega)) _ | with_reducible refine Below.setCell ?_ (by first | omega | (simp; done) | (simp; omega)) _))
set_option maxRecDepth 100000 in
set_option maxHeartbeats 1000000 in
theorem takePack_coded (b : Int) (a : Option Addr) (n c : Nat) (l : List Int) (lv : Int) (w0 : World) (hv : Vw w0 a n c (b :: l)) (hlv : 1 ≤ lv) (hb2 : 192 ≤ b) (hb3 : b < 224) (kind num ext : Int) (text : ByteArray) (n2 c2 : Nat) (l2 : List Int)
    (H : ∀ a1, Vw w0 a1 (n - 1) (c - 1) l → ∃ a', Vw w0 a' n2 c2 l2 ∧ ∀ w, Below w0.heap.size w0 w → Calls Try.prog 25 #[.int .i64 b, .slice a1 (n - 1) (c - 1), .int .i64 lv] w fun e w' => e = .returned (.tuple #[pk kind num text ext, .slice a' n2 c2, .bool true]) ∧ Below w.heap.size w w') :
    ∃ a', Vw w0 a' n2 c2 l2 ∧ ∀ w, Below w0.heap.size w0 w → Took 13 #[.slice a n c, .int .i64 lv] w (pk kind num text ext) a' n2 c2 := by
  have hcn := hv.cap
  have hcb := hv.big
  have hn : 1 ≤ n := by have := hv.len; simp at this; omega
  have hby := hv.byt b (by simp)
  obtain ⟨hb0, hb1⟩ := hby
  obtain ⟨a1, hs, hv'⟩ := off_of hv 1 1 rfl hn
  unfold Off at hs
  obtain ⟨a2, hv2, hcall⟩ := H a1 hv'
  have HC := Lib.hid hcall
  refine ⟨a2, hv2, fun w hx => ?_⟩
  clear H hcall
  rcases (Vw.below hx (Nat.le_refl _) hv).cells with h0 | ⟨bl, off, rfl, hc⟩
  · omega
  · have hc0 := hc 0 (by omega)
    simp at hc0
    clear hc
    have hbl := World.block_lt_of_cell? w _ hc0
    have hn0 : ((n : Int) == 0) = false := by simp; omega
    have hn1 : (0 : Int) < (n : Int) := by omega
    unfold Took
    go_enter Try.func13, Try.ntmps13
    go_wp2_with fail
    go_quiet (fail)
    go_wp2_with fail
    refine (HC.out _ ?_).mono ?_
    · refine hx.trans (Below.mono (B := w.heap.size) ?_ hx.size)
      (repeat (first | with_reducible exact Below.refl _ _ | with_reducible assumption | with_reducible refine below_drewN ?_ _ | with_reducible refine Below.drew ?_ | with_reducible refine below_row ?_ (by first | omega | (simp; done) | (simp; omega)) _ | with_reducible refine Below.alloc ?_ (by first | omega | (simp; done) | (simp; omega)) _ | with_reducible refine Below.setCell ?_ (by first | omega | (simp; done) | (simp; omega)) _))
    rintro e w1 ⟨rfl, hb1⟩
    have hB : Blk w1 w.heap.size 31 _ := Blk.below (((Blk.new w _ _).alloc _).drewN _) hb1 (by simp <;> omega)
    go_wp2_with (refine wpList_store_row (by rfl) 31 _ _ (by rfl) w.heap.size _ (by rfl) (by rfl) _ _ hB (by kernel_rfl) (by rfl) (by simp [Value.oneCell']) ?_)
    refine bodyPost_ret (results_ctt rfl _ _ w.heap.size 31 _ _ rfl (hB.row _) Try.underlying31 rfl (by kernel_rfl)) rfl ⟨rfl, ?_⟩
    refine below_row (Below.trans ?_ (hb1.mono (by simp <;> omega))) (Nat.le_refl _) _
    (repeat (first | with_reducible exact Below.refl _ _ | with_reducible assumption | with_reducible refine below_drewN ?_ _ | with_reducible refine Below.drew ?_ | with_reducible refine below_row ?_ (by first | omega | (simp; done) | (simp; omega)) _ | with_reducible refine Below.alloc ?_ (by first | omega | (simp; done) | (simp; omega)) _ | with_reducible refine Below.setCell ?_ (by first | omega | (simp; done) | (simp; omega)) _))
end Go.Proofs.Ytbngkfdfjpbajaa
