/- msgp.ReadTimeUTCBytes, impl.GetTime. -/
import Derived.Test.YtdncfolehkhjhaaDoorRTm
namespace Go.Proofs.YtdncfolehkhjhaaDoor
open Go.RowKit
set_option linter.unusedVariables false
set_option linter.unusedSimpArgs false

set_option maxRecDepth 100000 in
set_option maxHeartbeats 4000000 in
theorem rtu_any (a : Option Addr) (n c : Nat) (a1 : Option Addr) (n1 c1 : Nat) (sec ns : Int) (w : World) (hr : ∀ W, Below w.heap.size w W → Calls Tryd.prog 43 #[.slice a n c] W (RTm sec ns a1 n1 c1 W)) :
    Calls Tryd.prog 24 #[.slice a n c] w (RTm sec ns a1 n1 c1 w) := by
  have HR := Lib.hid hr
  clear hr
  go_enter Tryd.func24, Tryd.ntmps24
  go_wp2_with fail
  refine (HR.out _ (by (repeat (first | with_reducible exact Below.refl _ _ | with_reducible assumption | with_reducible refine below_drewN ?_ _ | with_reducible refine Below.drew ?_ | with_reducible refine below_row ?_ (by first | omega | (simp; done) | (simp; omega)) _ | with_reducible refine Below.alloc ?_ (by first | omega | (simp; done) | (simp; omega)) _ | with_reducible refine Below.setCell ?_ (by first | omega | (simp; done) | (simp; omega)) _)))).mono ?_
  rintro e w1 ⟨rfl, hb1⟩
  have hb1w : Below w.heap.size w w1 := Below.trans (b := _) ((Below.refl _ w).alloc (Nat.le_refl _) _) (hb1.mono (by simp))
  have hB1 : Blk w1 w.heap.size 64 #[.int .i64 0, .int .i64 0] := (Blk.new _ _ _).below hb1 (by simp)
  have hl1 := hB1.lt
  have hs1 := hb1w.size
  have f0 := hB1.frozen 0
  have f1 := hB1.frozen 1
  have q0 := hB1.cell (i := 0) rfl
  have q1 := hB1.cell (i := 1) rfl
  have HB1 := Lib.hid hB1
  clear hB1
  go_wp2_with fail
  have hb2w : Below w.heap.size w ((w1.setCell ⟨w.heap.size, 0, none⟩ (.int .i64 sec)).setCell ⟨w.heap.size, 1, none⟩ (.int .i64 ns)) := by (repeat (first | with_reducible exact Below.refl _ _ | with_reducible assumption | with_reducible refine below_drewN ?_ _ | with_reducible refine Below.drew ?_ | with_reducible refine below_row ?_ (by first | omega | (simp; done) | (simp; omega)) _ | with_reducible refine Below.alloc ?_ (by first | omega | (simp; done) | (simp; omega)) _ | with_reducible refine Below.setCell ?_ (by first | omega | (simp; done) | (simp; omega)) _))
  have hB2 : Blk ((w1.setCell ⟨w.heap.size, 0, none⟩ (.int .i64 sec)).setCell ⟨w.heap.size, 1, none⟩ (.int .i64 ns)) w.heap.size 64 #[.int .i64 sec, .int .i64 ns] := (HB1.out.set 0 _).set 1 _
  refine (utc_any sec ns _).mono ?_
  rintro e w3 ⟨rfl, hb3⟩
  have hb3w := hb2w.trans (hb3.mono hb2w.size)
  have hB3 := hB2.below hb3 hB2.lt
  have hs3 := hb3w.size
  have f0 := hB3.frozen 0
  have f1 := hB3.frozen 1
  have q0 := hB3.cell (i := 0) rfl
  have q1 := hB3.cell (i := 1) rfl
  have HB3 := Lib.hid hB3
  clear hB3 hB2 hb2w hb3
  go_wp2_with fail
  refine bodyPost_ret (results_ctt rfl _ _ w.heap.size 64 _ _ rfl ((HB3.out.set 0 _).set 1 _) Tryd.underlying64 rfl (by kernel_rfl)) rfl ⟨rfl, by (repeat (first | with_reducible exact Below.refl _ _ | with_reducible assumption | with_reducible refine below_drewN ?_ _ | with_reducible refine Below.drew ?_ | with_reducible refine below_row ?_ (by first | omega | (simp; done) | (simp; omega)) _ | with_reducible refine Below.alloc ?_ (by first | omega | (simp; done) | (simp; omega)) _ | with_reducible refine Below.setCell ?_ (by first | omega | (simp; done) | (simp; omega)) _))⟩

set_option maxRecDepth 100000 in
set_option maxHeartbeats 4000000 in
theorem gtm_any (a : Option Addr) (n c : Nat) (a1 : Option Addr) (n1 c1 : Nat) (r : List Int) (sec ns : Int) (h0 : 0 ≤ ns) (h1 : ns < 1000000000) (w : World) (hv : Vw w a1 n1 c1 r) (hn1 : n1 ≤ 1099511627776) (hr : Calls Tryd.prog 24 #[.slice a n c] w (RTm sec ns a1 n1 c1 w)) :
    Calls Tryd.prog 10 #[.slice a n c] w fun e w' => ∃ a2 c2, e = .returned (.tuple #[.int .i64 sec, .int .i32 ns, .slice a2 n1 c2, .bool true]) ∧ Vw w' a2 n1 c2 r ∧ Below w.heap.size w w' := by
  have HR := Lib.hid hr
  have HV := Lib.hid hv
  clear hr hv
  go_enter Tryd.func10, Tryd.ntmps10
  go_wp2_with fail
  refine HR.out.mono ?_
  rintro e w1 ⟨rfl, hb1⟩
  go_wp2_with fail
  have hs1 := hb1.size
  have hb2w : ∀ o, Below w.heap.size w (w1.alloc o) := fun o => hb1.alloc hs1 o
  have hB2 : Blk (w1.alloc (.cells #[.int .i64 sec, .int .i64 ns] 64)) w1.heap.size 64 #[.int .i64 sec, .int .i64 ns] := Blk.new _ _ _
  have hb2w := hb2w (.cells #[.int .i64 sec, .int .i64 ns] 64)
  generalize w1.alloc (.cells #[.int .i64 sec, .int .i64 ns] 64) = w2 at *
  have HV2 := Lib.hid (HV.out.below hb2w (Nat.le_refl _))
  have K : ∀ W, Below w2.heap.size w2 W → (fun W => Below w2.heap.size w2 W ∧ W.cell? ⟨w1.heap.size, 0, none⟩ = some (.int .i64 sec) ∧ W.cell? ⟨w1.heap.size, 1, none⟩ = some (.int .i64 ns)) W := fun W hq => ⟨hq, (hB2.below hq hB2.lt).cell (i := 0) rfl, (hB2.below hq hB2.lt).cell (i := 1) rfl⟩
  have q0 := hB2.cell (i := 0) rfl
  have q1 := hB2.cell (i := 1) rfl
  clear hB2 hb1
  go_region_held3 (fun W => Below w2.heap.size w2 W ∧ W.cell? ⟨w1.heap.size, 0, none⟩ = some (.int .i64 sec) ∧ W.cell? ⟨w1.heap.size, 1, none⟩ = some (.int .i64 ns)) ((exact K _ (by (repeat (first | with_reducible exact Below.refl _ _ | with_reducible assumption | with_reducible refine below_drewN ?_ _ | with_reducible refine Below.drew ?_ | with_reducible refine below_row ?_ (by first | omega | (simp; done) | (simp; omega)) _ | with_reducible refine Below.alloc ?_ (by first | omega | (simp; done) | (simp; omega)) _ | with_reducible refine Below.setCell ?_ (by first | omega | (simp; done) | (simp; omega)) _))))) (first | (go_at_call 25; refine (unix_any sec ns _).mono ?_; rintro e w3 ⟨rfl, hb30⟩; obtain ⟨W9, hq, hq2⟩ : ∃ W9, Below w2.heap.size w2 W9 ∧ Below W9.heap.size W9 w3 := ⟨_, (by (repeat (first | with_reducible exact Below.refl _ _ | with_reducible assumption | with_reducible refine below_drewN ?_ _ | with_reducible refine Below.drew ?_ | with_reducible refine below_row ?_ (by first | omega | (simp; done) | (simp; omega)) _ | with_reducible refine Below.alloc ?_ (by first | omega | (simp; done) | (simp; omega)) _ | with_reducible refine Below.setCell ?_ (by first | omega | (simp; done) | (simp; omega)) _))), hb30⟩; have hb3 : Below w2.heap.size w2 w3 := hq.trans (hq2.mono hq.size)) | (go_at_call 26; refine (nanos_any sec ns _).mono ?_; rintro e w4 ⟨rfl, hb40⟩; obtain ⟨W9, hq, hq2⟩ : ∃ W9, Below w2.heap.size w2 W9 ∧ Below W9.heap.size W9 w4 := ⟨_, (by (repeat (first | with_reducible exact Below.refl _ _ | with_reducible assumption | with_reducible refine below_drewN ?_ _ | with_reducible refine Below.drew ?_ | with_reducible refine below_row ?_ (by first | omega | (simp; done) | (simp; omega)) _ | with_reducible refine Below.alloc ?_ (by first | omega | (simp; done) | (simp; omega)) _ | with_reducible refine Below.setCell ?_ (by first | omega | (simp; done) | (simp; omega)) _))), hb40⟩; have hb4 : Below w2.heap.size w2 w4 := hq.trans (hq2.mono hq.size)) | (go_at_call 27; refine (copied_any a1 n1 c1 r _ (HV2.out.below (by (repeat (first | with_reducible exact Below.refl _ _ | with_reducible assumption | with_reducible refine below_drewN ?_ _ | with_reducible refine Below.drew ?_ | with_reducible refine below_row ?_ (by first | omega | (simp; done) | (simp; omega)) _ | with_reducible refine Below.alloc ?_ (by first | omega | (simp; done) | (simp; omega)) _ | with_reducible refine Below.setCell ?_ (by first | omega | (simp; done) | (simp; omega)) _))) (Nat.le_refl _)) hn1).mono ?_; rintro e w5 ⟨a5, c5, rfl, ho5, hb50⟩; obtain ⟨W9, hq, hq2⟩ : ∃ W9, Below w2.heap.size w2 W9 ∧ Below W9.heap.size W9 w5 := ⟨_, (by (repeat (first | with_reducible exact Below.refl _ _ | with_reducible assumption | with_reducible refine below_drewN ?_ _ | with_reducible refine Below.drew ?_ | with_reducible refine below_row ?_ (by first | omega | (simp; done) | (simp; omega)) _ | with_reducible refine Below.alloc ?_ (by first | omega | (simp; done) | (simp; omega)) _ | with_reducible refine Below.setCell ?_ (by first | omega | (simp; done) | (simp; omega)) _))), hb50⟩; have hb5 : Below w2.heap.size w2 w5 := hq.trans (hq2.mono hq.size)))
  have hv5 := ho5.vw
  go_wp2_with fail
  (try simp only [Exit.inBlock, Exit.then]); refine bodyPost_ret (results_tmp4 rfl _ _ _) rfl ?_
  have hw : IntKind.i32.wrap ns = ns := by rw [IntKind.wrap_i32]; omega
  exact ⟨a5, c5, congrArg (fun x => Ending.returned (.tuple #[.int .i64 sec, .int .i32 x, .slice a5 n1 c5, .bool true])) hw, hv5, hb2w.trans (hb5.mono hb2w.size)⟩
end Go.Proofs.YtdncfolehkhjhaaDoor
