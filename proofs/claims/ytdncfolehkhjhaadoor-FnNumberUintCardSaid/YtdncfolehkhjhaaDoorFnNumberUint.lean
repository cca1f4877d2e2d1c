/- The walk of laws.FnNumberUint. -/
import Derived.Test.YtdncfolehkhjhaaDoorNumx
namespace Go.Proofs.YtdncfolehkhjhaaDoor
open Go.RowKit
set_option linter.unusedVariables false
set_option linter.unusedSimpArgs false

theorem results_ctN {P : Program} {fn : Func} {p u : Tmp} {ty : TypeId} (h : fn.results = #[.cell p ty, .tmp u]) (tmps : Array Value) (w : World) (g : Nat) (t : TypeId) (cs : Array Value) (d : TypeDesc)
    (hp : tmps.getD p undef = .pointer (some ⟨g, 0, none⟩)) (hg : Blk w g t cs)
    (hu : P.underlying ty = some d) (hd : (match d with | .struct _ | .array _ _ => true | _ => false) = true) (hi : (P.info? ty).map (·.size) = some cs.size) :
    (results fn tmps).run P w = .ok (.tuple #[.agg cs, tmps.getD u undef]) w := by
  have hp' : tmps[p]?.getD undef = .pointer (some ⟨g, 0, none⟩) := by simpa using hp
  simp [results, h, hp', asAddr, run_loadVar_row w g t ty cs (0, 0) d hg hu hd hi]
theorem blk_row {w : World} {g k t : Nat} {cs : Array Value} (h : Blk w g t cs) (hne : g ≠ k) (c2 : Array Value) : Blk (w.setRow k c2) g t cs := by
  unfold Blk
  rw [setRow_other w k g c2 hne]
  exact h

def NoRes (b : Bool) (w : World) (e : Ending) (w' : World) : Prop := ∃ k n : Int, e = .returned (.tuple #[.agg #[.int .i64 k, .int .u64 n, .string ⟨#[]⟩, .int .i64 0, .slice none 0 0], .bool b]) ∧ Below w.heap.size w w'

set_option maxRecDepth 100000 in
set_option maxHeartbeats 4000000 in
theorem numberOf_no (k : Int) (x : Nat) (hx : x < 18446744073709551616) (hk : k < 0 ∨ 3 < k ∨ (k = 2 ∧ 4294967296 ≤ x)) (w : World) : Calls Tryd.prog 7 #[.int .i64 k, .int .u64 x] w (NoRes false w) := by
  rcases hk with hk | hk | ⟨rfl, hk⟩
  · go_enter Tryd.func7, Tryd.ntmps7
    go_wp2_with fail
    refine bodyPost_ret (results_ctN rfl _ _ w.heap.size 27 _ _ rfl (by (repeat (first | with_reducible exact Blk.new _ _ _ | with_reducible assumption | with_reducible refine Blk.newAt (by first | rfl | (simp; done) | (simp; omega)) _ _ | with_reducible refine Blk.alloc ?_ _ | with_reducible refine Blk.drewN ?_ _ | with_reducible refine Blk.drew ?_ | with_reducible refine Blk.other ?_ (by first | omega | (simp; done) | (simp; omega)) _))) Tryd.underlying27 rfl (by kernel_rfl)) rfl ⟨_, _, rfl, by (repeat (first | with_reducible exact Below.refl _ _ | with_reducible assumption | with_reducible refine below_drewN ?_ _ | with_reducible refine Below.drew ?_ | with_reducible refine below_row ?_ (by first | omega | (simp; done) | (simp; omega)) _ | with_reducible refine Below.alloc ?_ (by first | omega | (simp; done) | (simp; omega)) _ | with_reducible refine Below.setCell ?_ (by first | omega | (simp; done) | (simp; omega)) _))⟩
  · have h0 : ¬ (k < 0) := by omega
    go_enter Tryd.func7, Tryd.ntmps7
    go_wp2_with fail
    refine bodyPost_ret (results_ctN rfl _ _ w.heap.size 27 _ _ rfl (by (repeat (first | with_reducible exact Blk.new _ _ _ | with_reducible assumption | with_reducible refine Blk.newAt (by first | rfl | (simp; done) | (simp; omega)) _ _ | with_reducible refine Blk.alloc ?_ _ | with_reducible refine Blk.drewN ?_ _ | with_reducible refine Blk.drew ?_ | with_reducible refine Blk.other ?_ (by first | omega | (simp; done) | (simp; omega)) _))) Tryd.underlying27 rfl (by kernel_rfl)) rfl ⟨_, _, rfl, by (repeat (first | with_reducible exact Below.refl _ _ | with_reducible assumption | with_reducible refine below_drewN ?_ _ | with_reducible refine Below.drew ?_ | with_reducible refine below_row ?_ (by first | omega | (simp; done) | (simp; omega)) _ | with_reducible refine Below.alloc ?_ (by first | omega | (simp; done) | (simp; omega)) _ | with_reducible refine Below.setCell ?_ (by first | omega | (simp; done) | (simp; omega)) _))⟩
  · have h1 : (0 : Int) < (x : Int) / 4294967296 := by omega
    go_enter Tryd.func7, Tryd.ntmps7
    go_wp2_with fail
    refine bodyPost_ret (results_ctN rfl _ _ w.heap.size 27 _ _ rfl (by (repeat (first | with_reducible exact Blk.new _ _ _ | with_reducible assumption | with_reducible refine Blk.newAt (by first | rfl | (simp; done) | (simp; omega)) _ _ | with_reducible refine Blk.alloc ?_ _ | with_reducible refine Blk.drewN ?_ _ | with_reducible refine Blk.drew ?_ | with_reducible refine Blk.other ?_ (by first | omega | (simp; done) | (simp; omega)) _))) Tryd.underlying27 rfl (by kernel_rfl)) rfl ⟨_, _, rfl, by (repeat (first | with_reducible exact Below.refl _ _ | with_reducible assumption | with_reducible refine below_drewN ?_ _ | with_reducible refine Below.drew ?_ | with_reducible refine below_row ?_ (by first | omega | (simp; done) | (simp; omega)) _ | with_reducible refine Below.alloc ?_ (by first | omega | (simp; done) | (simp; omega)) _ | with_reducible refine Below.setCell ?_ (by first | omega | (simp; done) | (simp; omega)) _))⟩
set_option maxRecDepth 100000 in
set_option maxHeartbeats 4000000 in
theorem numberOf_yes (k : Int) (x : Nat) (hx : x < 18446744073709551616) (hk : k = 0 ∨ k = 1 ∨ (k = 2 ∧ x < 4294967296) ∨ k = 3) (w : World) : Calls Tryd.prog 7 #[.int .i64 k, .int .u64 x] w (NoRes true w) := by
  rcases hk with rfl | rfl | ⟨rfl, hk⟩ | rfl
  · go_enter Tryd.func7, Tryd.ntmps7
    go_wp2_with fail
    refine bodyPost_ret (results_ctN rfl _ _ w.heap.size 27 _ _ rfl (by (repeat (first | with_reducible exact Blk.new _ _ _ | with_reducible assumption | with_reducible refine Blk.newAt (by first | rfl | (simp; done) | (simp; omega)) _ _ | with_reducible refine Blk.alloc ?_ _ | with_reducible refine Blk.drewN ?_ _ | with_reducible refine Blk.drew ?_ | with_reducible refine Blk.other ?_ (by first | omega | (simp; done) | (simp; omega)) _))) Tryd.underlying27 rfl (by kernel_rfl)) rfl ⟨_, _, rfl, by (repeat (first | with_reducible exact Below.refl _ _ | with_reducible assumption | with_reducible refine below_drewN ?_ _ | with_reducible refine Below.drew ?_ | with_reducible refine below_row ?_ (by first | omega | (simp; done) | (simp; omega)) _ | with_reducible refine Below.alloc ?_ (by first | omega | (simp; done) | (simp; omega)) _ | with_reducible refine Below.setCell ?_ (by first | omega | (simp; done) | (simp; omega)) _))⟩
  · go_enter Tryd.func7, Tryd.ntmps7
    go_wp2_with fail
    refine bodyPost_ret (results_ctN rfl _ _ w.heap.size 27 _ _ rfl (by (repeat (first | with_reducible exact Blk.new _ _ _ | with_reducible assumption | with_reducible refine Blk.newAt (by first | rfl | (simp; done) | (simp; omega)) _ _ | with_reducible refine Blk.alloc ?_ _ | with_reducible refine Blk.drewN ?_ _ | with_reducible refine Blk.drew ?_ | with_reducible refine Blk.other ?_ (by first | omega | (simp; done) | (simp; omega)) _))) Tryd.underlying27 rfl (by kernel_rfl)) rfl ⟨_, _, rfl, by (repeat (first | with_reducible exact Below.refl _ _ | with_reducible assumption | with_reducible refine below_drewN ?_ _ | with_reducible refine Below.drew ?_ | with_reducible refine below_row ?_ (by first | omega | (simp; done) | (simp; omega)) _ | with_reducible refine Below.alloc ?_ (by first | omega | (simp; done) | (simp; omega)) _ | with_reducible refine Below.setCell ?_ (by first | omega | (simp; done) | (simp; omega)) _))⟩
  · have h1 : ¬ ((0 : Int) < (x : Int) / 4294967296) := by omega
    go_enter Tryd.func7, Tryd.ntmps7
    go_wp2_with fail
    refine bodyPost_ret (results_ctN rfl _ _ w.heap.size 27 _ _ rfl (by (repeat (first | with_reducible exact Blk.new _ _ _ | with_reducible assumption | with_reducible refine Blk.newAt (by first | rfl | (simp; done) | (simp; omega)) _ _ | with_reducible refine Blk.alloc ?_ _ | with_reducible refine Blk.drewN ?_ _ | with_reducible refine Blk.drew ?_ | with_reducible refine Blk.other ?_ (by first | omega | (simp; done) | (simp; omega)) _))) Tryd.underlying27 rfl (by kernel_rfl)) rfl ⟨_, _, rfl, by (repeat (first | with_reducible exact Below.refl _ _ | with_reducible assumption | with_reducible refine below_drewN ?_ _ | with_reducible refine Below.drew ?_ | with_reducible refine below_row ?_ (by first | omega | (simp; done) | (simp; omega)) _ | with_reducible refine Below.alloc ?_ (by first | omega | (simp; done) | (simp; omega)) _ | with_reducible refine Below.setCell ?_ (by first | omega | (simp; done) | (simp; omega)) _))⟩
  · go_enter Tryd.func7, Tryd.ntmps7
    go_wp2_with fail
    refine bodyPost_ret (results_ctN rfl _ _ w.heap.size 27 _ _ rfl (by (repeat (first | with_reducible exact Blk.new _ _ _ | with_reducible assumption | with_reducible refine Blk.newAt (by first | rfl | (simp; done) | (simp; omega)) _ _ | with_reducible refine Blk.alloc ?_ _ | with_reducible refine Blk.drewN ?_ _ | with_reducible refine Blk.drew ?_ | with_reducible refine Blk.other ?_ (by first | omega | (simp; done) | (simp; omega)) _))) Tryd.underlying27 rfl (by kernel_rfl)) rfl ⟨_, _, rfl, by (repeat (first | with_reducible exact Below.refl _ _ | with_reducible assumption | with_reducible refine below_drewN ?_ _ | with_reducible refine Below.drew ?_ | with_reducible refine below_row ?_ (by first | omega | (simp; done) | (simp; omega)) _ | with_reducible refine Below.alloc ?_ (by first | omega | (simp; done) | (simp; omega)) _ | with_reducible refine Below.setCell ?_ (by first | omega | (simp; done) | (simp; omega)) _))⟩

def Is5 (n : Int) (ok : Bool) : Prop := n = 5 ∧ ok = true
set_option maxRecDepth 100000 in
set_option maxHeartbeats 4000000 in
theorem fnNumberUint_walk (k : Int) (x : Nat) (hx : x < 18446744073709551616) (w : World) (hT : TabAt 3 Go.Lib.deBruijn64tab w) :
    Calls Tryd.prog 3 #[.int .i64 k, .int .u64 x] w fun e w' => e = .returned (.bool true) ∧ Below w.heap.size w w' := by
  have hp5 : Calls Tryd.prog 6 #[.int .i64 1, .int .u64 5] w fun e w' => ∃ n ok, Is5 n ok ∧ e = .returned (.tuple #[.int .u64 n, .bool ok]) ∧ Below w.heap.size w w' :=
    nu_of 1 5 5 9 Is5 w hT (number_u 5 w) fun g W hB hT => (cu_uint g 5 W hB).mono fun e w' ⟨h1, h2⟩ => ⟨5, true, ⟨rfl, rfl⟩, h1, h2⟩
  have HP := Lib.hid hp5
  have HT := Lib.hid hT
  clear hp5 hT
  by_cases hno : k < 0 ∨ 3 < k ∨ (k = 2 ∧ 4294967296 ≤ x)
  · have HN := fun W => numberOf_no k x hx hno W
    have H2 := Lib.hid HN
    clear HN hno
    go_enter Tryd.func3, Tryd.ntmps3
    go_wp2_with fail
    refine HP.out.mono ?_
    rintro e w1 ⟨n5, ok5, ⟨rfl, rfl⟩, rfl, hb1⟩
    have HT1 := Lib.hid (tabAt_below HT.out hb1)
    go_wp2_with fail
    refine (H2.out w1).mono ?_
    rintro e w2 ⟨kk, nn, rfl, hb2⟩
    have hb12 := hb1.trans (hb2.mono hb1.size)
    have hs2 := hb12.size
    have hb12a : ∀ o, Below w.heap.size w (w2.alloc o) := fun o => hb12.alloc hs2 o
    have HT2 := Lib.hid (fun o => tabAt_below HT.out (hb12a o))
    go_wp2_with fail
    go_ret
    exact ⟨rfl, by (repeat (first | with_reducible exact Below.refl _ _ | with_reducible assumption | with_reducible refine below_drewN ?_ _ | with_reducible refine Below.drew ?_ | with_reducible refine below_row ?_ (by first | omega | (simp; done) | (simp; omega)) _ | with_reducible refine Below.alloc ?_ (by first | omega | (simp; done) | (simp; omega)) _ | with_reducible refine Below.setCell ?_ (by first | omega | (simp; done) | (simp; omega)) _))⟩
  have HNY := fun W => numberOf_yes k x hx (by omega) W
  have HY := Lib.hid HNY
  clear HNY
  by_cases h1 : k = 1
  · subst h1
    clear hno
    have hq := fun W (hT : TabAt 3 Go.Lib.deBruijn64tab W) => nu_of 1 x x 9 (fun n ok => n = x ∧ ok = true) W hT (number_u x W) fun g W hB hT => (cu_uint g x W hB).mono fun e w' ⟨h1, h2⟩ => ⟨x, true, ⟨rfl, rfl⟩, h1, h2⟩
    have HQ := Lib.hid hq
    clear hq
    go_enter Tryd.func3, Tryd.ntmps3
    go_wp2_with fail
    refine HP.out.mono ?_
    rintro e w1 ⟨n5, ok5, ⟨rfl, rfl⟩, rfl, hb1⟩
    have HT1 := Lib.hid (tabAt_below HT.out hb1)
    go_wp2_with fail
    refine (HY.out w1).mono ?_
    rintro e w2 ⟨kk, nn, rfl, hb2⟩
    have hb12 := hb1.trans (hb2.mono hb1.size)
    have hs2 := hb12.size
    have hb12a : ∀ o, Below w.heap.size w (w2.alloc o) := fun o => hb12.alloc hs2 o
    have HT2 := Lib.hid (fun o => tabAt_below HT.out (hb12a o))
    go_wp2_with fail
    refine (HQ.out _ (HT2.out _)).mono ?_
    rintro e w3 ⟨n, ok, ⟨rfl, rfl⟩, rfl, hb3⟩
    have hb13 := (hb12a _).trans (hb3.mono (hb12a _).size)
    go_wp2_with fail
    go_ret
    exact ⟨rfl, by (repeat (first | with_reducible exact Below.refl _ _ | with_reducible assumption | with_reducible refine below_drewN ?_ _ | with_reducible refine Below.drew ?_ | with_reducible refine below_row ?_ (by first | omega | (simp; done) | (simp; omega)) _ | with_reducible refine Below.alloc ?_ (by first | omega | (simp; done) | (simp; omega)) _ | with_reducible refine Below.setCell ?_ (by first | omega | (simp; done) | (simp; omega)) _))⟩
  by_cases h0 : k = 0
  · subst h0
    clear hno
    obtain ⟨y, hy, hy0⟩ : ∃ y : Int, wrap64 (x : Int) = y ∧ (0 ≤ y ↔ x < 9223372036854775808) := ⟨_, rfl, by rw [wrap64_mod]; omega⟩
    have hnum : ∀ W, ∃ t, (t = 0 ∨ t = 8) ∧ Calls Tryd.prog 20 #[.int .i64 0, .int .u64 x] W (NumRes x t W) := fun W => by
      by_cases hx0 : x = 0
      · subst hx0; exact ⟨0, .inl rfl, number_0 W⟩
      · exact ⟨8, .inr rfl, number_n x hx0 hx W⟩
    by_cases hpos : x < 9223372036854775808
    · have hy1 : 0 ≤ y := hy0.2 hpos
      have hq : ∀ W, TabAt 3 Go.Lib.deBruijn64tab W → Calls Tryd.prog 6 #[.int .i64 0, .int .u64 x] W fun e w' => ∃ (n : Int) (ok : Bool), (n = x ∧ ok = true) ∧ e = .returned (.tuple #[.int .u64 n, .bool ok]) ∧ Below W.heap.size W w' := fun W hT => by
        obtain ⟨t, ht, hn⟩ := hnum W
        exact nu_of 0 x x t (fun n ok => n = x ∧ ok = true) W hT hn fun g W hB hT => (cu_pos g x t ht hpos W hB).mono fun e w' ⟨h1, h2⟩ => ⟨x, true, ⟨rfl, rfl⟩, h1, h2⟩
      have HQ := Lib.hid hq
      clear hq hnum h1 hy0 hpos
      go_enter Tryd.func3, Tryd.ntmps3
      go_wp2_with fail
      refine HP.out.mono ?_
      rintro e w1 ⟨n5, ok5, ⟨rfl, rfl⟩, rfl, hb1⟩
      have HT1 := Lib.hid (tabAt_below HT.out hb1)
      go_wp2_with fail
      refine (HY.out w1).mono ?_
      rintro e w2 ⟨kk, nn, rfl, hb2⟩
      have hb12 := hb1.trans (hb2.mono hb1.size)
      have hs2 := hb12.size
      have hb12a : ∀ o, Below w.heap.size w (w2.alloc o) := fun o => hb12.alloc hs2 o
      have HT2 := Lib.hid (fun o => tabAt_below HT.out (hb12a o))
      go_wp2_with fail
      refine (HQ.out _ (HT2.out _)).mono ?_
      rintro e w3 ⟨n, ok, ⟨rfl, rfl⟩, rfl, hb3⟩
      have hb13 := (hb12a _).trans (hb3.mono (hb12a _).size)
      go_wp2_with fail
      go_ret
      exact ⟨rfl, by (repeat (first | with_reducible exact Below.refl _ _ | with_reducible assumption | with_reducible refine below_drewN ?_ _ | with_reducible refine Below.drew ?_ | with_reducible refine below_row ?_ (by first | omega | (simp; done) | (simp; omega)) _ | with_reducible refine Below.alloc ?_ (by first | omega | (simp; done) | (simp; omega)) _ | with_reducible refine Below.setCell ?_ (by first | omega | (simp; done) | (simp; omega)) _))⟩
    · have hy1 : ¬ (0 ≤ y) := fun h => hpos (hy0.1 h)
      have hq : ∀ W, TabAt 3 Go.Lib.deBruijn64tab W → Calls Tryd.prog 6 #[.int .i64 0, .int .u64 x] W fun e w' => ∃ (n : Int) (ok : Bool), (n = 0 ∧ ok = false) ∧ e = .returned (.tuple #[.int .u64 n, .bool ok]) ∧ Below W.heap.size W w' := fun W hT => by
        obtain ⟨t, ht, hn⟩ := hnum W
        exact nu_of 0 x x t (fun n ok => n = 0 ∧ ok = false) W hT hn fun g W hB hT => (cu_neg g x t ht (by omega) hx W hB).mono fun e w' ⟨h1, h2⟩ => ⟨0, false, ⟨rfl, rfl⟩, h1, h2⟩
      have HQ := Lib.hid hq
      clear hq hnum h1 hy0 hpos
      go_enter Tryd.func3, Tryd.ntmps3
      go_wp2_with fail
      refine HP.out.mono ?_
      rintro e w1 ⟨n5, ok5, ⟨rfl, rfl⟩, rfl, hb1⟩
      have HT1 := Lib.hid (tabAt_below HT.out hb1)
      go_wp2_with fail
      refine (HY.out w1).mono ?_
      rintro e w2 ⟨kk, nn, rfl, hb2⟩
      have hb12 := hb1.trans (hb2.mono hb1.size)
      have hs2 := hb12.size
      have hb12a : ∀ o, Below w.heap.size w (w2.alloc o) := fun o => hb12.alloc hs2 o
      have HT2 := Lib.hid (fun o => tabAt_below HT.out (hb12a o))
      go_wp2_with fail
      refine (HQ.out _ (HT2.out _)).mono ?_
      rintro e w3 ⟨n, ok, ⟨rfl, rfl⟩, rfl, hb3⟩
      have hb13 := (hb12a _).trans (hb3.mono (hb12a _).size)
      go_wp2_with fail
      go_ret
      exact ⟨rfl, by (repeat (first | with_reducible exact Below.refl _ _ | with_reducible assumption | with_reducible refine below_drewN ?_ _ | with_reducible refine Below.drew ?_ | with_reducible refine below_row ?_ (by first | omega | (simp; done) | (simp; omega)) _ | with_reducible refine Below.alloc ?_ (by first | omega | (simp; done) | (simp; omega)) _ | with_reducible refine Below.setCell ?_ (by first | omega | (simp; done) | (simp; omega)) _))⟩
  have hk2 : ¬ (k < 2) := by omega
  have hfl : ∃ d : Ieee.Datum, (∀ W, TabAt 3 Go.Lib.deBruijn64tab W → Calls Tryd.prog 6 #[.int .i64 k, .int .u64 x] W fun e w' => ∃ n ok, CuIs d n ok ∧ e = .returned (.tuple #[.int .u64 n, .bool ok]) ∧ Below W.heap.size W w') ∧
      (∀ W, Calls Tryd.prog 9 #[.int .i64 k, .int .u64 x] W fun e w' => ∃ y, (d = Ieee.double.read y ∨ (∃ s m e M E, d = .number s m e ∧ Ieee.double.read y = .number s M E ∧ vv M E = vv m e) ∨ (∃ s t s' t', d = .nan s t ∧ Ieee.double.read y = .nan s' t') ∨ ∃ s, d = .infinity s ∧ Ieee.double.read y = .infinity s) ∧ e = .returned (.float .f64 y) ∧ Below W.heap.size W w') := by
    rcases (by omega : k = 3 ∨ (k = 2 ∧ x < 4294967296)) with rfl | ⟨rfl, h32⟩
    · exact ⟨_, fun W hT => nu64 x hx W hT, fun W => (fv_64 x W).mono fun e w' ⟨h1, h2⟩ => ⟨x, .inl rfl, h1, h2⟩⟩
    · exact ⟨_, fun W hT => nu32 x h32 W hT, fun W => (fv_32any x h32 W).mono fun e w' ⟨y, h, h1, h2⟩ => ⟨y, .inr h, h1, h2⟩⟩
  obtain ⟨d, hq, hfv⟩ := hfl
  have HQ := Lib.hid hq
  have HF := Lib.hid hfv
  clear hq hfv hno h0
  go_enter Tryd.func3, Tryd.ntmps3
  go_wp2_with fail
  refine HP.out.mono ?_
  rintro e w1 ⟨n5, ok5, ⟨rfl, rfl⟩, rfl, hb1⟩
  have HT1 := Lib.hid (tabAt_below HT.out hb1)
  go_wp2_with fail
  refine (HY.out w1).mono ?_
  rintro e w2 ⟨kk, nn, rfl, hb2⟩
  have hb12 := hb1.trans (hb2.mono hb1.size)
  have hs2 := hb12.size
  have hb12a : ∀ o, Below w.heap.size w (w2.alloc o) := fun o => hb12.alloc hs2 o
  have HT2 := Lib.hid (fun o => tabAt_below HT.out (hb12a o))
  go_wp2_with fail
  refine (HQ.out _ (HT2.out _)).mono ?_
  rintro e w3 ⟨n, ok, hcu, rfl, hb3⟩
  have HCU := Lib.hid hcu
  clear hcu
  have hb13 := (hb12a _).trans (hb3.mono (hb12a _).size)
  go_wp2_with fail
  refine (HF.out _).mono ?_
  rintro e w4 ⟨y, hy, rfl, hb4⟩
  have HY2 := Lib.hid hy
  clear hy
  have hb14 := hb13.trans (hb4.mono hb13.size)
  go_wp2_with fail
  refine (w62_any y _).mono ?_
  rintro e w5 ⟨want, is, edge, h62, rfl, hb5⟩
  have hb15 := hb14.trans (hb5.mono hb14.size)
  rcases same_num HY2.out HCU.out h62 with rfl | ⟨rfl, hok, hval⟩
  · clear h62
    go_wp2_with fail
    go_ret
    exact ⟨rfl, by (repeat (first | with_reducible exact Below.refl _ _ | with_reducible assumption | with_reducible refine below_drewN ?_ _ | with_reducible refine Below.drew ?_ | with_reducible refine below_row ?_ (by first | omega | (simp; done) | (simp; omega)) _ | with_reducible refine Below.alloc ?_ (by first | omega | (simp; done) | (simp; omega)) _ | with_reducible refine Below.setCell ?_ (by first | omega | (simp; done) | (simp; omega)) _))⟩
  · clear h62
    cases is with
    | false =>
      obtain rfl : ok = false := by simpa using hok
      clear hok hval
      go_wp2_with fail
      go_ret
      exact ⟨rfl, by (repeat (first | with_reducible exact Below.refl _ _ | with_reducible assumption | with_reducible refine below_drewN ?_ _ | with_reducible refine Below.drew ?_ | with_reducible refine below_row ?_ (by first | omega | (simp; done) | (simp; omega)) _ | with_reducible refine Below.alloc ?_ (by first | omega | (simp; done) | (simp; omega)) _ | with_reducible refine Below.setCell ?_ (by first | omega | (simp; done) | (simp; omega)) _))⟩
    | true =>
      by_cases hw : 0 ≤ want
      · obtain rfl : ok = true := by simpa [hw] using hok
        obtain ⟨rfl, hle⟩ := hval rfl
        clear hok hval
        go_wp2_with fail
        go_ret
        exact ⟨rfl, by (repeat (first | with_reducible exact Below.refl _ _ | with_reducible assumption | with_reducible refine below_drewN ?_ _ | with_reducible refine Below.drew ?_ | with_reducible refine below_row ?_ (by first | omega | (simp; done) | (simp; omega)) _ | with_reducible refine Below.alloc ?_ (by first | omega | (simp; done) | (simp; omega)) _ | with_reducible refine Below.setCell ?_ (by first | omega | (simp; done) | (simp; omega)) _))⟩
      · obtain rfl : ok = false := by simpa [hw] using hok
        clear hok hval
        go_wp2_with fail
        go_ret
        exact ⟨rfl, by (repeat (first | with_reducible exact Below.refl _ _ | with_reducible assumption | with_reducible refine below_drewN ?_ _ | with_reducible refine Below.drew ?_ | with_reducible refine below_row ?_ (by first | omega | (simp; done) | (simp; omega)) _ | with_reducible refine Below.alloc ?_ (by first | omega | (simp; done) | (simp; omega)) _ | with_reducible refine Below.setCell ?_ (by first | omega | (simp; done) | (simp; omega)) _))⟩
theorem nat_of_u64 (x : Int) (h : (Lit.int .u64 x).wf = true) : ∃ n : Nat, x = n ∧ n < 18446744073709551616 := by
  simp [Lit.wf, IntKind.min, IntKind.max, IntKind.bits, IntKind.signed] at h
  exact ⟨x.toNat, by omega, by omega⟩
end Go.Proofs.YtdncfolehkhjhaaDoor
