/- impl.reading: a Reader of bytes that are given a few at a time. -/
import Derived.Test.YtfaangichifbgaaDoorRdrV
namespace Go.Proofs.YtfaangichifbgaaDoor
open Go.RowKit
set_option linter.unusedVariables false
set_option linter.unusedSimpArgs false

set_option maxRecDepth 100000 in
set_option maxHeartbeats 2000000 in
theorem newReader_any (D : Nat) (da : Option Addr) (dn dc : Nat) (l : List Int) (ch sz : Nat) (h18 : 18 ≤ sz) (hsz : sz ≤ 65536) (hch : 1 ≤ ch) (B : Nat) (w : World) (hD : Blk w D 127 #[.slice da dn dc, .int .i64 ch]) (hv : Vw w da dn dc l) (hdn : dn ≤ 1099511627776) (hBD : B ≤ D) (hda : ∀ x, da = some x → x.block ≠ D ∧ x.block < w.heap.size ∧ B ≤ x.block) :
    Calls Tryd.prog 58 #[.iface 124 (.pointer (some ⟨D, 0, none⟩)), .int .i64 sz] w fun e w' => e = .returned (.pointer (some ⟨w.heap.size + 1, 0, none⟩)) ∧ Blk w' (w.heap.size + 1) 90 #[.pointer (some ⟨w.heap.size, 0, none⟩), .slice none 0 0, .int .i64 0, .int .i64 0, .int .u32 0, .int .u64 0] ∧ (∃ wm, Src wm B (fun b => B ≤ b ∧ b < w.heap.size + 1) w.heap.size 0 l ∧ wm.heap.size = w.heap.size + 1 ∧ Below (w.heap.size + 1) wm w') ∧ Below w.heap.size w w' := by
  have hDl := hD.lt
  have g0 : ¬ ((sz : Int) < 16) := by omega
  have HD := Lib.hid hD
  have HV := Lib.hid hv
  clear hD hv
  go_enter Tryd.func58, Tryd.ntmps58
  go_wp2_with (go_at_call 80; go_in)
  go_ret
  have hbA : ∀ o1 o2, Below w.heap.size w ((w.alloc o1).alloc o2) := fun o1 o2 => ((Below.refl _ _).alloc (Nat.le_refl _) _).alloc (by simp) _
  refine ⟨rfl, Blk.newAt (by simp) _ _, ?_, hbA _ _⟩
  have hbB : ∀ o1, Below w.heap.size w (w.alloc o1) := fun o1 => (Below.refl _ _).alloc (Nat.le_refl _) _
  refine ⟨_, ⟨D, none, 0, 0, 0, sz, [], da, dn, dc, l, ch, { hS := Blk.new w _ _, hD := HD.out.below (hbB _) hDl, hv := HV.out.below (hbB _) (Nat.le_refl _), hO := Own.nil _ _ _, hp := Nat.le_refl _, s16 := (by omega), szm := hsz, rcm := (by omega), dnm := hdn, ch1 := hch, dne := (fun x hx => by have h1 := hda x hx; simp [blkOf]; exact ⟨by omega, h1.1, by omega⟩), kA := (fun x hx => by have h1 := hda x hx; omega), bS := (by omega), bD := hBD, kS := (by omega), kD := (by omega), kO := (fun b hb => by cases hb) }, rfl, Nat.le_refl _⟩, by simp, (Below.refl _ _).alloc (by simp) _⟩

theorem SetMaxElements_any (R : Nat) (v : Int) (cs : Array Value) (x : Value) (w : World) (hR : Blk w R 90 cs) (hx : cs[4]? = some x) :
    Calls Tryd.prog 60 #[.pointer (some ⟨R, 0, none⟩), .int .u32 v] w fun e w' => e = .returned (.tuple #[]) ∧ w' = w.setCell ⟨R, 4, none⟩ (.int .u32 v) := by
  have p4 := hR.cell hx
  have pf := hR.frozen 4
  have hRl := hR.lt
  clear hR hx
  go_enter Tryd.func60, Tryd.ntmps60
  go_wp2_with fail
  go_end0
  exact ⟨rfl, rfl⟩
theorem SetMaxStringLength_any (R : Nat) (v : Int) (cs : Array Value) (x : Value) (w : World) (hR : Blk w R 90 cs) (hx : cs[5]? = some x) :
    Calls Tryd.prog 61 #[.pointer (some ⟨R, 0, none⟩), .int .u64 v] w fun e w' => e = .returned (.tuple #[]) ∧ w' = w.setCell ⟨R, 5, none⟩ (.int .u64 v) := by
  have p4 := hR.cell hx
  have pf := hR.frozen 5
  have hRl := hR.lt
  clear hR hx
  go_enter Tryd.func61, Tryd.ntmps61
  go_wp2_with fail
  go_end0
  exact ⟨rfl, rfl⟩

set_option maxRecDepth 100000 in
set_option maxHeartbeats 2000000 in
theorem reading_any (a : Option Addr) (n c : Nat) (l : List Int) (ch sz : Nat) (h18 : 18 ≤ sz) (hsz : sz ≤ 65536) (hch : 1 ≤ ch) (w : World) (hv : Vw w a n c l) (hn : n ≤ 1099511627776) :
    Calls Tryd.prog 39 #[.slice a n c, .int .i64 sz, .int .i64 ch] w fun e w' => ∃ R, e = .returned (.pointer (some ⟨R, 0, none⟩)) ∧ Rdr w' w.heap.size (fun b => w.heap.size ≤ b ∧ b < w'.heap.size ∧ b ≠ R) R l ∧ Below w.heap.size w w' := by
  have HC := Lib.hid (copied_any a n c l w hv hn)
  clear hv
  go_enter Tryd.func39, Tryd.ntmps39
  go_wp2_with fail
  refine HC.out.mono ?_
  rintro e w1 ⟨a', c', rfl, ho, hb1⟩
  have hs1 := hb1.size
  have hda : ∀ x, a' = some x → x.block < w1.heap.size ∧ w.heap.size ≤ x.block := fun x hx => ⟨ho.lt8 x.block (by rw [hx]; rfl), ho.ge x hx⟩
  have HR := fun (o : Obj) (ho1 : o = .cells #[.slice a' n c', .int .i64 ch] 127) => Lib.hid (newReader_any w1.heap.size a' n c' l ch sz h18 hsz hch w.heap.size (w1.alloc o) (by rw [ho1]; exact Blk.new _ _ _) (ho.vw.alloc _) hn hs1 (fun x hx => by have := hda x hx; simp; omega))
  have HO := Lib.hid ho
  clear ho hda
  go_wp2_with fail
  refine (HR _ rfl).out.mono ?_
  rintro e w2 ⟨rfl, hR, ⟨wm, hS, hwm, hbm⟩, hb2⟩
  simp only [World.size_alloc] at hR hS hb2 hwm hbm
  have p4 := hR.cell (i := 4) rfl
  have p5 := hR.cell (i := 5) rfl
  have pf := fun i => hR.frozen i
  have hRl := hR.lt
  have HRR := Lib.hid hR
  have HS := Lib.hid hS
  have HB := Lib.hid (And.intro hb1 (And.intro hb2 hbm))
  clear hR hS hb2 hbm
  clear p4 p5 pf
  go_wp2_with fail
  refine (SetMaxElements_any _ 1048576 _ _ w2 HRR.out (by rfl)).mono ?_
  rintro e w3 ⟨rfl, rfl⟩
  go_wp2_with fail
  refine (SetMaxStringLength_any _ 1048576 _ _ _ (HRR.out.set 4 (.int .u32 1048576)) (by rfl)).mono ?_
  rintro e w3 ⟨rfl, rfl⟩
  go_wp2_with fail
  go_ret
  obtain ⟨hb1, hb2, hbm⟩ := HB.out
  have hbm2 := (hbm.setCell (p := ⟨w1.heap.size + 1 + 1, 4, none⟩) (by simp) (.int .u32 1048576)).setCell (p := ⟨w1.heap.size + 1 + 1, 5, none⟩) (by simp) (.int .u64 1048576)
  have hS2 := HS.out.below (by rw [hwm]; exact hbm2)
  have hR2 := (HRR.out.set 4 (.int .u32 1048576)).set 5 (.int .u64 1048576)
  have hfin : Below w.heap.size w w2 := hb1.trans (Below.trans (b := w1.alloc _) ((Below.refl _ _).alloc hs1 _) (hb2.mono (by omega)))
  refine ⟨w1.heap.size + 1 + 1, rfl, ⟨_, none, 0, 0, 0, 0, 1048576, 1048576, by simpa using hR2, by simp, hS2.mono (fun b hb => ⟨hb.1, by simp; omega, by omega⟩)⟩, (hfin.setCell (p := ⟨w1.heap.size + 1 + 1, 4, none⟩) (by simp; omega) _).setCell (p := ⟨w1.heap.size + 1 + 1, 5, none⟩) (by simp; omega) _⟩
end Go.Proofs.YtfaangichifbgaaDoor
