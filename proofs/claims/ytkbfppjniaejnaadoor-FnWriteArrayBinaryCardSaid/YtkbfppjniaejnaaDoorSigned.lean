/- spec.constructor.take at whole numbers with a sign. -/
import Derived.Test.YtkbfppjniaejnaaDoorCon
import Derived.Test.YtkbfppjniaejnaaDoorWrote
namespace Go.Proofs.YtkbfppjniaejnaaDoor
open Go.RowKit
set_option linter.unusedVariables false
set_option linter.unusedSimpArgs false

set_option maxRecDepth 100000 in
set_option maxHeartbeats 4000000 in
theorem take_signed1 (c k : Int) (hk : Kind c k 1) (h2 : 6 ≤ k) (h5 : k ≤ 9) (h45 : c ≠ 69) (u num : Int) (da : Option Addr) (dn dc : Nat) (a : Option Addr) (n cap : Nat) (l : List Int) (lv : Int) (w0 : World) (hv : Vw w0 a n cap l) (hu : beN (l.take 1) = u) (hu0 : 0 ≤ u) (hu1 : u < 256) (hnum : IntKind.u64.wrap (wrap64 (u * 72057594037927936) / 72057594037927936) = num) (hkn : 1 ≤ n) :
    ∃ a', Vw w0 a' (n - 1) (cap - 1) (l.drop 1) ∧ ∀ w, Below w0.heap.size w0 w → Calls Tryd.prog 42 #[ct (.slice da dn dc) c, .slice a n cap, .int .i64 lv] w fun e w' => e = .returned (.tuple #[av k num ⟨#[]⟩ nilS 0 (.slice da dn dc), .slice a' (n - 1) (cap - 1), .bool true]) ∧ Below w.heap.size w w' := by
  obtain ⟨a', hoff, hv'⟩ := off_of hv 1 1 rfl hkn
  refine ⟨a', hv', fun w hx => ?_⟩
  have hvw := Vw.below hx (Nat.le_refl _) hv
  have e1 : ((1 : Int) == 16) = false := by decide
  have e2 : (k == 0) = false := by simp; omega
  have e3 : (k == 1) = false := by simp; omega
  have e4 : decide (k ≥ 21) = false := by simp; omega
  have e5 : decide (k ≥ 18) = false := by simp; omega
  have e7 : decide (k ≥ 6) = true := by simpa using h2
  have e8 : decide (k ≤ 9) = true := by simpa using h5
  have e6 : (c == 69) = false := by simpa using h45
  have HS := Lib.hid hoff
  have HK := Lib.hid hk
  clear hoff hk
  unfold ct
  go_enter Tryd.func42, Tryd.ntmps42
  go_wp2_with (go_at_call 53; refine (kindOf_ok c k 1 HK.out _).mono ?_; rintro e w1 ⟨rfl, hb1⟩; have hs1 : w.heap.size + 3 ≤ w1.heap.size := (by have := hb1.size; simp at this; omega); have hB3 : Blk w1 w.heap.size 81 #[.slice da dn dc, .int .i64 c] := Blk.below (((Blk.new _ _ _).alloc _).alloc _) hb1 (by simp; omega); have hB6 : Blk w1 (w.heap.size + 1) 29 #[.int .i64 0, .int .u64 0, .string ⟨#[]⟩, nilS, .int .i64 0, nilS] := Blk.below ((by simpa using Blk.new (w.alloc _) _ _ : Blk ((w.alloc _).alloc _) (w.heap.size + 1) _ _).alloc _) hb1 (by simp); have hc30 := hB3.cell (i := 0) rfl; have hc31 := hB3.cell (i := 1) rfl; have hf6 := fun i => hB6.frozen i; have hc60 := hB6.cell (i := 0) rfl; have hc61 := hB6.cell (i := 1) rfl; have hc62 := hB6.cell (i := 2) rfl; have hc63 := hB6.cell (i := 3) rfl; have hc64 := hB6.cell (i := 4) rfl; have hc65 := hB6.cell (i := 5) rfl)
  have hv1 := Vw.below hb1 (Nat.le_refl _) (((hvw.alloc _).alloc _).alloc _)
  go_wp2_with (go_at_call 54; (refine (takeBig_ok _ _ _ _ 1 rfl l _ (hv1.alloc _) _ HS.out hkn (by omega)).mono ?_); rw [hu]; rintro e w2 ⟨rfl, nq, rfl⟩; have hd31 := fun o => ((hB3.alloc o).drewN nq).cell (i := 1) rfl; have hg6 := fun o i => ((hB6.alloc o).drewN nq).frozen i; have hd60 := fun o => ((hB6.alloc o).drewN nq).cell (i := 0) rfl; have hd61 := fun o => ((hB6.alloc o).drewN nq).cell (i := 1) rfl; have hd62 := fun o => ((hB6.alloc o).drewN nq).cell (i := 2) rfl; have hd63 := fun o => ((hB6.alloc o).drewN nq).cell (i := 3) rfl; have hd64 := fun o => ((hB6.alloc o).drewN nq).cell (i := 4) rfl; have hd65 := fun o => ((hB6.alloc o).drewN nq).cell (i := 5) rfl)
  all_goals
    have hbw : Below w.heap.size w w1 := Below.trans ((((Below.refl _ _).alloc (Nat.le_refl _) _).alloc (by simp) _).alloc (by simp; omega) _) (hb1.mono (by simp; omega))
    refine bodyPost_ret (results_ctt rfl _ _ (w.heap.size + 1) 29 _ _ rfl (Blk.set6 (((hB6.alloc _).drewN nq).other (by simp; omega) _) rfl _ _ _ _ _ _) Tryd.underlying29 rfl (by kernel_rfl)) rfl ⟨rfl, ?_⟩
    (repeat (first | with_reducible exact Below.refl _ _ | with_reducible assumption | with_reducible refine below_drewN ?_ _ | with_reducible refine Below.drew ?_ | with_reducible refine below_row ?_ (by first | omega | (simp; done) | (simp; omega)) _ | with_reducible refine Below.alloc ?_ (by first | omega | (simp; done) | (simp; omega)) _ | with_reducible refine Below.setCell ?_ (by first | omega | (simp; done) | (simp; omega)) _))
set_option maxRecDepth 100000 in
set_option maxHeartbeats 4000000 in
theorem take_signed8 (c k : Int) (hk : Kind c k 8) (h2 : 6 ≤ k) (h5 : k ≤ 9) (h45 : c ≠ 69) (u num : Int) (da : Option Addr) (dn dc : Nat) (a : Option Addr) (n cap : Nat) (l : List Int) (lv : Int) (w0 : World) (hv : Vw w0 a n cap l) (hu : beN (l.take 8) = u) (hu0 : 0 ≤ u) (hu1 : u < 18446744073709551616) (hnum : IntKind.u64.wrap (wrap64 u) = num) (hkn : 8 ≤ n) :
    ∃ a', Vw w0 a' (n - 8) (cap - 8) (l.drop 8) ∧ ∀ w, Below w0.heap.size w0 w → Calls Tryd.prog 42 #[ct (.slice da dn dc) c, .slice a n cap, .int .i64 lv] w fun e w' => e = .returned (.tuple #[av k num ⟨#[]⟩ nilS 0 (.slice da dn dc), .slice a' (n - 8) (cap - 8), .bool true]) ∧ Below w.heap.size w w' := by
  obtain ⟨a', hoff, hv'⟩ := off_of hv 8 8 rfl hkn
  refine ⟨a', hv', fun w hx => ?_⟩
  have hvw := Vw.below hx (Nat.le_refl _) hv
  have e1 : ((8 : Int) == 16) = false := by decide
  have e2 : (k == 0) = false := by simp; omega
  have e3 : (k == 1) = false := by simp; omega
  have e4 : decide (k ≥ 21) = false := by simp; omega
  have e5 : decide (k ≥ 18) = false := by simp; omega
  have e7 : decide (k ≥ 6) = true := by simpa using h2
  have e8 : decide (k ≤ 9) = true := by simpa using h5
  have e6 : (c == 69) = false := by simpa using h45
  have HS := Lib.hid hoff
  have HK := Lib.hid hk
  clear hoff hk
  unfold ct
  go_enter Tryd.func42, Tryd.ntmps42
  go_wp2_with (go_at_call 53; refine (kindOf_ok c k 8 HK.out _).mono ?_; rintro e w1 ⟨rfl, hb1⟩; have hs1 : w.heap.size + 3 ≤ w1.heap.size := (by have := hb1.size; simp at this; omega); have hB3 : Blk w1 w.heap.size 81 #[.slice da dn dc, .int .i64 c] := Blk.below (((Blk.new _ _ _).alloc _).alloc _) hb1 (by simp; omega); have hB6 : Blk w1 (w.heap.size + 1) 29 #[.int .i64 0, .int .u64 0, .string ⟨#[]⟩, nilS, .int .i64 0, nilS] := Blk.below ((by simpa using Blk.new (w.alloc _) _ _ : Blk ((w.alloc _).alloc _) (w.heap.size + 1) _ _).alloc _) hb1 (by simp); have hc30 := hB3.cell (i := 0) rfl; have hc31 := hB3.cell (i := 1) rfl; have hf6 := fun i => hB6.frozen i; have hc60 := hB6.cell (i := 0) rfl; have hc61 := hB6.cell (i := 1) rfl; have hc62 := hB6.cell (i := 2) rfl; have hc63 := hB6.cell (i := 3) rfl; have hc64 := hB6.cell (i := 4) rfl; have hc65 := hB6.cell (i := 5) rfl)
  have hv1 := Vw.below hb1 (Nat.le_refl _) (((hvw.alloc _).alloc _).alloc _)
  go_wp2_with (go_at_call 54; (refine (takeBig_ok _ _ _ _ 8 rfl l _ (hv1.alloc _) _ HS.out hkn (by omega)).mono ?_); rw [hu]; rintro e w2 ⟨rfl, nq, rfl⟩; have hd31 := fun o => ((hB3.alloc o).drewN nq).cell (i := 1) rfl; have hg6 := fun o i => ((hB6.alloc o).drewN nq).frozen i; have hd60 := fun o => ((hB6.alloc o).drewN nq).cell (i := 0) rfl; have hd61 := fun o => ((hB6.alloc o).drewN nq).cell (i := 1) rfl; have hd62 := fun o => ((hB6.alloc o).drewN nq).cell (i := 2) rfl; have hd63 := fun o => ((hB6.alloc o).drewN nq).cell (i := 3) rfl; have hd64 := fun o => ((hB6.alloc o).drewN nq).cell (i := 4) rfl; have hd65 := fun o => ((hB6.alloc o).drewN nq).cell (i := 5) rfl)
  all_goals
    have hbw : Below w.heap.size w w1 := Below.trans ((((Below.refl _ _).alloc (Nat.le_refl _) _).alloc (by simp) _).alloc (by simp; omega) _) (hb1.mono (by simp; omega))
    refine bodyPost_ret (results_ctt rfl _ _ (w.heap.size + 1) 29 _ _ rfl (Blk.set6 (((hB6.alloc _).drewN nq).other (by simp; omega) _) rfl _ _ _ _ _ _) Tryd.underlying29 rfl (by kernel_rfl)) rfl ⟨rfl, ?_⟩
    (repeat (first | with_reducible exact Below.refl _ _ | with_reducible assumption | with_reducible refine below_drewN ?_ _ | with_reducible refine Below.drew ?_ | with_reducible refine below_row ?_ (by first | omega | (simp; done) | (simp; omega)) _ | with_reducible refine Below.alloc ?_ (by first | omega | (simp; done) | (simp; omega)) _ | with_reducible refine Below.setCell ?_ (by first | omega | (simp; done) | (simp; omega)) _))

theorem whole_signed1 (z k num : Int) (b : Int) (hk : Kind z k 1) (hz : z ≠ 0) (h2 : 6 ≤ k) (h5 : k ≤ 9) (h45 : z ≠ 69) (hb0 : 0 ≤ b) (hb1 : b < 256) (hnum : IntKind.u64.wrap (wrap64 (b * 72057594037927936) / 72057594037927936) = num) : Whole [z, b] k num ⟨#[]⟩ := by
  intro w0 a n c hv
  have hn := hv.len
  simp at hn
  obtain ⟨a1, hv1, h⟩ := takeValue_of z hz a n c [b] 8 (by omega) w0 hv
  obtain ⟨a2, hv2, ht⟩ := take_signed1 z k hk h2 h5 h45 b num none 0 0 a1 (n - 1) (c - 1) [b] 8 w0 hv1 (by simp [beN]) hb0 hb1 hnum (by omega)
  rw [show n - 1 - 1 = 0 by omega] at ht
  exact ⟨a2, _, h _ _ _ _ _ _ _ _ _ _ ht⟩

theorem whole_signed8 (z k num : Int) (bs : List Int) (hl : bs.length = 8) (u : Int) (hu : beN bs = u) (hk : Kind z k 8) (hz : z ≠ 0) (h2 : 6 ≤ k) (h5 : k ≤ 9) (h45 : z ≠ 69) (hb0 : 0 ≤ u) (hb1 : u < 18446744073709551616) (hnum : IntKind.u64.wrap (wrap64 u) = num) : Whole (z :: bs) k num ⟨#[]⟩ := by
  intro w0 a n c hv
  have hn := hv.len
  simp at hn
  obtain ⟨a1, hv1, h⟩ := takeValue_of z hz a n c bs 8 (by omega) w0 hv
  obtain ⟨a2, hv2, ht⟩ := take_signed8 z k hk h2 h5 h45 u num none 0 0 a1 (n - 1) (c - 1) bs 8 w0 hv1 (by rw [List.take_of_length_le (by omega)]; exact hu) hb0 hb1 hnum (by omega)
  rw [show n - 1 - 8 = 0 by omega] at ht
  exact ⟨a2, _, h _ _ _ _ _ _ _ _ _ _ ht⟩
end Go.Proofs.YtkbfppjniaejnaaDoor
