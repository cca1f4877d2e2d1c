/- encoding.LifetimePolicy.Marshal, impl.WriteLifetime, laws.policy. -/
import Derived.Test.YtkbfppjniaejnaaDoorBuf
import Derived.Test.YtkbfppjniaejnaaDoorDesc2
namespace Go.Proofs.YtkbfppjniaejnaaDoor
open Go.RowKit
set_option linter.unusedVariables false
set_option linter.unusedSimpArgs false

def lifeB (u : Int) : List Int := [0, 83, u, 69]

theorem lifeB_read (u : Int) (w0 : World) (a : Option Addr) (n c : Nat) (hv : Vw w0 a n c (lifeB u)) :
    ∃ a2 c2, ∀ w, Below w0.heap.size w0 w → Calls Tryd.prog 29 #[.slice a n c, .int .i64 8] w fun e w' => ∃ b, e = .returned (got (av 21 0 ⟨#[]⟩ nilS 0 (at1 b)) a2 0 c2) ∧ w.heap.size ≤ b ∧ One w' b 5 u ⟨#[]⟩ ∧ Below w.heap.size w w' := by
  have hn := hv.len
  simp [lifeB] at hn
  obtain ⟨a1, hv1, h1⟩ := takeCon_desc a n c [83, u, 69] 8 (by omega) (by omega) w0 hv
  obtain ⟨a2, hv2, h2⟩ := takeValue_of 83 (by omega) a1 (n - 1) (c - 1) [u, 69] 7 (by omega) w0 hv1
  obtain ⟨a3, hv3, h3⟩ := take_num 83 5 1 1 rfl ⟨rfl, rfl⟩ (by omega) (by omega) (by omega) (by omega) none 0 0 a2 (n - 1 - 1) (c - 1 - 1) [u, 69] 7 w0 hv2 (by omega)
  have h3' := h2 _ _ _ _ _ _ _ _ _ _ h3
  simp [beN] at h3' hv3
  obtain ⟨a4, hv4, h4⟩ := h1 5 u ⟨#[]⟩ a3 _ _ 69 [] (by omega) hv3 h3'
  obtain ⟨a5, hv5, h5⟩ := take_list0 a4 _ _ [] 8 w0 hv4
  have e : n - 1 - 1 - 1 - 1 = 0 := by omega
  rw [e] at h4 h5
  exact ⟨a5, _, fun w hx => takeValueD_of a n c w0 8 69 5 u ⟨#[]⟩ a4 0 _ h4 21 0 ⟨#[]⟩ a5 0 _ (fun b w hx => h5 _ 1 1 w hx) w hx⟩

theorem results_c1 {P : Program} {fn : Func} {p : Tmp} {ty : TypeId} (h : fn.results = #[.cell p ty]) (tmps : Array Value) (w : World) (g : Nat) (t : TypeId) (cs : Array Value) (d : TypeDesc)
    (hp : tmps.getD p undef = .pointer (some ⟨g, 0, none⟩)) (hg : Blk w g t cs)
    (hu : P.underlying ty = some d) (hd : (match d with | .struct _ | .array _ _ => true | _ => false) = true) (hi : (P.info? ty).map (·.size) = some cs.size) :
    (results fn tmps).run P w = .ok (.agg cs) w := by
  have hp' : tmps[p]?.getD undef = .pointer (some ⟨g, 0, none⟩) := by simpa using hp
  simp [results, h, hp', asAddr, run_loadVar_row w g t ty cs (0, 0) d hg hu hd hi]

set_option maxHeartbeats 1000000 in
theorem policy_ok (u : Int) (h0 : 0 ≤ u) (h1 : u < 256) (w : World) :
    Calls Tryd.prog 13 #[.int .u8 u] w fun e w' => ∃ b, e = .returned (av 21 0 ⟨#[]⟩ nilS 0 (at1 b)) ∧ One w' b 5 u ⟨#[]⟩ ∧ Below w.heap.size w w' := by
  have hm : u % 18446744073709551616 = u := by omega
  go_enter Tryd.func13, Tryd.ntmps13
  go_wp2_with fail
  have hone : ∀ o, One ((w.alloc o).alloc (.cells #[.int .i64 5, .int .u64 u, .string ⟨#[]⟩, nilS, .int .i64 0, nilS] 29)) (w.heap.size + 1) 5 u ⟨#[]⟩ := fun o => by simpa using Blk.new (w.alloc o) _ _
  refine bodyPost_ret (results_c1 rfl _ _ w.heap.size 29 _ _ rfl ((Blk.new _ _ _).alloc _) Tryd.underlying29 rfl (by kernel_rfl)) rfl ⟨w.heap.size + 1, rfl, ?_, ?_⟩
  · exact hone _
  · (repeat (first | with_reducible exact Below.refl _ _ | with_reducible assumption | with_reducible refine below_drewN ?_ _ | with_reducible refine Below.drew ?_ | with_reducible refine below_row ?_ (by first | omega | (simp; done) | (simp; omega)) _ | with_reducible refine Below.alloc ?_ (by first | omega | (simp; done) | (simp; omega)) _ | with_reducible refine Below.setCell ?_ (by first | omega | (simp; done) | (simp; omega)) _))

set_option maxHeartbeats 1000000 in
theorem life_buf (u : Int) (h0 : 0 ≤ u) (h1 : u < 256) (g : Nat) (w : World) (hb : Bf w g []) :
    Calls Tryd.prog 26 #[.int .u8 u, .pointer (some ⟨g, 0, none⟩)] w fun e w' => e = .returned .nilIface ∧ Bf w' g (lifeB u) ∧ Below g w w' := by
  have hl := Own.lit 5 w [0, 83, u, 69] (by simp; omega) (by simp)
  have hbl := hb.lt
  have hbx : ∀ o, Bf (w.alloc o) g [] := fun o => by
    obtain ⟨a, n, c, hB, ho⟩ := hb.ex
    exact ⟨a, n, c, hB.alloc o, ho.alloc o⟩
  go_enter Tryd.func26, Tryd.ntmps26
  go_wp2_with (go_at_call 40; refine (bufAppend g [] _ 4 4 [0, 83, u, 69] _ (hbx _) hl.vw (by simp)).mono ?_; rintro e w1 ⟨rfl, hb1, hl1⟩)
  go_ret
  exact ⟨rfl, hb1, Below.trans ((Below.refl _ _).alloc (by omega) _) hl1⟩

set_option maxRecDepth 100000 in
set_option maxHeartbeats 4000000 in
theorem implWriteLifetime (u : Int) (h0 : 0 ≤ u) (h1 : u < 256) (w : World) :
    Calls Tryd.prog 11 #[.int .u8 u] w fun e w' => ∃ a n c, e = .returned (.tuple #[.slice a n c, .bool true]) ∧ Vw w' a n c (lifeB u) ∧ Below w.heap.size w w' := by
  have hlen : (lifeB u).length ≤ 1099511627776 := by simp [lifeB]
  go_enter_defers Tryd.func11, Tryd.ntmps11
  go_wp2_with (go_at_call 26; refine (life_buf u h0 h1 (w.heap.size + 2) _ (by simpa using Bf.new ((w.alloc _).alloc _))).mono ?_; rintro e w1 ⟨rfl, hb1, hl1⟩)
  refine (bufBytes (w.heap.size + 2) _ _ hb1).mono ?_
  rintro e w2 ⟨a, n, c, nq, rfl, rfl, hv⟩
  have hB2 : Blk w1 w.heap.size 22 #[nilS] := Blk.below (((Blk.new _ _ _).alloc _).alloc _) hl1 (by omega)
  have hB3 : Blk w1 (w.heap.size + 1) 4 #[.bool false] := Blk.below ((by simpa using Blk.new (w.alloc _) _ _ : Blk ((w.alloc _).alloc _) (w.heap.size + 1) _ _).alloc _) hl1 (by omega)
  have hs1 : w.heap.size + 3 ≤ w1.heap.size := by have := hl1.size; simp at this; omega
  go_wp2_with (go_at_call 27; refine (copied_any a n c _ _ (hv.drewN nq) (by have := hv.len; omega)).mono ?_; rintro e w3 ⟨a3, c3, rfl, h3, hb3⟩; have hC2 := (hB2.drewN nq).below hb3 (by simp; omega); have hC3 := (hB3.drewN nq).below hb3 (by simp; omega); have q20 := hC2.cell (i := 0) rfl; have q30 := hC3.cell (i := 0) rfl; have f2 := hC2.frozen 0; have f3 := hC3.frozen 0)
  refine leaves_cons (f := 25) (args := #[.pointer (some ⟨w.heap.size, 0, none⟩), .pointer (some ⟨w.heap.size + 1, 0, none⟩)]) (by simp) (by simp [go_sem]) ?_
  refine (noData_idle ⟨w.heap.size, 0, none⟩ ⟨w.heap.size + 1, 0, none⟩ _).mono ?_
  rintro e u' w'' ⟨rfl, rfl, rfl⟩
  have D2 := (hC2.set 0 (.slice a3 n c3)).other (p := ⟨w.heap.size + 1, 0, none⟩) (by simp) (.bool true)
  have D3 := (hC3.other (p := ⟨w.heap.size, 0, none⟩) (by simp) (.slice a3 n c3)).set 0 (.bool true)
  have hV := ((h3.otherBlk (p := ⟨w.heap.size, 0, none⟩) (by simp; omega) (.slice a3 n c3)).otherBlk (p := ⟨w.heap.size + 1, 0, none⟩) (by simp; omega) (.bool true)).vw
  have hb13 : Below w.heap.size w w3 := (below_drewN (((((Below.refl _ _).alloc (Nat.le_refl _) _).alloc (by simp) _).alloc (by simp; omega) _).trans (hl1.mono (by omega))) nq).trans (hb3.mono (by simp; omega))
  have hBel : Below w.heap.size w ((w3.setCell ⟨w.heap.size, 0, none⟩ (.slice a3 n c3)).setCell ⟨w.heap.size + 1, 0, none⟩ (.bool true)) := (hb13.setCell (by simp) _).setCell (by simp) _
  generalize hW4 : (w3.setCell ⟨w.heap.size, 0, none⟩ (.slice a3 n c3)).setCell ⟨w.heap.size + 1, 0, none⟩ (.bool true) = W4 at D2 D3 hV hBel ⊢
  have d2 := D2.cell (i := 0) rfl
  have d3 := D3.cell (i := 0) rfl
  simp at d2 d3
  simp [Leaves, settle, results, Tryd.results11, go_sem, d2, d3]
  exact ⟨_, _, _, ⟨rfl, rfl, rfl⟩, hV, hBel⟩

set_option maxHeartbeats 1000000 in
theorem fnWriteLifetime_walk (u : Int) (h0 : 0 ≤ u) (h1 : u < 256) (w : World) :
    Calls Tryd.prog 3 #[.int .u8 u] w fun e w' => e = .returned (.bool true) ∧ Below w.heap.size w w' := by
  go_enter Tryd.func3, Tryd.ntmps3
  go_wp2_with (go_at_call 11; refine (implWriteLifetime 43 (by omega) (by omega) _).mono ?_; rintro e w1 ⟨a1, n1, c1, rfl, hv1, hb1⟩)
  refine (policy_ok 43 (by omega) (by omega) _).mono ?_
  rintro e w2 ⟨b2, rfl, ho2, hb2⟩
  have hr1 := lifeB_read 43 w2 a1 n1 c1 (Vw.below hb2 (Nat.le_refl _) hv1)
  obtain ⟨a9, c9, hr⟩ := hr1
  go_wp2_with fail
  refine (wrote_desc a1 n1 c1 21 0 ⟨#[]⟩ 5 43 ⟨#[]⟩ a9 c9 w2 b2 ho2 hr).mono ?_
  rintro e w3 ⟨rfl, hb3⟩
  have hb123 : Below w.heap.size w w3 := hb1.trans ((hb2.mono hb1.size).trans (hb3.mono (Nat.le_trans hb1.size hb2.size)))
  by_cases hr : 43 ≤ u ∧ u ≤ 46
  · have e1 : decide (u < 43) = false := by simp; omega
    have e2 : decide (u > 46) = false := by simp; omega
    clear hr
    go_wp2_with (go_at_call 11; refine (implWriteLifetime u h0 h1 _).mono ?_; rintro e w4 ⟨a4, n4, c4, rfl, hv4, hb4⟩)
    refine (policy_ok u h0 h1 _).mono ?_
    rintro e w5 ⟨b5, rfl, ho5, hb5⟩
    obtain ⟨a8, c8, hr8⟩ := lifeB_read u w5 a4 n4 c4 (Vw.below hb5 (Nat.le_refl _) hv4)
    go_wp2_with fail
    refine (wrote_desc a4 n4 c4 21 0 ⟨#[]⟩ 5 u ⟨#[]⟩ a8 c8 w5 b5 ho5 hr8).mono ?_
    rintro e w6 ⟨rfl, hb6⟩
    go_wp2_with fail
    go_ret
    exact ⟨rfl, hb123.trans ((hb4.mono hb123.size).trans ((hb5.mono (Nat.le_trans hb123.size hb4.size)).trans (hb6.mono (Nat.le_trans hb123.size (Nat.le_trans hb4.size hb5.size)))))⟩
  · by_cases hlo : u < 43
    · have e1 : decide (u < 43) = true := by simpa using hlo
      clear hr
      go_wp2_with fail
      go_ret
      exact ⟨rfl, hb123⟩
    · have e1 : decide (u < 43) = false := by simpa using hlo
      have e2 : decide (u > 46) = true := by simp; omega
      clear hr
      go_wp2_with fail
      go_ret
      exact ⟨rfl, hb123⟩
end Go.Proofs.YtkbfppjniaejnaaDoor
