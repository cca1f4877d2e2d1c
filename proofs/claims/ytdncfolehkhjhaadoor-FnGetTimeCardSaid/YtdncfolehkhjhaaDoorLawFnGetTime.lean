/- For every input the law FnGetTime returns true, and each argument reads afterwards as it read before; the variables that the row lists are tied to the program's text by the given tie. No condition of mine. (The frame is the guide's skeleton, written by a program of this claim; the walk is YtdncfolehkhjhaaDoorFnGetTime.) -/
import Derived.Test.YtdncfolehkhjhaaDoorRows
import Derived.WalkKit
import Derived.ChangeVars
import Derived.JoinedOf
import Derived.RowKit
import Derived.LaidLaws
import Derived.SevenTiedAt
import Derived.Below
import Derived.ChangeOld
import Derived.Handed
import Derived.Test.YtdncfolehkhjhaaDoorLaidS
import Derived.Test.YtdncfolehkhjhaaDoorCards
import Derived.Test.YtdncfolehkhjhaaDoorTie
import Derived.Test.YtdncfolehkhjhaaDoorFnGetTime
import Derived.ProofKit
import Derived.OpenShut
import Derived.ShutString
namespace Go.Proofs.YtdncfolehkhjhaaDoor.fnGetTime
open Go.ChangeShapes Go.WideShapes Go.ChangeAt Go.RowKit 
open Go.ChangeMaps (open_string shut_string)
set_option linter.unusedVariables false
set_option linter.unusedSimpArgs false

theorem own : ownKnob Tryd.prog.godebug = none := by kernel_rfl
theorem laidOut : laidOutB Tryd.prog = true := by kernel_rfl

set_option maxRecDepth 100000 in
set_option maxHeartbeats 1000000 in
theorem lifted (os : Os) (started : os.Started) (H : Type) (enc : TypeId × Value → H) :
    ReturnsInHanded {} Tryd.checked os 4 .any (fun w args => (Rows.fnGetTimeSpec.pre enc Tryd.prog Tryd.f4 [] false w args ∧ laidMet Tryd.prog laidOf w) ∧ sizedMet enc Tryd.prog Tryd.f4 (OpenSpec.ofChange Rows.fnGetTimeSpec) false w args) (Rows.fnGetTimeSpec.post enc Tryd.prog Tryd.f4 false true false false) := by
  refine returnsInHanded_of_change_and (C := Tryd.checked) (X := fun w _ => laidMet Tryd.prog laidOf w) (fun _ _ _ hh h => h.of_heap hh) own started (by kernel_rfl) Tryd.func4
    (ChangeSpec.witness_at (enc := enc) (C := Tryd.checked) (os := os) (X := fun w _ => laidMet Tryd.prog laidOf w) false (laidWorld os) #[.int .i64 0, .int .i32 0, .int .i64 0, .slice none 0 0] 8 rfl (by kernel_rfl) (by kernel_rfl) (by kernel_rfl) (by kernel_rfl) (by kernel_rfl) (laidWorld_met os _)) ?_
  intro W base args ds gs before hval0 hW hcnd _ hL hsz
  have hval : ∀ (j : Nat) t v, Tryd.f4.params[j]? = some t → args[j]? = some v → Value.okWide Tryd.prog W .any base t v := hval0
  have hW' := hW
  obtain ⟨p, q, hA0, hV, rfl, hfz, hnd⟩ := hW
  have hA : DataW.TrodAll enc Tryd.prog W 0 (fun _ => true) true Tryd.f4.params.toList args.toList ds p := hA0
  rw [Tryd.params4] at hA hval
  obtain ⟨v0, vs0, d0, ds0, p0, q0, hargs, rfl, rfl, h0, r0⟩ := trodAll_cons hA
  obtain ⟨v1, vs1, d1, ds1, p1, q1, rfl, rfl, rfl, h1, r1⟩ := trodAll_cons r0
  obtain ⟨v2, vs2, d2, ds2, p2, q2, rfl, rfl, rfl, h2, r2⟩ := trodAll_cons r1
  obtain ⟨v3, vs3, d3, ds3, p3, q3, rfl, rfl, rfl, h3, r3⟩ := trodAll_cons r2
  obtain ⟨rfl, rfl, rfl⟩ := trodAll_nil r3
  obtain rfl : args = #[v0, v1, v2, v3] := by cases args; simp_all
  obtain ⟨eu, ev, hev, hgl⟩ := err_of_laid hL
  have hV2 : DataW.TrodVars enc Tryd.prog W (fun _ => true) [errVar] gs q := hV
  obtain ⟨rfl, rfl⟩ := hV2.unique (vars_read1 enc gE gEType Tryd.underlying66 hev trivial _)
  have k0 := h0
  have lt0 : ∀ x ∈ p0, x.block < W.heap.size := by obtain ⟨m, hm⟩ := k0; exact DataW.trod_lt m _ _ _ hm
  have ok0 := hval 0 2 v0 rfl rfl
  have k1 := h1
  have lt1 : ∀ x ∈ p1, x.block < W.heap.size := by obtain ⟨m, hm⟩ := k1; exact DataW.trod_lt m _ _ _ hm
  have ok1 := hval 1 21 v1 rfl rfl
  have k2 := h2
  have lt2 : ∀ x ∈ p2, x.block < W.heap.size := by obtain ⟨m, hm⟩ := k2; exact DataW.trod_lt m _ _ _ hm
  have ok2 := hval 2 3 v2 rfl rfl
  have k3 := h3
  have lt3 : ∀ x ∈ p3, x.block < W.heap.size := by obtain ⟨m, hm⟩ := k3; exact DataW.trod_lt m _ _ _ hm
  have ok3 := hval 3 35 v3 rfl rfl
  clear hA0 hval0
  obtain ⟨x0, rfl, rfl, rfl, wk0⟩ := open_int Tryd.underlying2 ok0 h0
  obtain ⟨x1, rfl, rfl, rfl, wk1⟩ := open_int Tryd.underlying21 ok1 h1
  have hb1 : -2147483648 ≤ x1 ∧ x1 < 2147483648 := by have := wk1; simp [Lit.wf, IntKind.min, IntKind.max, IntKind.bits, IntKind.signed] at this; omega
  obtain ⟨x2, rfl, rfl, rfl, wk2⟩ := open_int Tryd.underlying3 ok2 h2
  obtain ⟨a3, len3, cap3, rfl⟩ := okWide_slice Tryd.underlying35 ok3
  obtain ⟨l3, w3⟩ : ∃ l, Vw W a3 len3 cap3 l := by
    obtain ⟨fuel, hf⟩ := h3
    rcases open_ints Tryd.underlying35 Tryd.underlying5 (by kernel_rfl) hf with ⟨hcs, _⟩ | ⟨x, l, c, zs, hcs, _, hl, hm, hz, _, hcell, hwz⟩
    · simp [Value.cells] at hcs
      obtain ⟨rfl, rfl, rfl⟩ := hcs
      exact ⟨[], Vw.nil W⟩
    · simp [Value.cells] at hcs
      obtain ⟨rfl, rfl, rfl⟩ := hcs
      exact ⟨_, vw_of_row (.inr ⟨_, rfl, hl, hm, by simpa using hz, hcell, hwz⟩)⟩
  refine (fnGetTime_walk x0 x1 x2 hb1 a3 len3 cap3 l3 W w3).mono fun e W' ⟨he, bel⟩ => ?_
  subst he
  exact ⟨_, rfl, _, _, _, [], _, [.cell 1 0], hW', trodAll_mk1 (shut_bool Tryd.underlying4 _), (trodAll_cons_mk (shut_int Tryd.underlying2 wk0) (trodAll_cons_mk (shut_int Tryd.underlying21 wk1) (trodAll_cons_mk (shut_int Tryd.underlying3 wk2) (trodAll_cons_mk (Below.trod laidOut (by kernel_rfl) (of_decide_eq_true (by kernel_rfl)) k3 bel lt3) trodAll_mk0)))), vars_read1 enc gE gEType Tryd.underlying66 (var?_below bel gE (World.block_lt_of_cell? _ _ hgl) hev) trivial _, bel.frame _, fun h => by cases h⟩

theorem over : Rows.fnGetTimeRow.holds Tryd.pinned (OpenSpec.ofChange Rows.fnGetTimeSpec) :=
  OpenClaim.holds_of_wide 4 Tryd.f4 rfl rfl rfl rfl rfl rfl rfl ⟨rfl, rfl, rfl, rfl, rfl⟩ rfl rfl rfl rfl rfl (by kernel_rfl) Tryd.func4 (by kernel_rfl)
    (of_decide_eq_true (by kernel_rfl)) (by unfold Func.isWrapper; first | (rw [if_pos (by decide +kernel)]; kernel_rfl) | (rw [if_neg (by decide +kernel)]; exact ⟨rfl, rfl⟩))
    (fun os started H enc _ => lifted os started H enc)

theorem proved : Rows.FnGetTimeSaid := over
theorem carded : Rows.FnGetTimeCardSaid :=
  Claim7.holds_tied_plain_at .later [] [.wider] true (true, "85b99ac66303384cacc6c50863cb99a2431ba3296c120a7504912f28040dc7fd") false
    proved (fun _ h => by cases h) (by kernel_rfl) (fun _ h => by cases h) fnGetTime_row_tie rfl ⟨rfl, rfl⟩ (by kernel_rfl) rfl
    (fun f fn hf hfn => by
      obtain rfl : f = 4 := Option.some.inj ((show Tryd.prog.funcNamed "given.example/pub-saddlebag/laws.FnGetTime" = some 4 by kernel_rfl).symm.trans hf) |>.symm
      obtain rfl : fn = Tryd.f4 := (Option.some.inj (Tryd.func4.symm.trans hfn)).symm
      exact ⟨by kernel_rfl, fun j t ht => by
        rw [Tryd.params4] at ht
        have h3 : ∀ x ∈ [2, 21, 3, 35], Tryd.prog.wantsStandIn x = false := by
          simp only [List.mem_cons, List.not_mem_nil, or_false, forall_eq, forall_eq_or_imp]
          exact ⟨by kernel_rfl, by kernel_rfl, by kernel_rfl, by kernel_rfl⟩
        refine h3 t ?_
        have hj := List.mem_of_getElem? (by simpa using ht : [2, 21, 3, 35][j]? = some t)
        exact hj⟩)
    (by kernel_rfl)
#print axioms carded
end Go.Proofs.YtdncfolehkhjhaaDoor.fnGetTime
