/- For every input the law FnGetFloat32 returns true, and each argument reads afterwards as it read before; the variables that the row lists are tied to the program's text by the given tie. No condition of mine. (The frame is the guide's skeleton, written by a program of this claim; the walk is YtnahohkfkkemfaaDoorFnGetFloat32.) -/
import Derived.Test.YtnahohkfkkemfaaDoorRows
import Derived.WalkKit
import Derived.ChangeVars
import Derived.JoinedOf
import Derived.RowKit
import Derived.LaidLaws
import Derived.SevenTiedAt
import Derived.Below
import Derived.ChangeOld
import Derived.Handed
import Derived.Test.YtnahohkfkkemfaaDoorLaidE
import Derived.Test.YtnahohkfkkemfaaDoorCards
import Derived.Test.YtnahohkfkkemfaaDoorTie
import Derived.Test.YtnahohkfkkemfaaDoorFnGetFloat32
import Derived.ProofKit
import Derived.OpenShut
import Derived.ShutString
import Derived.Test.YtnahohkfkkemfaaDoorGivenO
namespace Go.Proofs.YtnahohkfkkemfaaDoor.fnGetFloat32
open Go.ChangeShapes Go.WideShapes Go.ChangeAt Go.RowKit 
open Go.ChangeMaps (open_string shut_string)
set_option linter.unusedVariables false
set_option linter.unusedSimpArgs false

theorem own : ownKnob Tryd.prog.godebug = none := by kernel_rfl
theorem laidOut : laidOutB Tryd.prog = true := by kernel_rfl

set_option maxRecDepth 100000 in
set_option maxHeartbeats 1000000 in
theorem lifted (os : Os) (started : os.Started) (H : Type) (enc : TypeId × Value → H) :
    ReturnsInHanded {} Tryd.checked os 3 .any (fun w args => (Rows.fnGetFloat32Spec.pre enc Tryd.prog Tryd.f3 [] false w args ∧ laidMet Tryd.prog laidOf w) ∧ sizedMet enc Tryd.prog Tryd.f3 (OpenSpec.ofChange Rows.fnGetFloat32Spec) false w args) (Rows.fnGetFloat32Spec.post enc Tryd.prog Tryd.f3 false true false false) := by
  refine returnsInHanded_of_change_and (C := Tryd.checked) (X := fun w _ => laidMet Tryd.prog laidOf w) (fun _ _ _ hh h => h.of_heap hh) own started (by kernel_rfl) Tryd.func3
    (ChangeSpec.witness_at (enc := enc) (C := Tryd.checked) (os := os) (X := fun w _ => laidMet Tryd.prog laidOf w) false (laidWorld os) #[.agg #[.int .i64 0, .int .u64 0, .string ⟨#[]⟩, .int .i64 0, .slice none 0 0, .int .u64 0, .bool false, .slice none 0 0, .int .i64 0]] 8 rfl (by kernel_rfl) (by kernel_rfl) (by kernel_rfl) (by kernel_rfl) (by kernel_rfl) (laidWorld_met os _)) ?_
  intro W base args ds gs before hval0 hW hcnd _ hL hsz
  have hval : ∀ (j : Nat) t v, Tryd.f3.params[j]? = some t → args[j]? = some v → Value.okWide Tryd.prog W .any base t v := hval0
  have hW' := hW
  obtain ⟨p, q, hA0, hV, rfl, hfz, hnd⟩ := hW
  have hA : DataW.TrodAll enc Tryd.prog W 0 (fun _ => true) true Tryd.f3.params.toList args.toList ds p := hA0
  rw [Tryd.params3] at hA hval
  obtain ⟨v0, vs0, d0, ds0, p0, q0, hargs, rfl, rfl, h0, r0⟩ := trodAll_cons hA
  obtain ⟨rfl, rfl, rfl⟩ := trodAll_nil r0
  obtain rfl : args = #[v0] := by cases args; simp_all
  obtain ⟨eu, ev, hev, hgl⟩ := err_of_laid hL
  have hV2 : DataW.TrodVars enc Tryd.prog W (fun _ => true) [errVar] gs q := hV
  obtain ⟨rfl, rfl⟩ := hV2.unique (vars_read1 enc gE gEType Tryd.underlying56 hev trivial _)
  have k0 := h0
  have lt0 : ∀ x ∈ p0, x.block < W.heap.size := by obtain ⟨m, hm⟩ := k0; exact DataW.trod_lt m _ _ _ hm
  have ok0 := hval 0 28 v0 rfl rfl
  clear hA0 hval0
  obtain ⟨gp, gk, gnum, gt, gext, ga, gn, gc, gs, gsh, ga0, gm0, gc0, gl, gcut, rfl, hgp, hgs, hgv, hgc0, hgc1⟩ := Go.Proofs.YtnahohkfkkemfaaDoor.given_open ok0 h0
  refine (fnGetFloat32_walk gs hgs.1 hgs.2 gsh ga0 gm0 gc0 gl gcut hgc0 hgc1 W hgp hgv ⟨_, _, hgl⟩).mono fun e W' ⟨he, bel⟩ => ?_
  subst he
  exact ⟨_, rfl, _, _, _, [], _, [.cell 0 0], hW', trodAll_mk1 (shut_bool Tryd.underlying4 _), (trodAll_cons_mk (Below.trod laidOut (by kernel_rfl) (of_decide_eq_true (by kernel_rfl)) k0 bel lt0) trodAll_mk0), vars_read1 enc gE gEType Tryd.underlying56 (var?_below bel gE (World.block_lt_of_cell? _ _ hgl) hev) trivial _, bel.frame _, fun h => by cases h⟩

theorem over : Rows.fnGetFloat32Row.holds Tryd.pinned (OpenSpec.ofChange Rows.fnGetFloat32Spec) :=
  OpenClaim.holds_of_wide 3 Tryd.f3 rfl rfl rfl rfl rfl rfl rfl ⟨rfl, rfl, rfl, rfl, rfl⟩ rfl rfl rfl rfl rfl (by kernel_rfl) Tryd.func3 (by kernel_rfl)
    (of_decide_eq_true (by kernel_rfl)) (by unfold Func.isWrapper; first | (rw [if_pos (by decide +kernel)]; kernel_rfl) | (rw [if_neg (by decide +kernel)]; exact ⟨rfl, rfl⟩))
    (fun os started H enc _ => lifted os started H enc)

theorem proved : Rows.FnGetFloat32Said := over
theorem carded : Rows.FnGetFloat32CardSaid :=
  Claim7.holds_tied_plain_at .later [] [.wider] true (true, "f65ebb9f850743916a907f3cc89be124ca176c9bcf958e8c51f65ee2741ffb5b") false
    proved (fun _ h => by cases h) (by kernel_rfl) (fun _ h => by cases h) fnGetFloat32_row_tie rfl ⟨rfl, rfl⟩ (by kernel_rfl) rfl
    (fun f fn hf hfn => by
      obtain rfl : f = 3 := Option.some.inj ((show Tryd.prog.funcNamed "given.example/pub-saddlebag/laws.FnGetFloat32" = some 3 by kernel_rfl).symm.trans hf) |>.symm
      obtain rfl : fn = Tryd.f3 := (Option.some.inj (Tryd.func3.symm.trans hfn)).symm
      exact ⟨by kernel_rfl, fun j t ht => by
        rw [Tryd.params3] at ht
        have h3 : ∀ x ∈ [28], Tryd.prog.wantsStandIn x = false := by
          simp only [List.mem_cons, List.not_mem_nil, or_false, forall_eq, forall_eq_or_imp]
          kernel_rfl
        refine h3 t ?_
        have hj := List.mem_of_getElem? (by simpa using ht : [28][j]? = some t)
        exact hj⟩)
    (by kernel_rfl)
#print axioms carded
end Go.Proofs.YtnahohkfkkemfaaDoor.fnGetFloat32
