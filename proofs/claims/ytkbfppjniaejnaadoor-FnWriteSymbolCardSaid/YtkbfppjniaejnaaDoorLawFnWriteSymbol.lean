/- For every input the law FnWriteSymbol returns true, and each argument reads afterwards as it read before; the two tables that the row lists are tied to the program's text by the given tie. No condition of mine. (The frame was written by the guide's proof-skeleton program and turned to the card by a program of this claim; the walk is YtkbfppjniaejnaaDoorFnWriteSymbol.) -/
import Derived.Test.YtkbfppjniaejnaaDoorRows
import Derived.WalkKit
import Derived.ChangeVars
import Derived.JoinedOf
import Derived.RowKit
import Derived.LaidLaws
import Derived.SevenTiedAt
import Derived.Below
import Derived.ChangeOld
import Derived.Handed
import Derived.Test.YtkbfppjniaejnaaDoorLaid
import Derived.Test.YtkbfppjniaejnaaDoorCards
import Derived.Test.YtkbfppjniaejnaaDoorTie
import Derived.Test.YtkbfppjniaejnaaDoorFnWriteSymbol
import Derived.ProofKit
import Derived.OpenShut
import Derived.ShutString
namespace Go.Proofs.YtkbfppjniaejnaaDoor.fnWriteSymbol
set_option linter.unusedSimpArgs false
open Go.ChangeShapes Go.WideShapes Go.ChangeAt Go.RowKit
open Go.ChangeMaps (open_string shut_string)
set_option linter.unusedVariables false      -- a walk need not use every 'w<i>' (that an integer argument fits its kind)

theorem own : ownKnob Tryd.prog.godebug = none := by kernel_rfl

/-! ### STEP 1: THE WALK: the Go text returns true. 'Grown w w'': the world has at most new blocks (Derived/RowKit3.lean). Part the cases AHEAD of 'go_enter' where a test parts the walk; take each callee by a contract of your own. -/
theorem walk (a0 : ByteArray) (w0 : a0.size ≤ maxLen) (w : World) :
    Calls Tryd.prog 6 #[.string a0] w fun e w' => e = .returned (.bool true) ∧ Below w.heap.size w w' := by
  exact Go.Proofs.YtkbfppjniaejnaaDoor.fnWriteSymbol_walk a0 w
  -- go_enter Tryd.func6, Tryd.ntmps6
  -- go_wp2
  -- go_ret
  -- exact ⟨rfl, by repeat (first | exact Grown.refl _ | apply Grown.drew | apply Grown.alloc)⟩

/-! ### THE ROW's STEP: WRITTEN OUT: LEAVE IT -/
set_option maxRecDepth 100000 in
theorem lifted (os : Os) (started : os.Started) (H : Type) (enc : TypeId × Value → H) :
    ReturnsInHanded {} Tryd.checked os 6 .any (fun w args => (Rows.fnWriteSymbolSpec.pre enc Tryd.prog Tryd.f6 [] false w args ∧ laidMet Tryd.prog laidOf w) ∧ sizedMet enc Tryd.prog Tryd.f6 (OpenSpec.ofChange Rows.fnWriteSymbolSpec) false w args) (Rows.fnWriteSymbolSpec.post enc Tryd.prog Tryd.f6 false true false false) := by
  refine returnsInHanded_of_change_and (C := Tryd.checked) (X := fun w _ => laidMet Tryd.prog laidOf w) (fun _ _ _ hh h => h.of_heap hh) own started (by kernel_rfl) Tryd.func6
    (ChangeSpec.witness_at (enc := enc) (C := Tryd.checked) (os := os) (X := fun w _ => laidMet Tryd.prog laidOf w) false (laidWorld os) #[.string ByteArray.empty] 8 rfl (by kernel_rfl) (by kernel_rfl) (by kernel_rfl) (by kernel_rfl) (by kernel_rfl) (laidWorld_met os _)) ?_
  intro W base args ds gs before hval0 hW hcnd _ hL _
  have hval : ∀ (j : Nat) t v, Tryd.f6.params[j]? = some t → args[j]? = some v → Value.okWide Tryd.prog W .any base t v := hval0
  have hW' := hW
  obtain ⟨p, q, hA0, hV, rfl, hfz, hnd⟩ := hW
  have hA : DataW.TrodAll enc Tryd.prog W 0 (fun _ => true) true Tryd.f6.params.toList args.toList ds p := hA0
  rw [Tryd.params6] at hA hval
  obtain ⟨v0, vs0, d0, ds0, p0, q0, hargs, rfl, rfl, h0, r0⟩ := trodAll_cons hA
  obtain ⟨rfl, rfl, rfl⟩ := trodAll_nil r0
  obtain rfl : args = #[v0] := by cases args; simp_all
  obtain ⟨rfl, rfl⟩ := trodVars_none hV
  obtain ⟨a0, rfl, rfl, rfl, w0⟩ := open_string Tryd.underlying9 (hval 0 9 v0 rfl rfl) h0
  clear hA0 hval0
  simp only [List.append_nil] at hW'
  refine (walk a0 w0 W).mono fun e W' ⟨he, bel⟩ => ?_
  subst he
  exact ⟨_, rfl, _, _, _, [], _, [], hW', trodAll_mk1 (shut_bool Tryd.underlying4 _), (trodAll_cons_mk (shut_string Tryd.underlying9 w0) trodAll_mk0), rfl, bel.frame _, fun h => by cases h⟩

theorem over : Rows.fnWriteSymbolRow.holds Tryd.pinned (OpenSpec.ofChange Rows.fnWriteSymbolSpec) :=
  OpenClaim.holds_of_wide 6 Tryd.f6 rfl rfl rfl rfl rfl rfl rfl ⟨rfl, rfl, rfl, rfl, rfl⟩ rfl rfl rfl rfl rfl (by kernel_rfl) Tryd.func6 (by kernel_rfl)
    (of_decide_eq_true (by kernel_rfl)) (by unfold Func.isWrapper; first | (rw [if_pos (by decide +kernel)]; kernel_rfl) | (rw [if_neg (by decide +kernel)]; exact ⟨rfl, rfl⟩))
    (fun os started H enc _ => lifted os started H enc)

theorem proved : Rows.FnWriteSymbolSaid :=
  over
theorem carded : Rows.FnWriteSymbolCardSaid :=
  Claim7.holds_tied_plain_at .later [] [.data, .pinned] true (true, "c7307bbb1ebb6a72ea689691a8edf60212fc4b001059895211f78e856dbf51b5") false
    proved (fun _ h => by cases h) (by kernel_rfl) (fun _ h => by cases h) fnWriteSymbol_row_tie rfl ⟨rfl, rfl⟩ (by kernel_rfl) rfl
    (fun f fn hf hfn => by
      obtain rfl : f = 6 := Option.some.inj ((show Tryd.prog.funcNamed "given.example/pub-saddlebag/laws.FnWriteSymbol" = some 6 by kernel_rfl).symm.trans hf) |>.symm
      obtain rfl : fn = Tryd.f6 := (Option.some.inj (Tryd.func6.symm.trans hfn)).symm
      exact ⟨by kernel_rfl, fun j t ht => by
        rw [Tryd.params6] at ht
        have h3 : ∀ x ∈ [9], Tryd.prog.wantsStandIn x = false := by
          simp only [List.mem_cons, List.not_mem_nil, or_false, forall_eq, forall_eq_or_imp]
          kernel_rfl
        refine h3 t ?_
        rcases j with _ | j
        · simpa using ht.symm
        · simp at ht⟩)
    (by kernel_rfl)
#print axioms carded
end Go.Proofs.YtkbfppjniaejnaaDoor.fnWriteSymbol
