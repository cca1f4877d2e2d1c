/- For every input the law FnWriteArrayBinary returns true, and each argument reads afterwards as it read before; the variables that the row lists are tied to the program's text by the given tie. No condition of mine. (The frame is the guide's skeleton, written by a program of this claim; the walk is YtkbfppjniaejnaaDoorFnWriteArrayBinary.) -/
import Derived.Test.YtkbfppjniaejnaaDoorRows
import Derived.WalkKit
import Derived.ChangeVars
import Derived.JoinedOf
import Derived.RowKit
import Derived.LaidLaws
import Derived.SevenTiedAt
import Derived.Below
import Derived.ChangeOld
import Derived.Handed
import Derived.Test.YtkbfppjniaejnaaDoorLaid
import Derived.Test.YtkbfppjniaejnaaDoorCards
import Derived.Test.YtkbfppjniaejnaaDoorTie
import Derived.Test.YtkbfppjniaejnaaDoorFnWriteArrayBinary
import Derived.ProofKit
import Derived.OpenShut
import Derived.ShutString
import Derived.SliceStrings
namespace Go.Proofs.YtkbfppjniaejnaaDoor.fnWriteArrayBinary
open Go.ChangeShapes Go.WideShapes Go.ChangeAt Go.RowKit 
open Go.ChangeMaps (open_string shut_string)
set_option linter.unusedVariables false
set_option linter.unusedSimpArgs false

theorem own : ownKnob Tryd.prog.godebug = none := by kernel_rfl
theorem laidOut : laidOutB Tryd.prog = true := by kernel_rfl

set_option maxRecDepth 100000 in
set_option maxHeartbeats 1000000 in
theorem lifted (os : Os) (started : os.Started) (H : Type) (enc : TypeId × Value → H) :
    ReturnsInHanded {} Tryd.checked os 10 .any (fun w args => (Rows.fnWriteArrayBinarySpec.pre enc Tryd.prog Tryd.f10 [] false w args ∧ laidMet Tryd.prog laidOf w) ∧ sizedMet enc Tryd.prog Tryd.f10 (OpenSpec.ofChange Rows.fnWriteArrayBinarySpec) false w args) (Rows.fnWriteArrayBinarySpec.post enc Tryd.prog Tryd.f10 false true false false) := by
  refine returnsInHanded_of_change_and (C := Tryd.checked) (X := fun w _ => laidMet Tryd.prog laidOf w) (fun _ _ _ hh h => h.of_heap hh) own started (by kernel_rfl) Tryd.func10
    (ChangeSpec.witness_at (enc := enc) (C := Tryd.checked) (os := os) (X := fun w _ => laidMet Tryd.prog laidOf w) false (laidWorld os) #[.slice none 0 0] 8 rfl (by kernel_rfl) (by kernel_rfl) (by kernel_rfl) (by kernel_rfl) (by kernel_rfl) (laidWorld_met os _)) ?_
  intro W base args ds gs before hval0 hW hcnd _ hL hsz
  have hval : ∀ (j : Nat) t v, Tryd.f10.params[j]? = some t → args[j]? = some v → Value.okWide Tryd.prog W .any base t v := hval0
  have hW' := hW
  obtain ⟨p, q, hA0, hV, rfl, hfz, hnd⟩ := hW
  have hA : DataW.TrodAll enc Tryd.prog W 0 (fun _ => true) true Tryd.f10.params.toList args.toList ds p := hA0
  rw [Tryd.params10] at hA hval
  obtain ⟨v0, vs0, d0, ds0, p0, q0, hargs, rfl, rfl, h0, r0⟩ := trodAll_cons hA
  obtain ⟨rfl, rfl, rfl⟩ := trodAll_nil r0
  obtain rfl : args = #[v0] := by cases args; simp_all
  obtain ⟨rfl, rfl⟩ := trodVars_none hV
  have k0 := h0
  have lt0 : ∀ x ∈ p0, x.block < W.heap.size := by obtain ⟨m, hm⟩ := k0; exact DataW.trod_lt m _ _ _ hm
  have ok0 := hval 0 50 v0 rfl rfl
  clear hA0 hval0
  obtain ⟨a0, len0, cap0, rfl⟩ := okWide_slice Tryd.underlying50 ok0
  obtain ⟨ts0, w0, e0, s0, m0⟩ : ∃ ts : List ByteArray, Rd W a0 (ts.map Value.string) ∧ ts.length = len0 ∧ (∀ t ∈ ts, t.size ≤ 9223372036854775807) ∧ ts.length ≤ 9223372036854775807 := by
    obtain ⟨fuel, hf⟩ := h0
    rcases open_strings Tryd.underlying50 Tryd.underlying9 (by kernel_rfl) hf with ⟨hcs, _⟩ | ⟨x, l, c, ss, hcs, _, hl, hm, hss, _, hcell, hwz⟩
    · simp [Value.cells] at hcs
      obtain ⟨rfl, rfl, rfl⟩ := hcs
      exact ⟨[], .inl rfl, rfl, by simp, by simp⟩
    · simp [Value.cells] at hcs
      obtain ⟨rfl, rfl, rfl⟩ := hcs
      simp only [if_true] at hss
      unfold maxLen at hm hwz
      exact ⟨ss.take len0, rd_strs (by omega) hcell, by rw [List.length_take]; omega, fun t ht => hwz t (List.mem_of_mem_take ht), by rw [List.length_take]; omega⟩
  subst e0
  refine (walkB ts0 s0 m0 a0 cap0 W w0).mono fun e W' ⟨he, bel⟩ => ?_
  subst he
  exact ⟨_, rfl, _, _, _, [], _, [], hW', trodAll_mk1 (shut_bool Tryd.underlying4 _), (trodAll_cons_mk (Below.trod laidOut (by kernel_rfl) (of_decide_eq_true (by kernel_rfl)) k0 bel lt0) trodAll_mk0), rfl, bel.frame _, fun h => by cases h⟩

theorem over : Rows.fnWriteArrayBinaryRow.holds Tryd.pinned (OpenSpec.ofChange Rows.fnWriteArrayBinarySpec) :=
  OpenClaim.holds_of_wide 10 Tryd.f10 rfl rfl rfl rfl rfl rfl rfl ⟨rfl, rfl, rfl, rfl, rfl⟩ rfl rfl rfl rfl rfl (by kernel_rfl) Tryd.func10 (by kernel_rfl)
    (of_decide_eq_true (by kernel_rfl)) (by unfold Func.isWrapper; first | (rw [if_pos (by decide +kernel)]; kernel_rfl) | (rw [if_neg (by decide +kernel)]; exact ⟨rfl, rfl⟩))
    (fun os started H enc _ => lifted os started H enc)

theorem proved : Rows.FnWriteArrayBinarySaid := over
theorem carded : Rows.FnWriteArrayBinaryCardSaid :=
  Claim7.holds_tied_plain_at .later [] [.data, .pinned] true (true, "c7307bbb1ebb6a72ea689691a8edf60212fc4b001059895211f78e856dbf51b5") false
    proved (fun _ h => by cases h) (by kernel_rfl) (fun _ h => by cases h) fnWriteArrayBinary_row_tie rfl ⟨rfl, rfl⟩ (by kernel_rfl) rfl
    (fun f fn hf hfn => by
      obtain rfl : f = 10 := Option.some.inj ((show Tryd.prog.funcNamed "given.example/pub-saddlebag/laws.FnWriteArrayBinary" = some 10 by kernel_rfl).symm.trans hf) |>.symm
      obtain rfl : fn = Tryd.f10 := (Option.some.inj (Tryd.func10.symm.trans hfn)).symm
      exact ⟨by kernel_rfl, fun j t ht => by
        rw [Tryd.params10] at ht
        have h3 : ∀ x ∈ [50], Tryd.prog.wantsStandIn x = false := by
          simp only [List.mem_cons, List.not_mem_nil, or_false, forall_eq, forall_eq_or_imp]
          kernel_rfl
        refine h3 t ?_
        have hj := List.mem_of_getElem? (by simpa using ht : [50][j]? = some t)
        exact hj⟩)
    (by kernel_rfl)
#print axioms carded
end Go.Proofs.YtkbfppjniaejnaaDoor.fnWriteArrayBinary
