/- For every input the law FnGetSetUint returns true, and each argument reads afterwards as it read before; the variables that the row lists are tied to the program's text by the given tie. No condition of mine. (The frame is the guide's skeleton, written by a program of this claim; the walk is YtbngkfdfjpbajaaDoorFnGetSetUint.) -/
import Derived.Test.YtbngkfdfjpbajaaDoorRows
import Derived.WalkKit
import Derived.ChangeVars
import Derived.JoinedOf
import Derived.RowKit
import Derived.LaidLaws
import Derived.SevenTiedAt
import Derived.Below
import Derived.ChangeOld
import Derived.Handed
import Derived.Test.YtbngkfdfjpbajaaDoorLaidE
import Derived.Test.YtbngkfdfjpbajaaDoorCards
import Derived.Test.YtbngkfdfjpbajaaDoorTie
import Derived.Test.YtbngkfdfjpbajaaDoorFnGetSetUint
import Derived.ProofKit
import Derived.OpenShut
import Derived.ShutString
namespace Go.Proofs.YtbngkfdfjpbajaaDoor.fnGetSetUint
open Go.ChangeShapes Go.WideShapes Go.ChangeAt Go.RowKit 
open Go.ChangeMaps (open_string shut_string)
set_option linter.unusedVariables false
set_option linter.unusedSimpArgs false

theorem own : ownKnob Tryd.prog.godebug = none := by kernel_rfl
theorem laidOut : laidOutB Tryd.prog = true := by kernel_rfl

set_option maxRecDepth 100000 in
set_option maxHeartbeats 1000000 in
theorem lifted (os : Os) (started : os.Started) (H : Type) (enc : TypeId × Value → H) :
    ReturnsInHanded {} Tryd.checked os 5 .any (fun w args => (Rows.fnGetSetUintSpec.pre enc Tryd.prog Tryd.f5 [] false w args ∧ laidMet Tryd.prog laidOf w) ∧ sizedMet enc Tryd.prog Tryd.f5 (OpenSpec.ofChange Rows.fnGetSetUintSpec) false w args) (Rows.fnGetSetUintSpec.post enc Tryd.prog Tryd.f5 false true false false) := by
  refine returnsInHanded_of_change_and (C := Tryd.checked) (X := fun w _ => laidMet Tryd.prog laidOf w) (fun _ _ _ hh h => h.of_heap hh) own started (by kernel_rfl) Tryd.func5
    (ChangeSpec.witness_at (enc := enc) (C := Tryd.checked) (os := os) (X := fun w _ => laidMet Tryd.prog laidOf w) false (laidWorld os) #[.slice none 0 0, .int .u64 0, .slice none 0 0] 8 rfl (by kernel_rfl) (by kernel_rfl) (by kernel_rfl) (by kernel_rfl) (by kernel_rfl) (laidWorld_met os _)) ?_
  intro W base args ds gs before hval0 hW hcnd _ hL hsz
  have hval : ∀ (j : Nat) t v, Tryd.f5.params[j]? = some t → args[j]? = some v → Value.okWide Tryd.prog W .any base t v := hval0
  have hW' := hW
  obtain ⟨p, q, hA0, hV, rfl, hfz, hnd⟩ := hW
  have hA : DataW.TrodAll enc Tryd.prog W 0 (fun _ => true) true Tryd.f5.params.toList args.toList ds p := hA0
  rw [Tryd.params5] at hA hval
  obtain ⟨v0, vs0, d0, ds0, p0, q0, hargs, rfl, rfl, h0, r0⟩ := trodAll_cons hA
  obtain ⟨v1, vs1, d1, ds1, p1, q1, rfl, rfl, rfl, h1, r1⟩ := trodAll_cons r0
  obtain ⟨v2, vs2, d2, ds2, p2, q2, rfl, rfl, rfl, h2, r2⟩ := trodAll_cons r1
  obtain ⟨rfl, rfl, rfl⟩ := trodAll_nil r2
  obtain rfl : args = #[v0, v1, v2] := by cases args; simp_all
  obtain ⟨eu, ev, hev, hgl⟩ := err_of_laid hL
  have hV2 : DataW.TrodVars enc Tryd.prog W (fun _ => true) [errVar] gs q := hV
  obtain ⟨rfl, rfl⟩ := hV2.unique (vars_read1 enc gE gEType Tryd.underlying64 hev trivial _)
  have k0 := h0
  have lt0 : ∀ x ∈ p0, x.block < W.heap.size := by obtain ⟨m, hm⟩ := k0; exact DataW.trod_lt m _ _ _ hm
  have ok0 := hval 0 47 v0 rfl rfl
  have k1 := h1
  have lt1 : ∀ x ∈ p1, x.block < W.heap.size := by obtain ⟨m, hm⟩ := k1; exact DataW.trod_lt m _ _ _ hm
  have ok1 := hval 1 22 v1 rfl rfl
  have k2 := h2
  have lt2 : ∀ x ∈ p2, x.block < W.heap.size := by obtain ⟨m, hm⟩ := k2; exact DataW.trod_lt m _ _ _ hm
  have ok2 := hval 2 28 v2 rfl rfl
  clear hA0 hval0
  obtain ⟨a0, len0, cap0, rfl⟩ := okWide_slice Tryd.underlying47 ok0
  obtain ⟨ls0, w0, e0, b0⟩ : ∃ ls : List Int, Rd W a0 (ls.map (Value.int .u64)) ∧ ls.length = len0 ∧ ∀ x ∈ ls, (Lit.int .u64 x).wf = true := by
    obtain ⟨fuel, hf⟩ := h0
    rcases open_ints Tryd.underlying47 Tryd.underlying22 (by kernel_rfl) hf with ⟨hcs, _⟩ | ⟨x, l, c, zs, hcs, _, hl, hm, hz, _, hcell, hwz⟩
    · simp [Value.cells] at hcs
      obtain ⟨rfl, rfl, rfl⟩ := hcs
      exact ⟨[], .inl rfl, rfl, by simp⟩
    · simp [Value.cells] at hcs
      obtain ⟨rfl, rfl, rfl⟩ := hcs
      have hrow := rd_of_row (k := .u64) (.inr ⟨_, rfl, hl, hm, by simpa using hz, hcell, hwz⟩)
      exact ⟨_, hrow.1, hrow.2.1, hrow.2.2⟩
  subst e0
  obtain ⟨x1, rfl, rfl, rfl, wk1⟩ := open_int Tryd.underlying22 ok1 h1
  obtain ⟨a2, len2, cap2, rfl⟩ := okWide_slice Tryd.underlying28 ok2
  obtain ⟨ls2, w2⟩ : ∃ ls : List Int, Vw W a2 len2 cap2 ls := by
    obtain ⟨fuel, hf⟩ := h2
    rcases open_ints Tryd.underlying28 Tryd.underlying5 (by kernel_rfl) hf with ⟨hcs, _⟩ | ⟨x, l, c, zs, hcs, _, hl, hm, hz, _, hcell, hwz⟩
    · simp [Value.cells] at hcs
      obtain ⟨rfl, rfl, rfl⟩ := hcs
      exact ⟨[], Vw.nil W⟩
    · simp [Value.cells] at hcs
      obtain ⟨rfl, rfl, rfl⟩ := hcs
      exact ⟨_, vw_of_row (.inr ⟨_, rfl, hl, hm, by simpa using hz, hcell, hwz⟩)⟩
  refine (fnGetSetUint_walk a0 _ cap0 ls0 x1 (Go.Proofs.YtbngkfdfjpbajaaDoor.wf_u64 x1 wk1).1 (Go.Proofs.YtbngkfdfjpbajaaDoor.wf_u64 x1 wk1).2 a2 len2 cap2 ls2 W w0 rfl b0 w2).mono fun e W' ⟨he, bel⟩ => ?_
  subst he
  exact ⟨_, rfl, _, _, _, [], _, [.cell 0 0], hW', trodAll_mk1 (shut_bool Tryd.underlying4 _), (trodAll_cons_mk (Below.trod laidOut (by kernel_rfl) (of_decide_eq_true (by kernel_rfl)) k0 bel lt0) (trodAll_cons_mk (shut_int Tryd.underlying22 wk1) (trodAll_cons_mk (Below.trod laidOut (by kernel_rfl) (of_decide_eq_true (by kernel_rfl)) k2 bel lt2) trodAll_mk0))), vars_read1 enc gE gEType Tryd.underlying64 (var?_below bel gE (World.block_lt_of_cell? _ _ hgl) hev) trivial _, bel.frame _, fun h => by cases h⟩

theorem over : Rows.fnGetSetUintRow.holds Tryd.pinned (OpenSpec.ofChange Rows.fnGetSetUintSpec) :=
  OpenClaim.holds_of_wide 5 Tryd.f5 rfl rfl rfl rfl rfl rfl rfl ⟨rfl, rfl, rfl, rfl, rfl⟩ rfl rfl rfl rfl rfl (by kernel_rfl) Tryd.func5 (by kernel_rfl)
    (of_decide_eq_true (by kernel_rfl)) (by unfold Func.isWrapper; first | (rw [if_pos (by decide +kernel)]; kernel_rfl) | (rw [if_neg (by decide +kernel)]; exact ⟨rfl, rfl⟩))
    (fun os started H enc _ => lifted os started H enc)

theorem proved : Rows.FnGetSetUintSaid := over
theorem carded : Rows.FnGetSetUintCardSaid :=
  Claim7.holds_tied_plain_at .later [] [.wider] true (true, "7945d247b3132ce4462af5d43ef972cc6d87a64064689b196af0208e9a4206f9") false
    proved (fun _ h => by cases h) (by kernel_rfl) (fun _ h => by cases h) fnGetSetUint_row_tie rfl ⟨rfl, rfl⟩ (by kernel_rfl) rfl
    (fun f fn hf hfn => by
      obtain rfl : f = 5 := Option.some.inj ((show Tryd.prog.funcNamed "given.example/pub-saddlebag/laws.FnGetSetUint" = some 5 by kernel_rfl).symm.trans hf) |>.symm
      obtain rfl : fn = Tryd.f5 := (Option.some.inj (Tryd.func5.symm.trans hfn)).symm
      exact ⟨by kernel_rfl, fun j t ht => by
        rw [Tryd.params5] at ht
        have h3 : ∀ x ∈ [47, 22, 28], Tryd.prog.wantsStandIn x = false := by
          simp only [List.mem_cons, List.not_mem_nil, or_false, forall_eq, forall_eq_or_imp]
          exact ⟨by kernel_rfl, by kernel_rfl, by kernel_rfl⟩
        refine h3 t ?_
        have hj := List.mem_of_getElem? (by simpa using ht : [47, 22, 28][j]? = some t)
        exact hj⟩)
    (by kernel_rfl)
#print axioms carded
end Go.Proofs.YtbngkfdfjpbajaaDoor.fnGetSetUint
