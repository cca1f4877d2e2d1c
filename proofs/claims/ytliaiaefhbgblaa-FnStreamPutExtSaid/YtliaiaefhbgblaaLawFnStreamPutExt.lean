/- For every input the law FnStreamPutExt returns true, and each argument reads afterwards as it read before. No condition of mine. (The frame is the guide's skeleton, written by a program of this claim; the walk is YtliaiaefhbgblaaFnStreamPutExt.) -/
import Derived.Test.YtliaiaefhbgblaaRows
import Derived.WalkKit
import Derived.Test.YtliaiaefhbgblaaFnStreamPutExt
import Derived.ProofKit
import Derived.OpenShut
import Derived.ShutString
import Derived.ChangeOld
import Derived.Below
namespace Go.Proofs.Ytliaiaefhbgblaa.fnStreamPutExt
open Go.ChangeShapes Go.WideShapes Go.ChangeAt Go.RowKit 
open Go.ChangeMaps (open_string shut_string)
set_option linter.unusedVariables false
set_option linter.unusedSimpArgs false

theorem own : ownKnob Try.prog.godebug = none := by kernel_rfl
theorem laidOut : laidOutB Try.prog = true := by kernel_rfl

set_option maxRecDepth 100000 in
set_option maxHeartbeats 1000000 in
theorem lifted (os : Os) (started : os.Started) (H : Type) (enc : TypeId × Value → H) :
    ReturnsInHanded {} Try.checked os 6 .any (Rows.fnStreamPutExtSpec.pre6 enc Try.prog Try.f6 Rows.fnStreamPutExtRow.domain false) (Rows.fnStreamPutExtSpec.post enc Try.prog Try.f6 false true false false) := by
  refine returnsInHanded_of_change (C := Try.checked) own started (by kernel_rfl) Try.func6
    (ChangeSpec.witness6 (enc := enc) (C := Try.checked) false ⟨#[], #[.int .i64 0, .slice none 0 0], []⟩ 8 (by kernel_rfl) (by kernel_rfl) (by kernel_rfl) (by kernel_rfl)) ?_
  intro W base args ds gs before hval0 hW hcnd _
  have hval : ∀ (j : Nat) t v, Try.f6.params[j]? = some t → args[j]? = some v → Value.okWide Try.prog W .any base t v := hval0
  have hW' := hW
  obtain ⟨p, q, hA0, hV, rfl, hfz, hnd⟩ := hW
  have hA : DataW.TrodAll enc Try.prog W 0 (fun _ => true) true Try.f6.params.toList args.toList ds p := hA0
  rw [Try.params6] at hA hval
  obtain ⟨v0, vs0, d0, ds0, p0, q0, hargs, rfl, rfl, h0, r0⟩ := trodAll_cons hA
  obtain ⟨v1, vs1, d1, ds1, p1, q1, rfl, rfl, rfl, h1, r1⟩ := trodAll_cons r0
  obtain ⟨rfl, rfl, rfl⟩ := trodAll_nil r1
  obtain rfl : args = #[v0, v1] := by cases args; simp_all
  obtain ⟨rfl, rfl⟩ := trodVars_none hV
  have k0 := h0
  have lt0 : ∀ x ∈ p0, x.block < W.heap.size := by obtain ⟨m, hm⟩ := k0; exact DataW.trod_lt m _ _ _ hm
  have ok0 := hval 0 3 v0 rfl rfl
  have k1 := h1
  have lt1 : ∀ x ∈ p1, x.block < W.heap.size := by obtain ⟨m, hm⟩ := k1; exact DataW.trod_lt m _ _ _ hm
  have ok1 := hval 1 28 v1 rfl rfl
  clear hA0 hval0
  obtain ⟨x0, rfl, rfl, rfl, wk0⟩ := open_int Try.underlying3 ok0 h0
  obtain ⟨a1, len1, cap1, rfl⟩ := okWide_slice Try.underlying28 ok1
  obtain ⟨ps1, ts1, e1, htl1, hr1, hpk1, hsz1⟩ : ∃ (ps : List Px) (ts : List Pk), ps.length = len1 ∧ ts.length = ps.length ∧ Rd W a1 (pxCells ps) ∧ (∀ i (h1 : i < ps.length) (h2 : i < ts.length), PkAt W ts[i] ps[i].val) ∧ (∀ p ∈ ps, p.text.size ≤ 9223372036854775807) := by
    obtain ⟨fuel, hf⟩ := h1
    obtain ⟨a, c, ps, ts, he, g1, g2, g3, g4, _, _⟩ := packs_open (v := .slice a1 len1 cap1) hf
    injection he with e1 e2 e3
    subst e1; subst e2
    exact ⟨ps, ts, rfl, g1, g2, g3, g4⟩
  subst e1
  refine (fnStreamPutExt_walk x0 a1 cap1 ps1 ts1 W htl1 hr1 hpk1 hsz1).mono fun e W' ⟨he, bel⟩ => ?_
  subst he
  exact ⟨_, rfl, _, _, _, [], _, [], hW', trodAll_mk1 (shut_bool Try.underlying4 _), (trodAll_cons_mk (shut_int Try.underlying3 wk0) (trodAll_cons_mk (Below.trod laidOut (by kernel_rfl) (of_decide_eq_true (by kernel_rfl)) k1 bel lt1) trodAll_mk0)), rfl, bel.frame _, fun h => by cases h⟩

theorem over : Rows.fnStreamPutExtRow.holds Try.pinned (OpenSpec.ofChange Rows.fnStreamPutExtSpec) :=
  OpenClaim.holds_of_wide 6 Try.f6 rfl rfl rfl rfl rfl rfl rfl ⟨rfl, rfl, rfl, rfl, rfl⟩ rfl rfl rfl rfl rfl (by kernel_rfl) Try.func6 (by kernel_rfl)
    (of_decide_eq_true (by kernel_rfl)) (by unfold Func.isWrapper; first | (rw [if_pos (by decide +kernel)]; kernel_rfl) | (rw [if_neg (by decide +kernel)]; exact ⟨rfl, rfl⟩))
    (fun os started H enc _ => lifted os started H enc)

theorem proved : Rows.FnStreamPutExtSaid := over
#print axioms proved
end Go.Proofs.Ytliaiaefhbgblaa.fnStreamPutExt
