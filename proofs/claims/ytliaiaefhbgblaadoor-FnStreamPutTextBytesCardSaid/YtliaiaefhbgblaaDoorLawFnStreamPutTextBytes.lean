/- For every input the law FnStreamPutTextBytes returns true, and each argument reads afterwards as it read before; the variables that the row lists are tied to the program's text by the given tie. No condition of mine. (The frame is the guide's skeleton, written by a program of this claim; the walk is YtliaiaefhbgblaaDoorFnStreamPutTextBytes.) -/
import Derived.Test.YtliaiaefhbgblaaDoorRows
import Derived.WalkKit
import Derived.ChangeVars
import Derived.JoinedOf
import Derived.RowKit
import Derived.LaidLaws
import Derived.SevenTiedAt
import Derived.Below
import Derived.ChangeOld
import Derived.Handed
import Derived.Test.YtliaiaefhbgblaaDoorLaidL
import Derived.Test.YtliaiaefhbgblaaDoorCards
import Derived.Test.YtliaiaefhbgblaaDoorTie
import Derived.Test.YtliaiaefhbgblaaDoorFnStreamPutTextBytes
import Derived.ProofKit
import Derived.OpenShut
import Derived.ShutString
import Derived.SliceStrings
namespace Go.Proofs.YtliaiaefhbgblaaDoor.fnStreamPutTextBytes
open Go.ChangeShapes Go.WideShapes Go.ChangeAt Go.RowKit 
open Go.ChangeMaps (open_string shut_string)
set_option linter.unusedVariables false
set_option linter.unusedSimpArgs false

theorem own : ownKnob Tryd.prog.godebug = none := by kernel_rfl
theorem laidOut : laidOutB Tryd.prog = true := by kernel_rfl

set_option maxRecDepth 100000 in
set_option maxHeartbeats 1000000 in
theorem lifted (os : Os) (started : os.Started) (H : Type) (enc : TypeId × Value → H) :
    ReturnsInHanded {} Tryd.checked os 4 .any (fun w args => (Rows.fnStreamPutTextBytesSpec.pre enc Tryd.prog Tryd.f4 [] false w args ∧ laidMet Tryd.prog laidOf w) ∧ sizedMet enc Tryd.prog Tryd.f4 (OpenSpec.ofChange Rows.fnStreamPutTextBytesSpec) false w args) (Rows.fnStreamPutTextBytesSpec.post enc Tryd.prog Tryd.f4 false true false false) := by
  refine returnsInHanded_of_change_and (C := Tryd.checked) (X := fun w _ => laidMet Tryd.prog laidOf w) (fun _ _ _ hh h => h.of_heap hh) own started (by kernel_rfl) Tryd.func4
    (ChangeSpec.witness_at (enc := enc) (C := Tryd.checked) (os := os) (X := fun w _ => laidMet Tryd.prog laidOf w) false (laidWorld os) #[.int .i64 0, .slice none 0 0] 8 rfl (by kernel_rfl) (by kernel_rfl) (by kernel_rfl) (by kernel_rfl) (by kernel_rfl) (laidWorld_met os _)) ?_
  intro W base args ds gs before hval0 hW hcnd _ hL hsz
  have hval : ∀ (j : Nat) t v, Tryd.f4.params[j]? = some t → args[j]? = some v → Value.okWide Tryd.prog W .any base t v := hval0
  have hW' := hW
  obtain ⟨p, q, hA0, hV, rfl, hfz, hnd⟩ := hW
  have hA : DataW.TrodAll enc Tryd.prog W 0 (fun _ => true) true Tryd.f4.params.toList args.toList ds p := hA0
  rw [Tryd.params4] at hA hval
  obtain ⟨v0, vs0, d0, ds0, p0, q0, hargs, rfl, rfl, h0, r0⟩ := trodAll_cons hA
  obtain ⟨v1, vs1, d1, ds1, p1, q1, rfl, rfl, rfl, h1, r1⟩ := trodAll_cons r0
  obtain ⟨rfl, rfl, rfl⟩ := trodAll_nil r1
  obtain rfl : args = #[v0, v1] := by cases args; simp_all
  obtain ⟨eu, ev, hev, hgl⟩ := err_of_laid hL
  have hV2 : DataW.TrodVars enc Tryd.prog W (fun _ => true) [errVar] gs q := hV
  obtain ⟨rfl, rfl⟩ := hV2.unique (vars_read1 enc gE gEType Tryd.underlying55 hev trivial _)
  have k0 := h0
  have lt0 : ∀ x ∈ p0, x.block < W.heap.size := by obtain ⟨m, hm⟩ := k0; exact DataW.trod_lt m _ _ _ hm
  have ok0 := hval 0 3 v0 rfl rfl
  have k1 := h1
  have lt1 : ∀ x ∈ p1, x.block < W.heap.size := by obtain ⟨m, hm⟩ := k1; exact DataW.trod_lt m _ _ _ hm
  have ok1 := hval 1 35 v1 rfl rfl
  clear hA0 hval0
  obtain ⟨x0, rfl, rfl, rfl, wk0⟩ := open_int Tryd.underlying3 ok0 h0
  obtain ⟨a1, len1, cap1, rfl⟩ := okWide_slice Tryd.underlying35 ok1
  obtain ⟨ts1, w1, e1, s1, m1⟩ : ∃ ts : List ByteArray, Rd W a1 (ts.map Value.string) ∧ ts.length = len1 ∧ (∀ t ∈ ts, t.size ≤ 9223372036854775807) ∧ ts.length ≤ 9223372036854775807 := by
    obtain ⟨fuel, hf⟩ := h1
    rcases open_strings Tryd.underlying35 Tryd.underlying9 (by kernel_rfl) hf with ⟨hcs, _⟩ | ⟨x, l, c, ss, hcs, _, hl, hm, hss, _, hcell, hwz⟩
    · simp [Value.cells] at hcs
      obtain ⟨rfl, rfl, rfl⟩ := hcs
      exact ⟨[], .inl rfl, rfl, by simp, by simp⟩
    · simp [Value.cells] at hcs
      obtain ⟨rfl, rfl, rfl⟩ := hcs
      simp only [if_true] at hss
      unfold maxLen at hm hwz
      exact ⟨ss.take len1, rd_strs (by omega) hcell, by rw [List.length_take]; omega, fun t ht => hwz t (List.mem_of_mem_take ht), by rw [List.length_take]; omega⟩
  subst e1
  refine (fnStreamPutTextBytes_walk x0 a1 cap1 ts1 W w1 s1 m1).mono fun e W' ⟨he, bel⟩ => ?_
  subst he
  exact ⟨_, rfl, _, _, _, [], _, [.cell 1 0], hW', trodAll_mk1 (shut_bool Tryd.underlying4 _), (trodAll_cons_mk (shut_int Tryd.underlying3 wk0) (trodAll_cons_mk (Below.trod laidOut (by kernel_rfl) (of_decide_eq_true (by kernel_rfl)) k1 bel lt1) trodAll_mk0)), vars_read1 enc gE gEType Tryd.underlying55 (var?_below bel gE (World.block_lt_of_cell? _ _ hgl) hev) trivial _, bel.frame _, fun h => by cases h⟩

theorem over : Rows.fnStreamPutTextBytesRow.holds Tryd.pinned (OpenSpec.ofChange Rows.fnStreamPutTextBytesSpec) :=
  OpenClaim.holds_of_wide 4 Tryd.f4 rfl rfl rfl rfl rfl rfl rfl ⟨rfl, rfl, rfl, rfl, rfl⟩ rfl rfl rfl rfl rfl (by kernel_rfl) Tryd.func4 (by kernel_rfl)
    (of_decide_eq_true (by kernel_rfl)) (by unfold Func.isWrapper; first | (rw [if_pos (by decide +kernel)]; kernel_rfl) | (rw [if_neg (by decide +kernel)]; exact ⟨rfl, rfl⟩))
    (fun os started H enc _ => lifted os started H enc)

theorem proved : Rows.FnStreamPutTextBytesSaid := over
theorem carded : Rows.FnStreamPutTextBytesCardSaid :=
  Claim7.holds_tied_plain_at .later [] [.wider] true (true, "73968ac30d7d5b8b9bde1b1234cbb0dc47533a718968c73ee6f80baa9a31df05") false
    proved (fun _ h => by cases h) (by kernel_rfl) (fun _ h => by cases h) fnStreamPutTextBytes_row_tie rfl ⟨rfl, rfl⟩ (by kernel_rfl) rfl
    (fun f fn hf hfn => by
      obtain rfl : f = 4 := Option.some.inj ((show Tryd.prog.funcNamed "given.example/pub-saddlebag/laws.FnStreamPutTextBytes" = some 4 by kernel_rfl).symm.trans hf) |>.symm
      obtain rfl : fn = Tryd.f4 := (Option.some.inj (Tryd.func4.symm.trans hfn)).symm
      exact ⟨by kernel_rfl, fun j t ht => by
        rw [Tryd.params4] at ht
        have h3 : ∀ x ∈ [3, 35], Tryd.prog.wantsStandIn x = false := by
          simp only [List.mem_cons, List.not_mem_nil, or_false, forall_eq, forall_eq_or_imp]
          exact ⟨by kernel_rfl, by kernel_rfl⟩
        refine h3 t ?_
        have hj := List.mem_of_getElem? (by simpa using ht : [3, 35][j]? = some t)
        exact hj⟩)
    (by kernel_rfl)
#print axioms carded
end Go.Proofs.YtliaiaefhbgblaaDoor.fnStreamPutTextBytes
