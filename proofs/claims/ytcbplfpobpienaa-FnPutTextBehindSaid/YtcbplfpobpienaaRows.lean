/-
  No cell of these rows narrows 'for every input' (looked for: loops, veiled, ifaces, maps, wideKeys, modest, calm, conditions, laid).
  DERIVED. THE GIVEN ROWS OF THIS SEAT. 6 by the template 'for every input the law returns true; each argument reads behind the call as it read before'; 0 by the template 'total and deterministic' (their statements: YtcbplfpobpienaaTotals.lean).
  GIVEN WITH THE SEED: the statements are not yours to turn. If you find one false, say at which input.
  Laid BY PROGRAM, IN A SANDBOX (cutbox-rows.mjs): the forced cells as the released guide's own fill.sh prints them over the translation 571ee55c8728011d… (all of the seat's roots in one cut). By AI agents, Wed Nov 11 2026. No macro, syntax, notation, axiom, sorry.
-/
import Derived.Test.YtcbplfpobpienaaChecked
import GoSem.Claim
import GoSem.ClaimJoined
import GoSem.ClaimMapViews
import Derived.JoinedTies
import Derived.KernelRfl
namespace Go.Proofs.Ytcbplfpobpienaa
/- THE CELL 'sum', in the pinned program and in every row, IS THE sha256 OF THE DUMP (.gsa) THAT YtcbplfpobpienaaProg.lean LOADS. Nothing in Lean hashes anything: it is a label: what it is worth is what the hold of that sum in a sandbox is worth. -/
noncomputable def Try.pinned : Pinned := { name := "ytcbplfpobpienaa", sum := "571ee55c8728011de98d6a94b7207e1f68e4e2ab5dfd071397ace5af5a95c7d1", checked := Try.checked }
namespace Rows
def none {H : Type} : Left H := { results := [], args := [] }

/-- 'laws.FnPutNil': WHATEVER THE INPUT: true; the input reads as it did. -/
def fnPutNilSpec : ChangeSpec := { name := "fnPutNil", fn := fun _ => fun
  | [d] => { results := [.lit (.bool true)], args := [d] }
  | _ => none }
def fnPutNilRow : OpenClaim := { program := "ytcbplfpobpienaa", sum := "571ee55c8728011de98d6a94b7207e1f68e4e2ab5dfd071397ace5af5a95c7d1", func := "given.example/pub-saddlebag/laws.FnPutNil", spec := "fnPutNil", recurses := true, apart := false }
def FnPutNilSaid : Prop := fnPutNilRow.holds Try.pinned (OpenSpec.ofChange fnPutNilSpec)

/-- ITS FALSE NEIGHBOUR: 'it returns false'. Refute it at one input. -/
def fnPutNilWrong : ChangeSpec := { name := "fnPutNil", fn := fun _ => fun
  | [d] => { results := [.lit (.bool false)], args := [d] }
  | _ => none }
def FnPutNilWrongFalsely : Prop := fnPutNilRow.holds Try.pinned (OpenSpec.ofChange fnPutNilWrong)

/-- 'laws.FnPutTextBehind': WHATEVER THE INPUT: true; the input reads as it did. -/
def fnPutTextBehindSpec : ChangeSpec := { name := "fnPutTextBehind", fn := fun _ => fun
  | [d1, d2] => { results := [.lit (.bool true)], args := [d1, d2] }
  | _ => none }
def fnPutTextBehindRow : OpenClaim := { program := "ytcbplfpobpienaa", sum := "571ee55c8728011de98d6a94b7207e1f68e4e2ab5dfd071397ace5af5a95c7d1", func := "given.example/pub-saddlebag/laws.FnPutTextBehind", spec := "fnPutTextBehind", recurses := true, apart := false }
def FnPutTextBehindSaid : Prop := fnPutTextBehindRow.holds Try.pinned (OpenSpec.ofChange fnPutTextBehindSpec)

/-- ITS FALSE NEIGHBOUR: 'it returns false'. Refute it at one input. -/
def fnPutTextBehindWrong : ChangeSpec := { name := "fnPutTextBehind", fn := fun _ => fun
  | [d1, d2] => { results := [.lit (.bool false)], args := [d1, d2] }
  | _ => none }
def FnPutTextBehindWrongFalsely : Prop := fnPutTextBehindRow.holds Try.pinned (OpenSpec.ofChange fnPutTextBehindWrong)

/-- 'laws.FnPutMapHead': WHATEVER THE INPUT: true; the input reads as it did. -/
def fnPutMapHeadSpec : ChangeSpec := { name := "fnPutMapHead", fn := fun _ => fun
  | [d1, d2] => { results := [.lit (.bool true)], args := [d1, d2] }
  | _ => none }
def fnPutMapHeadRow : OpenClaim := { program := "ytcbplfpobpienaa", sum := "571ee55c8728011de98d6a94b7207e1f68e4e2ab5dfd071397ace5af5a95c7d1", func := "given.example/pub-saddlebag/laws.FnPutMapHead", spec := "fnPutMapHead", apart := false }
def FnPutMapHeadSaid : Prop := fnPutMapHeadRow.holds Try.pinned (OpenSpec.ofChange fnPutMapHeadSpec)

/-- ITS FALSE NEIGHBOUR: 'it returns false'. Refute it at one input. -/
def fnPutMapHeadWrong : ChangeSpec := { name := "fnPutMapHead", fn := fun _ => fun
  | [d1, d2] => { results := [.lit (.bool false)], args := [d1, d2] }
  | _ => none }
def FnPutMapHeadWrongFalsely : Prop := fnPutMapHeadRow.holds Try.pinned (OpenSpec.ofChange fnPutMapHeadWrong)

/-- 'laws.FnPutText': WHATEVER THE INPUT: true; the input reads as it did. -/
def fnPutTextSpec : ChangeSpec := { name := "fnPutText", fn := fun _ => fun
  | [d1, d2] => { results := [.lit (.bool true)], args := [d1, d2] }
  | _ => none }
def fnPutTextRow : OpenClaim := { program := "ytcbplfpobpienaa", sum := "571ee55c8728011de98d6a94b7207e1f68e4e2ab5dfd071397ace5af5a95c7d1", func := "given.example/pub-saddlebag/laws.FnPutText", spec := "fnPutText", recurses := true, apart := false }
def FnPutTextSaid : Prop := fnPutTextRow.holds Try.pinned (OpenSpec.ofChange fnPutTextSpec)

/-- ITS FALSE NEIGHBOUR: 'it returns false'. Refute it at one input. -/
def fnPutTextWrong : ChangeSpec := { name := "fnPutText", fn := fun _ => fun
  | [d1, d2] => { results := [.lit (.bool false)], args := [d1, d2] }
  | _ => none }
def FnPutTextWrongFalsely : Prop := fnPutTextRow.holds Try.pinned (OpenSpec.ofChange fnPutTextWrong)

/-- 'laws.FnPutUint16': WHATEVER THE INPUT: true; the input reads as it did. -/
def fnPutUint16Spec : ChangeSpec := { name := "fnPutUint16", fn := fun _ => fun
  | [d1, d2] => { results := [.lit (.bool true)], args := [d1, d2] }
  | _ => none }
def fnPutUint16Row : OpenClaim := { program := "ytcbplfpobpienaa", sum := "571ee55c8728011de98d6a94b7207e1f68e4e2ab5dfd071397ace5af5a95c7d1", func := "given.example/pub-saddlebag/laws.FnPutUint16", spec := "fnPutUint16", recurses := true, apart := false }
def FnPutUint16Said : Prop := fnPutUint16Row.holds Try.pinned (OpenSpec.ofChange fnPutUint16Spec)

/-- ITS FALSE NEIGHBOUR: 'it returns false'. Refute it at one input. -/
def fnPutUint16Wrong : ChangeSpec := { name := "fnPutUint16", fn := fun _ => fun
  | [d1, d2] => { results := [.lit (.bool false)], args := [d1, d2] }
  | _ => none }
def FnPutUint16WrongFalsely : Prop := fnPutUint16Row.holds Try.pinned (OpenSpec.ofChange fnPutUint16Wrong)

/-- 'laws.FnPutInt16': WHATEVER THE INPUT: true; the input reads as it did. -/
def fnPutInt16Spec : ChangeSpec := { name := "fnPutInt16", fn := fun _ => fun
  | [d1, d2] => { results := [.lit (.bool true)], args := [d1, d2] }
  | _ => none }
def fnPutInt16Row : OpenClaim := { program := "ytcbplfpobpienaa", sum := "571ee55c8728011de98d6a94b7207e1f68e4e2ab5dfd071397ace5af5a95c7d1", func := "given.example/pub-saddlebag/laws.FnPutInt16", spec := "fnPutInt16", recurses := true, apart := false }
def FnPutInt16Said : Prop := fnPutInt16Row.holds Try.pinned (OpenSpec.ofChange fnPutInt16Spec)

/-- ITS FALSE NEIGHBOUR: 'it returns false'. Refute it at one input. -/
def fnPutInt16Wrong : ChangeSpec := { name := "fnPutInt16", fn := fun _ => fun
  | [d1, d2] => { results := [.lit (.bool false)], args := [d1, d2] }
  | _ => none }
def FnPutInt16WrongFalsely : Prop := fnPutInt16Row.holds Try.pinned (OpenSpec.ofChange fnPutInt16Wrong)

/- THE SECOND FORM. 'bulk': how many values and letters a reading holds, each counted each time it is reached (what is shared counts as often as it is met; a slice's spare places count too). A statement '..UptoSaid' is the law's where the arguments, and the package variables that the reading takes, are together of bulk at most 1048576: NARROWER than '..Said'. Prove '..Said' where nothing that the law and all that it calls make is longer than what came in: it says more and counts as full. Else prove '..UptoSaid'. A law counts once. -/
mutual
def uptoBulk {H : Type} : DataW H → Nat
  | .lit (.string bytes) => bytes.length + 1
  | .lit _ => 1
  | .nil => 1
  | .ptr d => uptoBulk d + 1
  | .slice elems spare => uptoBulkAll elems + uptoBulkAll spare + 1
  | .agg parts => uptoBulkAll parts + 1
  | .iface _ d => uptoBulk d + 1
  | .map entries => uptoBulkEntries entries + 1
  | .held _ => 1
def uptoBulkAll {H : Type} : List (DataW H) → Nat
  | [] => 0
  | d :: r => uptoBulk d + uptoBulkAll r
def uptoBulkEntries {H : Type} : List (Lit × DataW H) → Nat
  | [] => 0
  | x :: r => uptoBulkEntry x + uptoBulkEntries r
def uptoBulkEntry {H : Type} : Lit × DataW H → Nat
  | (.string bytes, d) => bytes.length + uptoBulk d + 1
  | (_, d) => uptoBulk d + 1
 end
def uptoSmall : (H : Type) → List (DataW H) → Bool := fun _ ds => decide (uptoBulkAll ds ≤ 1048576)
def OpenSpec.upto (s : _root_.Go.ChangeSpec) : _root_.Go.OpenSpec := { _root_.Go.OpenSpec.ofChange s with cond := some uptoSmall }

/-- 'laws.FnPutNil', WHERE WHAT IT READS IS OF BULK AT MOST 1048576: true; the input reads as it did. -/
def fnPutNilUptoRow : OpenClaim := { program := "ytcbplfpobpienaa", sum := "571ee55c8728011de98d6a94b7207e1f68e4e2ab5dfd071397ace5af5a95c7d1", func := "given.example/pub-saddlebag/laws.FnPutNil", spec := "fnPutNil", recurses := true, apart := false, narrowed := true }
def FnPutNilUptoSaid : Prop := fnPutNilUptoRow.holds Try.pinned (OpenSpec.upto fnPutNilSpec)

/-- 'laws.FnPutTextBehind', WHERE WHAT IT READS IS OF BULK AT MOST 1048576: true; the input reads as it did. -/
def fnPutTextBehindUptoRow : OpenClaim := { program := "ytcbplfpobpienaa", sum := "571ee55c8728011de98d6a94b7207e1f68e4e2ab5dfd071397ace5af5a95c7d1", func := "given.example/pub-saddlebag/laws.FnPutTextBehind", spec := "fnPutTextBehind", recurses := true, apart := false, narrowed := true }
def FnPutTextBehindUptoSaid : Prop := fnPutTextBehindUptoRow.holds Try.pinned (OpenSpec.upto fnPutTextBehindSpec)

/-- 'laws.FnPutMapHead', WHERE WHAT IT READS IS OF BULK AT MOST 1048576: true; the input reads as it did. -/
def fnPutMapHeadUptoRow : OpenClaim := { program := "ytcbplfpobpienaa", sum := "571ee55c8728011de98d6a94b7207e1f68e4e2ab5dfd071397ace5af5a95c7d1", func := "given.example/pub-saddlebag/laws.FnPutMapHead", spec := "fnPutMapHead", apart := false, narrowed := true }
def FnPutMapHeadUptoSaid : Prop := fnPutMapHeadUptoRow.holds Try.pinned (OpenSpec.upto fnPutMapHeadSpec)

/-- 'laws.FnPutText', WHERE WHAT IT READS IS OF BULK AT MOST 1048576: true; the input reads as it did. -/
def fnPutTextUptoRow : OpenClaim := { program := "ytcbplfpobpienaa", sum := "571ee55c8728011de98d6a94b7207e1f68e4e2ab5dfd071397ace5af5a95c7d1", func := "given.example/pub-saddlebag/laws.FnPutText", spec := "fnPutText", recurses := true, apart := false, narrowed := true }
def FnPutTextUptoSaid : Prop := fnPutTextUptoRow.holds Try.pinned (OpenSpec.upto fnPutTextSpec)

/-- 'laws.FnPutUint16', WHERE WHAT IT READS IS OF BULK AT MOST 1048576: true; the input reads as it did. -/
def fnPutUint16UptoRow : OpenClaim := { program := "ytcbplfpobpienaa", sum := "571ee55c8728011de98d6a94b7207e1f68e4e2ab5dfd071397ace5af5a95c7d1", func := "given.example/pub-saddlebag/laws.FnPutUint16", spec := "fnPutUint16", recurses := true, apart := false, narrowed := true }
def FnPutUint16UptoSaid : Prop := fnPutUint16UptoRow.holds Try.pinned (OpenSpec.upto fnPutUint16Spec)

/-- 'laws.FnPutInt16', WHERE WHAT IT READS IS OF BULK AT MOST 1048576: true; the input reads as it did. -/
def fnPutInt16UptoRow : OpenClaim := { program := "ytcbplfpobpienaa", sum := "571ee55c8728011de98d6a94b7207e1f68e4e2ab5dfd071397ace5af5a95c7d1", func := "given.example/pub-saddlebag/laws.FnPutInt16", spec := "fnPutInt16", recurses := true, apart := false, narrowed := true }
def FnPutInt16UptoSaid : Prop := fnPutInt16UptoRow.holds Try.pinned (OpenSpec.upto fnPutInt16Spec)

end Rows
end Go.Proofs.Ytcbplfpobpienaa
