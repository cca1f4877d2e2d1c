/-
  NARROWER THAN 'FOR EVERY INPUT', by the rows' own cells (each row's printed sentence says how): FnStreamPutExt: loops.
  DERIVED. THE GIVEN ROWS OF THIS SEAT. 4 by the template 'for every input the law returns true; each argument reads behind the call as it read before'; 0 by the template 'total and deterministic' (their statements: YtliaiaefhbgblaaTotals.lean).
  GIVEN WITH THE SEED: the statements are not yours to turn. If you find one false, say at which input.
  Laid BY PROGRAM, IN A SANDBOX (cutbox-rows.mjs): the forced cells as the released guide's own fill.sh prints them over the translation 0abfaa88cd3b6454… (all of the seat's roots in one cut). By AI agents, Wed Nov 11 2026. No macro, syntax, notation, axiom, sorry.
-/
import Derived.Test.YtliaiaefhbgblaaChecked
import GoSem.Claim
import GoSem.ClaimJoined
import GoSem.ClaimMapViews
import Derived.JoinedTies
import Derived.KernelRfl
namespace Go.Proofs.Ytliaiaefhbgblaa
/- THE CELL 'sum', in the pinned program and in every row, IS THE sha256 OF THE DUMP (.gsa) THAT YtliaiaefhbgblaaProg.lean LOADS. Nothing in Lean hashes anything: it is a label: what it is worth is what the hold of that sum in a sandbox is worth. -/
noncomputable def Try.pinned : Pinned := { name := "ytliaiaefhbgblaa", sum := "0abfaa88cd3b6454d7b1cb8b8b8ca0c4d8817f57bb841a6f96c6e019b31eb280", checked := Try.checked }
namespace Rows
def none {H : Type} : Left H := { results := [], args := [] }

/-- 'laws.FnStreamPutUint64': WHATEVER THE INPUT: true; the input reads as it did. -/
def fnStreamPutUint64Spec : ChangeSpec := { name := "fnStreamPutUint64", fn := fun _ => fun
  | [d1, d2] => { results := [.lit (.bool true)], args := [d1, d2] }
  | _ => none }
def fnStreamPutUint64Row : OpenClaim := { program := "ytliaiaefhbgblaa", sum := "0abfaa88cd3b6454d7b1cb8b8b8ca0c4d8817f57bb841a6f96c6e019b31eb280", func := "given.example/pub-saddlebag/laws.FnStreamPutUint64", spec := "fnStreamPutUint64", unfollowed := true, recurses := true, apart := false }
def FnStreamPutUint64Said : Prop := fnStreamPutUint64Row.holds Try.pinned (OpenSpec.ofChange fnStreamPutUint64Spec)

/-- ITS FALSE NEIGHBOUR: 'it returns false'. Refute it at one input. -/
def fnStreamPutUint64Wrong : ChangeSpec := { name := "fnStreamPutUint64", fn := fun _ => fun
  | [d1, d2] => { results := [.lit (.bool false)], args := [d1, d2] }
  | _ => none }
def FnStreamPutUint64WrongFalsely : Prop := fnStreamPutUint64Row.holds Try.pinned (OpenSpec.ofChange fnStreamPutUint64Wrong)

/-- 'laws.FnStreamPutByte': WHATEVER THE INPUT: true; the input reads as it did. -/
def fnStreamPutByteSpec : ChangeSpec := { name := "fnStreamPutByte", fn := fun _ => fun
  | [d1, d2] => { results := [.lit (.bool true)], args := [d1, d2] }
  | _ => none }
def fnStreamPutByteRow : OpenClaim := { program := "ytliaiaefhbgblaa", sum := "0abfaa88cd3b6454d7b1cb8b8b8ca0c4d8817f57bb841a6f96c6e019b31eb280", func := "given.example/pub-saddlebag/laws.FnStreamPutByte", spec := "fnStreamPutByte", unfollowed := true, recurses := true, apart := false }
def FnStreamPutByteSaid : Prop := fnStreamPutByteRow.holds Try.pinned (OpenSpec.ofChange fnStreamPutByteSpec)

/-- ITS FALSE NEIGHBOUR: 'it returns false'. Refute it at one input. -/
def fnStreamPutByteWrong : ChangeSpec := { name := "fnStreamPutByte", fn := fun _ => fun
  | [d1, d2] => { results := [.lit (.bool false)], args := [d1, d2] }
  | _ => none }
def FnStreamPutByteWrongFalsely : Prop := fnStreamPutByteRow.holds Try.pinned (OpenSpec.ofChange fnStreamPutByteWrong)

/-- 'laws.FnStreamPutInt64': WHATEVER THE INPUT: true; the input reads as it did. -/
def fnStreamPutInt64Spec : ChangeSpec := { name := "fnStreamPutInt64", fn := fun _ => fun
  | [d1, d2] => { results := [.lit (.bool true)], args := [d1, d2] }
  | _ => none }
def fnStreamPutInt64Row : OpenClaim := { program := "ytliaiaefhbgblaa", sum := "0abfaa88cd3b6454d7b1cb8b8b8ca0c4d8817f57bb841a6f96c6e019b31eb280", func := "given.example/pub-saddlebag/laws.FnStreamPutInt64", spec := "fnStreamPutInt64", unfollowed := true, recurses := true, apart := false }
def FnStreamPutInt64Said : Prop := fnStreamPutInt64Row.holds Try.pinned (OpenSpec.ofChange fnStreamPutInt64Spec)

/-- ITS FALSE NEIGHBOUR: 'it returns false'. Refute it at one input. -/
def fnStreamPutInt64Wrong : ChangeSpec := { name := "fnStreamPutInt64", fn := fun _ => fun
  | [d1, d2] => { results := [.lit (.bool false)], args := [d1, d2] }
  | _ => none }
def FnStreamPutInt64WrongFalsely : Prop := fnStreamPutInt64Row.holds Try.pinned (OpenSpec.ofChange fnStreamPutInt64Wrong)

/-- 'laws.FnStreamPutExt': WHATEVER THE INPUT: true; the input reads as it did. -/
def fnStreamPutExtSpec : ChangeSpec := { name := "fnStreamPutExt", fn := fun _ => fun
  | [d1, d2] => { results := [.lit (.bool true)], args := [d1, d2] }
  | _ => none }
def fnStreamPutExtRow : OpenClaim := { program := "ytliaiaefhbgblaa", sum := "0abfaa88cd3b6454d7b1cb8b8b8ca0c4d8817f57bb841a6f96c6e019b31eb280", func := "given.example/pub-saddlebag/laws.FnStreamPutExt", spec := "fnStreamPutExt", unfollowed := true, recurses := true, named := ["encoding/binary.BigEndian"], loops := true, apart := false }
def FnStreamPutExtSaid : Prop := fnStreamPutExtRow.holds Try.pinned (OpenSpec.ofChange fnStreamPutExtSpec)

/-- ITS FALSE NEIGHBOUR: 'it returns false'. Refute it at one input. -/
def fnStreamPutExtWrong : ChangeSpec := { name := "fnStreamPutExt", fn := fun _ => fun
  | [d1, d2] => { results := [.lit (.bool false)], args := [d1, d2] }
  | _ => none }
def FnStreamPutExtWrongFalsely : Prop := fnStreamPutExtRow.holds Try.pinned (OpenSpec.ofChange fnStreamPutExtWrong)

/- THE SECOND FORM. 'bulk': how many values and letters a reading holds, each counted each time it is reached (what is shared counts as often as it is met; a slice's spare places count too). A statement '..UptoSaid' is the law's where the arguments, and the package variables that the reading takes, are together of bulk at most 1048576: NARROWER than '..Said'. Prove '..Said' where nothing that the law and all that it calls make is longer than what came in: it says more and counts as full. Else prove '..UptoSaid'. A law counts once. -/
mutual
def uptoBulk {H : Type} : DataW H → Nat
  | .lit (.string bytes) => bytes.length + 1
  | .lit _ => 1
  | .nil => 1
  | .ptr d => uptoBulk d + 1
  | .slice elems spare => uptoBulkAll elems + uptoBulkAll spare + 1
  | .agg parts => uptoBulkAll parts + 1
  | .iface _ d => uptoBulk d + 1
  | .map entries => uptoBulkEntries entries + 1
  | .held _ => 1
def uptoBulkAll {H : Type} : List (DataW H) → Nat
  | [] => 0
  | d :: r => uptoBulk d + uptoBulkAll r
def uptoBulkEntries {H : Type} : List (Lit × DataW H) → Nat
  | [] => 0
  | x :: r => uptoBulkEntry x + uptoBulkEntries r
def uptoBulkEntry {H : Type} : Lit × DataW H → Nat
  | (.string bytes, d) => bytes.length + uptoBulk d + 1
  | (_, d) => uptoBulk d + 1
 end
def uptoSmall : (H : Type) → List (DataW H) → Bool := fun _ ds => decide (uptoBulkAll ds ≤ 1048576)
def OpenSpec.upto (s : _root_.Go.ChangeSpec) : _root_.Go.OpenSpec := { _root_.Go.OpenSpec.ofChange s with cond := some uptoSmall }

/-- 'laws.FnStreamPutUint64', WHERE WHAT IT READS IS OF BULK AT MOST 1048576: true; the input reads as it did. -/
def fnStreamPutUint64UptoRow : OpenClaim := { program := "ytliaiaefhbgblaa", sum := "0abfaa88cd3b6454d7b1cb8b8b8ca0c4d8817f57bb841a6f96c6e019b31eb280", func := "given.example/pub-saddlebag/laws.FnStreamPutUint64", spec := "fnStreamPutUint64", unfollowed := true, recurses := true, apart := false, narrowed := true }
def FnStreamPutUint64UptoSaid : Prop := fnStreamPutUint64UptoRow.holds Try.pinned (OpenSpec.upto fnStreamPutUint64Spec)

/-- 'laws.FnStreamPutByte', WHERE WHAT IT READS IS OF BULK AT MOST 1048576: true; the input reads as it did. -/
def fnStreamPutByteUptoRow : OpenClaim := { program := "ytliaiaefhbgblaa", sum := "0abfaa88cd3b6454d7b1cb8b8b8ca0c4d8817f57bb841a6f96c6e019b31eb280", func := "given.example/pub-saddlebag/laws.FnStreamPutByte", spec := "fnStreamPutByte", unfollowed := true, recurses := true, apart := false, narrowed := true }
def FnStreamPutByteUptoSaid : Prop := fnStreamPutByteUptoRow.holds Try.pinned (OpenSpec.upto fnStreamPutByteSpec)

/-- 'laws.FnStreamPutInt64', WHERE WHAT IT READS IS OF BULK AT MOST 1048576: true; the input reads as it did. -/
def fnStreamPutInt64UptoRow : OpenClaim := { program := "ytliaiaefhbgblaa", sum := "0abfaa88cd3b6454d7b1cb8b8b8ca0c4d8817f57bb841a6f96c6e019b31eb280", func := "given.example/pub-saddlebag/laws.FnStreamPutInt64", spec := "fnStreamPutInt64", unfollowed := true, recurses := true, apart := false, narrowed := true }
def FnStreamPutInt64UptoSaid : Prop := fnStreamPutInt64UptoRow.holds Try.pinned (OpenSpec.upto fnStreamPutInt64Spec)

/-- 'laws.FnStreamPutExt', WHERE WHAT IT READS IS OF BULK AT MOST 1048576: true; the input reads as it did. -/
def fnStreamPutExtUptoRow : OpenClaim := { program := "ytliaiaefhbgblaa", sum := "0abfaa88cd3b6454d7b1cb8b8b8ca0c4d8817f57bb841a6f96c6e019b31eb280", func := "given.example/pub-saddlebag/laws.FnStreamPutExt", spec := "fnStreamPutExt", unfollowed := true, recurses := true, named := ["encoding/binary.BigEndian"], loops := true, apart := false, narrowed := true }
def FnStreamPutExtUptoSaid : Prop := fnStreamPutExtUptoRow.holds Try.pinned (OpenSpec.upto fnStreamPutExtSpec)

end Rows
end Go.Proofs.Ytliaiaefhbgblaa
