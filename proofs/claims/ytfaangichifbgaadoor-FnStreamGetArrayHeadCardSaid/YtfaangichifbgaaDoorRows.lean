/-
  NARROWER THAN 'FOR EVERY INPUT', by the rows' own cells (each row's printed sentence says how): FnStreamGetArrayHead: laid · FnStreamGetFloat64: laid · FnStreamGetDuration: laid · FnStreamGetInt8: laid · FnStreamGetUint8: laid.
  DERIVED. THE GIVEN ROWS OF THIS SEAT. 5 by the template 'for every input the law returns true; each argument reads behind the call as it read before'; 0 by the template 'total and deterministic' (their statements: YtfaangichifbgaaDoorTotals.lean).
  GIVEN WITH THE SEED: the statements are not yours to turn. If you find one false, say at which input.
  Laid BY PROGRAM, IN A SANDBOX (cutbox-rows.mjs): the forced cells as the released guide's own fill.sh prints them over the translation bbe7f427a137b4d0… (all of the seat's roots in one cut). By AI agents, Wed Nov 11 2026. No macro, syntax, notation, axiom, sorry.
-/
import Derived.Test.YtfaangichifbgaaDoorChecked
import GoSem.Claim
import GoSem.ClaimJoined
import GoSem.ClaimMapViews
import Derived.JoinedTies
import Derived.KernelRfl
namespace Go.Proofs.YtfaangichifbgaaDoor
/- THE CELL 'sum', in the pinned program and in every row, IS THE sha256 OF THE DUMP (.gsa) THAT YtfaangichifbgaaDoorProg.lean LOADS. Nothing in Lean hashes anything: it is a label: what it is worth is what the hold of that sum in a sandbox is worth. -/
noncomputable def Tryd.pinned : Pinned := { name := "ytfaangichifbgaadoor", sum := "bbe7f427a137b4d078dcda1d73d100cfb0b2f0bb440ed713afc1c5fd0d1f0ab8", checked := Tryd.checked }
namespace Rows
def none {H : Type} : Left H := { results := [], args := [] }

/- WHAT THE LISTED PACKAGE-LEVEL VARIABLES READ AS WHEN THE CALL BEGINS. Each datum BY PROGRAM (the guide's laid-datum.mjs) off the statement by which the dump's own 'gosem.cut.vars' lays the variable. In a bare row this is a premise. The card (YtfaangichifbgaaDoorCards.lean) ties it to the program's text. -/
def laid_io_EOF {H : Type} : DataW H := .iface "*errors.errorString" (.ptr (.agg [.lit (.string [69, 79, 70])]))
def laid_io_ErrUnexpectedEOF {H : Type} : DataW H := .iface "*errors.errorString" (.ptr (.agg [.lit (.string [117, 110, 101, 120, 112, 101, 99, 116, 101, 100, 32, 69, 79, 70])]))

/-- 'laws.FnStreamGetArrayHead': WHATEVER THE INPUT: true; the input reads as it did. -/
def fnStreamGetArrayHeadSpec : ChangeSpec := { name := "fnStreamGetArrayHead", fn := fun _ => fun
  | [d1, d2, d3, d4] => { results := [.lit (.bool true)], args := [d1, d2, d3, d4] }
  | _ => none }
def fnStreamGetArrayHeadRow : OpenClaim := { program := "ytfaangichifbgaadoor", sum := "bbe7f427a137b4d078dcda1d73d100cfb0b2f0bb440ed713afc1c5fd0d1f0ab8", func := "given.example/pub-saddlebag/laws.FnStreamGetArrayHead", spec := "fnStreamGetArrayHead", unfollowed := true, recurses := true, named := ["encoding/binary.BigEndian", "io.EOF", "io.ErrUnexpectedEOF"], apart := false, laid := [("io.EOF", laid_io_EOF), ("io.ErrUnexpectedEOF", laid_io_ErrUnexpectedEOF)] }
def FnStreamGetArrayHeadSaid : Prop := fnStreamGetArrayHeadRow.holds Tryd.pinned (OpenSpec.ofChange fnStreamGetArrayHeadSpec)

/-- ITS FALSE NEIGHBOUR: 'it returns false'. Refute it at one input. -/
def fnStreamGetArrayHeadWrong : ChangeSpec := { name := "fnStreamGetArrayHead", fn := fun _ => fun
  | [d1, d2, d3, d4] => { results := [.lit (.bool false)], args := [d1, d2, d3, d4] }
  | _ => none }
def FnStreamGetArrayHeadWrongFalsely : Prop := fnStreamGetArrayHeadRow.holds Tryd.pinned (OpenSpec.ofChange fnStreamGetArrayHeadWrong)

/-- 'laws.FnStreamGetFloat64': WHATEVER THE INPUT: true; the input reads as it did. -/
def fnStreamGetFloat64Spec : ChangeSpec := { name := "fnStreamGetFloat64", fn := fun _ => fun
  | [d1, d2, d3, d4] => { results := [.lit (.bool true)], args := [d1, d2, d3, d4] }
  | _ => none }
def fnStreamGetFloat64Row : OpenClaim := { program := "ytfaangichifbgaadoor", sum := "bbe7f427a137b4d078dcda1d73d100cfb0b2f0bb440ed713afc1c5fd0d1f0ab8", func := "given.example/pub-saddlebag/laws.FnStreamGetFloat64", spec := "fnStreamGetFloat64", inPlace := ["math.Float32frombits", "math.Float64frombits", "math.Float64bits"], unfollowed := true, recurses := true, named := ["io.EOF", "io.ErrUnexpectedEOF"], apart := false, laid := [("io.EOF", laid_io_EOF), ("io.ErrUnexpectedEOF", laid_io_ErrUnexpectedEOF)] }
def FnStreamGetFloat64Said : Prop := fnStreamGetFloat64Row.holds Tryd.pinned (OpenSpec.ofChange fnStreamGetFloat64Spec)

/-- ITS FALSE NEIGHBOUR: 'it returns false'. Refute it at one input. -/
def fnStreamGetFloat64Wrong : ChangeSpec := { name := "fnStreamGetFloat64", fn := fun _ => fun
  | [d1, d2, d3, d4] => { results := [.lit (.bool false)], args := [d1, d2, d3, d4] }
  | _ => none }
def FnStreamGetFloat64WrongFalsely : Prop := fnStreamGetFloat64Row.holds Tryd.pinned (OpenSpec.ofChange fnStreamGetFloat64Wrong)

/-- 'laws.FnStreamGetDuration': WHATEVER THE INPUT: true; the input reads as it did. -/
def fnStreamGetDurationSpec : ChangeSpec := { name := "fnStreamGetDuration", fn := fun _ => fun
  | [d1, d2, d3, d4] => { results := [.lit (.bool true)], args := [d1, d2, d3, d4] }
  | _ => none }
def fnStreamGetDurationRow : OpenClaim := { program := "ytfaangichifbgaadoor", sum := "bbe7f427a137b4d078dcda1d73d100cfb0b2f0bb440ed713afc1c5fd0d1f0ab8", func := "given.example/pub-saddlebag/laws.FnStreamGetDuration", spec := "fnStreamGetDuration", unfollowed := true, recurses := true, named := ["io.EOF", "io.ErrUnexpectedEOF"], apart := false, laid := [("io.EOF", laid_io_EOF), ("io.ErrUnexpectedEOF", laid_io_ErrUnexpectedEOF)] }
def FnStreamGetDurationSaid : Prop := fnStreamGetDurationRow.holds Tryd.pinned (OpenSpec.ofChange fnStreamGetDurationSpec)

/-- ITS FALSE NEIGHBOUR: 'it returns false'. Refute it at one input. -/
def fnStreamGetDurationWrong : ChangeSpec := { name := "fnStreamGetDuration", fn := fun _ => fun
  | [d1, d2, d3, d4] => { results := [.lit (.bool false)], args := [d1, d2, d3, d4] }
  | _ => none }
def FnStreamGetDurationWrongFalsely : Prop := fnStreamGetDurationRow.holds Tryd.pinned (OpenSpec.ofChange fnStreamGetDurationWrong)

/-- 'laws.FnStreamGetInt8': WHATEVER THE INPUT: true; the input reads as it did. -/
def fnStreamGetInt8Spec : ChangeSpec := { name := "fnStreamGetInt8", fn := fun _ => fun
  | [d1, d2, d3, d4] => { results := [.lit (.bool true)], args := [d1, d2, d3, d4] }
  | _ => none }
def fnStreamGetInt8Row : OpenClaim := { program := "ytfaangichifbgaadoor", sum := "bbe7f427a137b4d078dcda1d73d100cfb0b2f0bb440ed713afc1c5fd0d1f0ab8", func := "given.example/pub-saddlebag/laws.FnStreamGetInt8", spec := "fnStreamGetInt8", unfollowed := true, recurses := true, named := ["io.EOF", "io.ErrUnexpectedEOF"], apart := false, laid := [("io.EOF", laid_io_EOF), ("io.ErrUnexpectedEOF", laid_io_ErrUnexpectedEOF)] }
def FnStreamGetInt8Said : Prop := fnStreamGetInt8Row.holds Tryd.pinned (OpenSpec.ofChange fnStreamGetInt8Spec)

/-- ITS FALSE NEIGHBOUR: 'it returns false'. Refute it at one input. -/
def fnStreamGetInt8Wrong : ChangeSpec := { name := "fnStreamGetInt8", fn := fun _ => fun
  | [d1, d2, d3, d4] => { results := [.lit (.bool false)], args := [d1, d2, d3, d4] }
  | _ => none }
def FnStreamGetInt8WrongFalsely : Prop := fnStreamGetInt8Row.holds Tryd.pinned (OpenSpec.ofChange fnStreamGetInt8Wrong)

/-- 'laws.FnStreamGetUint8': WHATEVER THE INPUT: true; the input reads as it did. -/
def fnStreamGetUint8Spec : ChangeSpec := { name := "fnStreamGetUint8", fn := fun _ => fun
  | [d1, d2, d3, d4] => { results := [.lit (.bool true)], args := [d1, d2, d3, d4] }
  | _ => none }
def fnStreamGetUint8Row : OpenClaim := { program := "ytfaangichifbgaadoor", sum := "bbe7f427a137b4d078dcda1d73d100cfb0b2f0bb440ed713afc1c5fd0d1f0ab8", func := "given.example/pub-saddlebag/laws.FnStreamGetUint8", spec := "fnStreamGetUint8", unfollowed := true, recurses := true, named := ["io.EOF", "io.ErrUnexpectedEOF"], apart := false, laid := [("io.EOF", laid_io_EOF), ("io.ErrUnexpectedEOF", laid_io_ErrUnexpectedEOF)] }
def FnStreamGetUint8Said : Prop := fnStreamGetUint8Row.holds Tryd.pinned (OpenSpec.ofChange fnStreamGetUint8Spec)

/-- ITS FALSE NEIGHBOUR: 'it returns false'. Refute it at one input. -/
def fnStreamGetUint8Wrong : ChangeSpec := { name := "fnStreamGetUint8", fn := fun _ => fun
  | [d1, d2, d3, d4] => { results := [.lit (.bool false)], args := [d1, d2, d3, d4] }
  | _ => none }
def FnStreamGetUint8WrongFalsely : Prop := fnStreamGetUint8Row.holds Tryd.pinned (OpenSpec.ofChange fnStreamGetUint8Wrong)

/- THE SECOND FORM. 'bulk': how many values and letters a reading holds, each counted each time it is reached (what is shared counts as often as it is met; a slice's spare places count too). A statement '..UptoSaid' is the law's where the arguments, and the package variables that the reading takes, are together of bulk at most 1048576: NARROWER than '..Said'. Prove '..Said' where nothing that the law and all that it calls make is longer than what came in: it says more and counts as full. Else prove '..UptoSaid'. A law counts once. -/
mutual
def uptoBulk {H : Type} : DataW H → Nat
  | .lit (.string bytes) => bytes.length + 1
  | .lit _ => 1
  | .nil => 1
  | .ptr d => uptoBulk d + 1
  | .slice elems spare => uptoBulkAll elems + uptoBulkAll spare + 1
  | .agg parts => uptoBulkAll parts + 1
  | .iface _ d => uptoBulk d + 1
  | .map entries => uptoBulkEntries entries + 1
  | .held _ => 1
def uptoBulkAll {H : Type} : List (DataW H) → Nat
  | [] => 0
  | d :: r => uptoBulk d + uptoBulkAll r
def uptoBulkEntries {H : Type} : List (Lit × DataW H) → Nat
  | [] => 0
  | x :: r => uptoBulkEntry x + uptoBulkEntries r
def uptoBulkEntry {H : Type} : Lit × DataW H → Nat
  | (.string bytes, d) => bytes.length + uptoBulk d + 1
  | (_, d) => uptoBulk d + 1
 end
def uptoSmall : (H : Type) → List (DataW H) → Bool := fun _ ds => decide (uptoBulkAll ds ≤ 1048576)
def OpenSpec.upto (s : _root_.Go.ChangeSpec) : _root_.Go.OpenSpec := { _root_.Go.OpenSpec.ofChange s with cond := some uptoSmall }

/-- 'laws.FnStreamGetArrayHead', WHERE WHAT IT READS IS OF BULK AT MOST 1048576: true; the input reads as it did. -/
def fnStreamGetArrayHeadUptoRow : OpenClaim := { program := "ytfaangichifbgaadoor", sum := "bbe7f427a137b4d078dcda1d73d100cfb0b2f0bb440ed713afc1c5fd0d1f0ab8", func := "given.example/pub-saddlebag/laws.FnStreamGetArrayHead", spec := "fnStreamGetArrayHead", unfollowed := true, recurses := true, named := ["encoding/binary.BigEndian", "io.EOF", "io.ErrUnexpectedEOF"], apart := false, laid := [("io.EOF", laid_io_EOF), ("io.ErrUnexpectedEOF", laid_io_ErrUnexpectedEOF)], narrowed := true }
def FnStreamGetArrayHeadUptoSaid : Prop := fnStreamGetArrayHeadUptoRow.holds Tryd.pinned (OpenSpec.upto fnStreamGetArrayHeadSpec)

/-- 'laws.FnStreamGetFloat64', WHERE WHAT IT READS IS OF BULK AT MOST 1048576: true; the input reads as it did. -/
def fnStreamGetFloat64UptoRow : OpenClaim := { program := "ytfaangichifbgaadoor", sum := "bbe7f427a137b4d078dcda1d73d100cfb0b2f0bb440ed713afc1c5fd0d1f0ab8", func := "given.example/pub-saddlebag/laws.FnStreamGetFloat64", spec := "fnStreamGetFloat64", inPlace := ["math.Float32frombits", "math.Float64frombits", "math.Float64bits"], unfollowed := true, recurses := true, named := ["io.EOF", "io.ErrUnexpectedEOF"], apart := false, laid := [("io.EOF", laid_io_EOF), ("io.ErrUnexpectedEOF", laid_io_ErrUnexpectedEOF)], narrowed := true }
def FnStreamGetFloat64UptoSaid : Prop := fnStreamGetFloat64UptoRow.holds Tryd.pinned (OpenSpec.upto fnStreamGetFloat64Spec)

/-- 'laws.FnStreamGetDuration', WHERE WHAT IT READS IS OF BULK AT MOST 1048576: true; the input reads as it did. -/
def fnStreamGetDurationUptoRow : OpenClaim := { program := "ytfaangichifbgaadoor", sum := "bbe7f427a137b4d078dcda1d73d100cfb0b2f0bb440ed713afc1c5fd0d1f0ab8", func := "given.example/pub-saddlebag/laws.FnStreamGetDuration", spec := "fnStreamGetDuration", unfollowed := true, recurses := true, named := ["io.EOF", "io.ErrUnexpectedEOF"], apart := false, laid := [("io.EOF", laid_io_EOF), ("io.ErrUnexpectedEOF", laid_io_ErrUnexpectedEOF)], narrowed := true }
def FnStreamGetDurationUptoSaid : Prop := fnStreamGetDurationUptoRow.holds Tryd.pinned (OpenSpec.upto fnStreamGetDurationSpec)

/-- 'laws.FnStreamGetInt8', WHERE WHAT IT READS IS OF BULK AT MOST 1048576: true; the input reads as it did. -/
def fnStreamGetInt8UptoRow : OpenClaim := { program := "ytfaangichifbgaadoor", sum := "bbe7f427a137b4d078dcda1d73d100cfb0b2f0bb440ed713afc1c5fd0d1f0ab8", func := "given.example/pub-saddlebag/laws.FnStreamGetInt8", spec := "fnStreamGetInt8", unfollowed := true, recurses := true, named := ["io.EOF", "io.ErrUnexpectedEOF"], apart := false, laid := [("io.EOF", laid_io_EOF), ("io.ErrUnexpectedEOF", laid_io_ErrUnexpectedEOF)], narrowed := true }
def FnStreamGetInt8UptoSaid : Prop := fnStreamGetInt8UptoRow.holds Tryd.pinned (OpenSpec.upto fnStreamGetInt8Spec)

/-- 'laws.FnStreamGetUint8', WHERE WHAT IT READS IS OF BULK AT MOST 1048576: true; the input reads as it did. -/
def fnStreamGetUint8UptoRow : OpenClaim := { program := "ytfaangichifbgaadoor", sum := "bbe7f427a137b4d078dcda1d73d100cfb0b2f0bb440ed713afc1c5fd0d1f0ab8", func := "given.example/pub-saddlebag/laws.FnStreamGetUint8", spec := "fnStreamGetUint8", unfollowed := true, recurses := true, named := ["io.EOF", "io.ErrUnexpectedEOF"], apart := false, laid := [("io.EOF", laid_io_EOF), ("io.ErrUnexpectedEOF", laid_io_ErrUnexpectedEOF)], narrowed := true }
def FnStreamGetUint8UptoSaid : Prop := fnStreamGetUint8UptoRow.holds Tryd.pinned (OpenSpec.upto fnStreamGetUint8Spec)

end Rows
end Go.Proofs.YtfaangichifbgaaDoor
