/-
  NARROWER THAN 'FOR EVERY INPUT', by the rows' own cells (each row's printed sentence says how): FnGetFloat32: loops, ifaces, laid · FnGetBinHead: ifaces, laid · FnGetBinZC: loops, ifaces, laid · FnGetIntN: loops, ifaces, laid · FnGetUintN: loops, ifaces, laid · FnGetTime: ifaces, laid.
  DERIVED. THE GIVEN ROWS OF THIS SEAT. 6 by the template 'for every input the law returns true; each argument reads behind the call as it read before'; 0 by the template 'total and deterministic' (their statements: YtnahohkfkkemfaaDoorTotals.lean).
  GIVEN WITH THE SEED: the statements are not yours to turn. If you find one false, say at which input.
  Laid BY PROGRAM, IN A SANDBOX (cutbox-rows.mjs): the forced cells as the released guide's own fill.sh prints them over the translation 5cd809d96de7f405… (all of the seat's roots in one cut). By AI agents, Wed Nov 11 2026. No macro, syntax, notation, axiom, sorry.
-/
import Derived.Test.YtnahohkfkkemfaaDoorChecked
import GoSem.Claim
import GoSem.ClaimJoined
import GoSem.ClaimMapViews
import Derived.JoinedTies
import Derived.KernelRfl
namespace Go.Proofs.YtnahohkfkkemfaaDoor
/- THE CELL 'sum', in the pinned program and in every row, IS THE sha256 OF THE DUMP (.gsa) THAT YtnahohkfkkemfaaDoorProg.lean LOADS. Nothing in Lean hashes anything: it is a label: what it is worth is what the hold of that sum in a sandbox is worth. -/
noncomputable def Tryd.pinned : Pinned := { name := "ytnahohkfkkemfaadoor", sum := "5cd809d96de7f405514a5b431002a87685a7b9de994e3529778204baacf76c67", checked := Tryd.checked }
namespace Rows
def none {H : Type} : Left H := { results := [], args := [] }

/- WHAT THE LISTED PACKAGE-LEVEL VARIABLES READ AS WHEN THE CALL BEGINS. Each datum BY PROGRAM (the guide's laid-datum.mjs) off the statement by which the dump's own 'gosem.cut.vars' lays the variable. In a bare row this is a premise. The card (YtnahohkfkkemfaaDoorCards.lean) ties it to the program's text. -/
def laid_given_example_pub_saddlebag_pub_msgp_msgp_ErrShortBytes {H : Type} : DataW H := .iface "given.example/pub-saddlebag/pub/msgp/msgp.errShort" (.agg [])

/-- 'laws.FnGetFloat32': WHATEVER THE INPUT: true; the input reads as it did. -/
def fnGetFloat32Spec : ChangeSpec := { name := "fnGetFloat32", vars := ["given.example/pub-saddlebag/pub/msgp/msgp.ErrShortBytes"], fn := fun _ => fun
  | [d, g1] => { results := [.lit (.bool true)], args := [d], vars := [g1] }
  | _ => none }
def fnGetFloat32Row : OpenClaim := { program := "ytnahohkfkkemfaadoor", sum := "5cd809d96de7f405514a5b431002a87685a7b9de994e3529778204baacf76c67", func := "given.example/pub-saddlebag/laws.FnGetFloat32", spec := "fnGetFloat32", inPlace := ["math.Float32frombits", "math.Float32bits"], recurses := true, named := ["given.example/pub-saddlebag/pub/msgp/msgp.ErrShortBytes"], ifaces := true, loops := true, apart := false, laid := [("given.example/pub-saddlebag/pub/msgp/msgp.ErrShortBytes", laid_given_example_pub_saddlebag_pub_msgp_msgp_ErrShortBytes)] }
def FnGetFloat32Said : Prop := fnGetFloat32Row.holds Tryd.pinned (OpenSpec.ofChange fnGetFloat32Spec)

/-- ITS FALSE NEIGHBOUR: 'it returns false'. Refute it at one input. -/
def fnGetFloat32Wrong : ChangeSpec := { name := "fnGetFloat32", vars := ["given.example/pub-saddlebag/pub/msgp/msgp.ErrShortBytes"], fn := fun _ => fun
  | [d, g1] => { results := [.lit (.bool false)], args := [d], vars := [g1] }
  | _ => none }
def FnGetFloat32WrongFalsely : Prop := fnGetFloat32Row.holds Tryd.pinned (OpenSpec.ofChange fnGetFloat32Wrong)

/-- 'laws.FnGetBinHead': WHATEVER THE INPUT: true; the input reads as it did. -/
def fnGetBinHeadSpec : ChangeSpec := { name := "fnGetBinHead", vars := ["given.example/pub-saddlebag/pub/msgp/msgp.ErrShortBytes"], fn := fun _ => fun
  | [d1, d2, d3, d4, d5, g1] => { results := [.lit (.bool true)], args := [d1, d2, d3, d4, d5], vars := [g1] }
  | _ => none }
def fnGetBinHeadRow : OpenClaim := { program := "ytnahohkfkkemfaadoor", sum := "5cd809d96de7f405514a5b431002a87685a7b9de994e3529778204baacf76c67", func := "given.example/pub-saddlebag/laws.FnGetBinHead", spec := "fnGetBinHead", named := ["given.example/pub-saddlebag/pub/msgp/msgp.ErrShortBytes", "encoding/binary.BigEndian"], ifaces := true, apart := false, laid := [("given.example/pub-saddlebag/pub/msgp/msgp.ErrShortBytes", laid_given_example_pub_saddlebag_pub_msgp_msgp_ErrShortBytes)] }
def FnGetBinHeadSaid : Prop := fnGetBinHeadRow.holds Tryd.pinned (OpenSpec.ofChange fnGetBinHeadSpec)

/-- ITS FALSE NEIGHBOUR: 'it returns false'. Refute it at one input. -/
def fnGetBinHeadWrong : ChangeSpec := { name := "fnGetBinHead", vars := ["given.example/pub-saddlebag/pub/msgp/msgp.ErrShortBytes"], fn := fun _ => fun
  | [d1, d2, d3, d4, d5, g1] => { results := [.lit (.bool false)], args := [d1, d2, d3, d4, d5], vars := [g1] }
  | _ => none }
def FnGetBinHeadWrongFalsely : Prop := fnGetBinHeadRow.holds Tryd.pinned (OpenSpec.ofChange fnGetBinHeadWrong)

/-- 'laws.FnGetBinZC': WHATEVER THE INPUT: true; the input reads as it did. -/
def fnGetBinZCSpec : ChangeSpec := { name := "fnGetBinZC", vars := ["given.example/pub-saddlebag/pub/msgp/msgp.ErrShortBytes"], fn := fun _ => fun
  | [d, g1] => { results := [.lit (.bool true)], args := [d], vars := [g1] }
  | _ => none }
def fnGetBinZCRow : OpenClaim := { program := "ytnahohkfkkemfaadoor", sum := "5cd809d96de7f405514a5b431002a87685a7b9de994e3529778204baacf76c67", func := "given.example/pub-saddlebag/laws.FnGetBinZC", spec := "fnGetBinZC", recurses := true, named := ["given.example/pub-saddlebag/pub/msgp/msgp.ErrShortBytes", "encoding/binary.BigEndian"], ifaces := true, loops := true, apart := false, laid := [("given.example/pub-saddlebag/pub/msgp/msgp.ErrShortBytes", laid_given_example_pub_saddlebag_pub_msgp_msgp_ErrShortBytes)] }
def FnGetBinZCSaid : Prop := fnGetBinZCRow.holds Tryd.pinned (OpenSpec.ofChange fnGetBinZCSpec)

/-- ITS FALSE NEIGHBOUR: 'it returns false'. Refute it at one input. -/
def fnGetBinZCWrong : ChangeSpec := { name := "fnGetBinZC", vars := ["given.example/pub-saddlebag/pub/msgp/msgp.ErrShortBytes"], fn := fun _ => fun
  | [d, g1] => { results := [.lit (.bool false)], args := [d], vars := [g1] }
  | _ => none }
def FnGetBinZCWrongFalsely : Prop := fnGetBinZCRow.holds Tryd.pinned (OpenSpec.ofChange fnGetBinZCWrong)

/-- 'laws.FnGetIntN': WHATEVER THE INPUT: true; the input reads as it did. -/
def fnGetIntNSpec : ChangeSpec := { name := "fnGetIntN", vars := ["given.example/pub-saddlebag/pub/msgp/msgp.ErrShortBytes"], fn := fun _ => fun
  | [d, g1] => { results := [.lit (.bool true)], args := [d], vars := [g1] }
  | _ => none }
def fnGetIntNRow : OpenClaim := { program := "ytnahohkfkkemfaadoor", sum := "5cd809d96de7f405514a5b431002a87685a7b9de994e3529778204baacf76c67", func := "given.example/pub-saddlebag/laws.FnGetIntN", spec := "fnGetIntN", recurses := true, named := ["given.example/pub-saddlebag/pub/msgp/msgp.ErrShortBytes", "encoding/binary.BigEndian"], ifaces := true, loops := true, apart := false, laid := [("given.example/pub-saddlebag/pub/msgp/msgp.ErrShortBytes", laid_given_example_pub_saddlebag_pub_msgp_msgp_ErrShortBytes)] }
def FnGetIntNSaid : Prop := fnGetIntNRow.holds Tryd.pinned (OpenSpec.ofChange fnGetIntNSpec)

/-- ITS FALSE NEIGHBOUR: 'it returns false'. Refute it at one input. -/
def fnGetIntNWrong : ChangeSpec := { name := "fnGetIntN", vars := ["given.example/pub-saddlebag/pub/msgp/msgp.ErrShortBytes"], fn := fun _ => fun
  | [d, g1] => { results := [.lit (.bool false)], args := [d], vars := [g1] }
  | _ => none }
def FnGetIntNWrongFalsely : Prop := fnGetIntNRow.holds Tryd.pinned (OpenSpec.ofChange fnGetIntNWrong)

/-- 'laws.FnGetUintN': WHATEVER THE INPUT: true; the input reads as it did. -/
def fnGetUintNSpec : ChangeSpec := { name := "fnGetUintN", vars := ["given.example/pub-saddlebag/pub/msgp/msgp.ErrShortBytes"], fn := fun _ => fun
  | [d, g1] => { results := [.lit (.bool true)], args := [d], vars := [g1] }
  | _ => none }
def fnGetUintNRow : OpenClaim := { program := "ytnahohkfkkemfaadoor", sum := "5cd809d96de7f405514a5b431002a87685a7b9de994e3529778204baacf76c67", func := "given.example/pub-saddlebag/laws.FnGetUintN", spec := "fnGetUintN", recurses := true, named := ["given.example/pub-saddlebag/pub/msgp/msgp.ErrShortBytes", "encoding/binary.BigEndian"], ifaces := true, loops := true, apart := false, laid := [("given.example/pub-saddlebag/pub/msgp/msgp.ErrShortBytes", laid_given_example_pub_saddlebag_pub_msgp_msgp_ErrShortBytes)] }
def FnGetUintNSaid : Prop := fnGetUintNRow.holds Tryd.pinned (OpenSpec.ofChange fnGetUintNSpec)

/-- ITS FALSE NEIGHBOUR: 'it returns false'. Refute it at one input. -/
def fnGetUintNWrong : ChangeSpec := { name := "fnGetUintN", vars := ["given.example/pub-saddlebag/pub/msgp/msgp.ErrShortBytes"], fn := fun _ => fun
  | [d, g1] => { results := [.lit (.bool false)], args := [d], vars := [g1] }
  | _ => none }
def FnGetUintNWrongFalsely : Prop := fnGetUintNRow.holds Tryd.pinned (OpenSpec.ofChange fnGetUintNWrong)

/-- 'laws.FnGetTime': WHATEVER THE INPUT: true; the input reads as it did. -/
def fnGetTimeSpec : ChangeSpec := { name := "fnGetTime", vars := ["given.example/pub-saddlebag/pub/msgp/msgp.ErrShortBytes"], fn := fun _ => fun
  | [d1, d2, d3, d4, g1] => { results := [.lit (.bool true)], args := [d1, d2, d3, d4], vars := [g1] }
  | _ => none }
def fnGetTimeRow : OpenClaim := { program := "ytnahohkfkkemfaadoor", sum := "5cd809d96de7f405514a5b431002a87685a7b9de994e3529778204baacf76c67", func := "given.example/pub-saddlebag/laws.FnGetTime", spec := "fnGetTime", recurses := true, named := ["given.example/pub-saddlebag/pub/msgp/msgp.ErrShortBytes", "encoding/binary.BigEndian"], ifaces := true, apart := false, laid := [("given.example/pub-saddlebag/pub/msgp/msgp.ErrShortBytes", laid_given_example_pub_saddlebag_pub_msgp_msgp_ErrShortBytes)] }
def FnGetTimeSaid : Prop := fnGetTimeRow.holds Tryd.pinned (OpenSpec.ofChange fnGetTimeSpec)

/-- ITS FALSE NEIGHBOUR: 'it returns false'. Refute it at one input. -/
def fnGetTimeWrong : ChangeSpec := { name := "fnGetTime", vars := ["given.example/pub-saddlebag/pub/msgp/msgp.ErrShortBytes"], fn := fun _ => fun
  | [d1, d2, d3, d4, g1] => { results := [.lit (.bool false)], args := [d1, d2, d3, d4], vars := [g1] }
  | _ => none }
def FnGetTimeWrongFalsely : Prop := fnGetTimeRow.holds Tryd.pinned (OpenSpec.ofChange fnGetTimeWrong)

/- THE SECOND FORM. 'bulk': how many values and letters a reading holds, each counted each time it is reached (what is shared counts as often as it is met; a slice's spare places count too). A statement '..UptoSaid' is the law's where the arguments, and the package variables that the reading takes, are together of bulk at most 1048576: NARROWER than '..Said'. Prove '..Said' where nothing that the law and all that it calls make is longer than what came in: it says more and counts as full. Else prove '..UptoSaid'. A law counts once. -/
mutual
def uptoBulk {H : Type} : DataW H → Nat
  | .lit (.string bytes) => bytes.length + 1
  | .lit _ => 1
  | .nil => 1
  | .ptr d => uptoBulk d + 1
  | .slice elems spare => uptoBulkAll elems + uptoBulkAll spare + 1
  | .agg parts => uptoBulkAll parts + 1
  | .iface _ d => uptoBulk d + 1
  | .map entries => uptoBulkEntries entries + 1
  | .held _ => 1
def uptoBulkAll {H : Type} : List (DataW H) → Nat
  | [] => 0
  | d :: r => uptoBulk d + uptoBulkAll r
def uptoBulkEntries {H : Type} : List (Lit × DataW H) → Nat
  | [] => 0
  | x :: r => uptoBulkEntry x + uptoBulkEntries r
def uptoBulkEntry {H : Type} : Lit × DataW H → Nat
  | (.string bytes, d) => bytes.length + uptoBulk d + 1
  | (_, d) => uptoBulk d + 1
 end
def uptoSmall : (H : Type) → List (DataW H) → Bool := fun _ ds => decide (uptoBulkAll ds ≤ 1048576)
def OpenSpec.upto (s : _root_.Go.ChangeSpec) : _root_.Go.OpenSpec := { _root_.Go.OpenSpec.ofChange s with cond := some uptoSmall }

/-- 'laws.FnGetFloat32', WHERE WHAT IT READS IS OF BULK AT MOST 1048576: true; the input reads as it did. -/
def fnGetFloat32UptoRow : OpenClaim := { program := "ytnahohkfkkemfaadoor", sum := "5cd809d96de7f405514a5b431002a87685a7b9de994e3529778204baacf76c67", func := "given.example/pub-saddlebag/laws.FnGetFloat32", spec := "fnGetFloat32", inPlace := ["math.Float32frombits", "math.Float32bits"], recurses := true, named := ["given.example/pub-saddlebag/pub/msgp/msgp.ErrShortBytes"], ifaces := true, loops := true, apart := false, laid := [("given.example/pub-saddlebag/pub/msgp/msgp.ErrShortBytes", laid_given_example_pub_saddlebag_pub_msgp_msgp_ErrShortBytes)], narrowed := true }
def FnGetFloat32UptoSaid : Prop := fnGetFloat32UptoRow.holds Tryd.pinned (OpenSpec.upto fnGetFloat32Spec)

/-- 'laws.FnGetBinHead', WHERE WHAT IT READS IS OF BULK AT MOST 1048576: true; the input reads as it did. -/
def fnGetBinHeadUptoRow : OpenClaim := { program := "ytnahohkfkkemfaadoor", sum := "5cd809d96de7f405514a5b431002a87685a7b9de994e3529778204baacf76c67", func := "given.example/pub-saddlebag/laws.FnGetBinHead", spec := "fnGetBinHead", named := ["given.example/pub-saddlebag/pub/msgp/msgp.ErrShortBytes", "encoding/binary.BigEndian"], ifaces := true, apart := false, laid := [("given.example/pub-saddlebag/pub/msgp/msgp.ErrShortBytes", laid_given_example_pub_saddlebag_pub_msgp_msgp_ErrShortBytes)], narrowed := true }
def FnGetBinHeadUptoSaid : Prop := fnGetBinHeadUptoRow.holds Tryd.pinned (OpenSpec.upto fnGetBinHeadSpec)

/-- 'laws.FnGetBinZC', WHERE WHAT IT READS IS OF BULK AT MOST 1048576: true; the input reads as it did. -/
def fnGetBinZCUptoRow : OpenClaim := { program := "ytnahohkfkkemfaadoor", sum := "5cd809d96de7f405514a5b431002a87685a7b9de994e3529778204baacf76c67", func := "given.example/pub-saddlebag/laws.FnGetBinZC", spec := "fnGetBinZC", recurses := true, named := ["given.example/pub-saddlebag/pub/msgp/msgp.ErrShortBytes", "encoding/binary.BigEndian"], ifaces := true, loops := true, apart := false, laid := [("given.example/pub-saddlebag/pub/msgp/msgp.ErrShortBytes", laid_given_example_pub_saddlebag_pub_msgp_msgp_ErrShortBytes)], narrowed := true }
def FnGetBinZCUptoSaid : Prop := fnGetBinZCUptoRow.holds Tryd.pinned (OpenSpec.upto fnGetBinZCSpec)

/-- 'laws.FnGetIntN', WHERE WHAT IT READS IS OF BULK AT MOST 1048576: true; the input reads as it did. -/
def fnGetIntNUptoRow : OpenClaim := { program := "ytnahohkfkkemfaadoor", sum := "5cd809d96de7f405514a5b431002a87685a7b9de994e3529778204baacf76c67", func := "given.example/pub-saddlebag/laws.FnGetIntN", spec := "fnGetIntN", recurses := true, named := ["given.example/pub-saddlebag/pub/msgp/msgp.ErrShortBytes", "encoding/binary.BigEndian"], ifaces := true, loops := true, apart := false, laid := [("given.example/pub-saddlebag/pub/msgp/msgp.ErrShortBytes", laid_given_example_pub_saddlebag_pub_msgp_msgp_ErrShortBytes)], narrowed := true }
def FnGetIntNUptoSaid : Prop := fnGetIntNUptoRow.holds Tryd.pinned (OpenSpec.upto fnGetIntNSpec)

/-- 'laws.FnGetUintN', WHERE WHAT IT READS IS OF BULK AT MOST 1048576: true; the input reads as it did. -/
def fnGetUintNUptoRow : OpenClaim := { program := "ytnahohkfkkemfaadoor", sum := "5cd809d96de7f405514a5b431002a87685a7b9de994e3529778204baacf76c67", func := "given.example/pub-saddlebag/laws.FnGetUintN", spec := "fnGetUintN", recurses := true, named := ["given.example/pub-saddlebag/pub/msgp/msgp.ErrShortBytes", "encoding/binary.BigEndian"], ifaces := true, loops := true, apart := false, laid := [("given.example/pub-saddlebag/pub/msgp/msgp.ErrShortBytes", laid_given_example_pub_saddlebag_pub_msgp_msgp_ErrShortBytes)], narrowed := true }
def FnGetUintNUptoSaid : Prop := fnGetUintNUptoRow.holds Tryd.pinned (OpenSpec.upto fnGetUintNSpec)

/-- 'laws.FnGetTime', WHERE WHAT IT READS IS OF BULK AT MOST 1048576: true; the input reads as it did. -/
def fnGetTimeUptoRow : OpenClaim := { program := "ytnahohkfkkemfaadoor", sum := "5cd809d96de7f405514a5b431002a87685a7b9de994e3529778204baacf76c67", func := "given.example/pub-saddlebag/laws.FnGetTime", spec := "fnGetTime", recurses := true, named := ["given.example/pub-saddlebag/pub/msgp/msgp.ErrShortBytes", "encoding/binary.BigEndian"], ifaces := true, apart := false, laid := [("given.example/pub-saddlebag/pub/msgp/msgp.ErrShortBytes", laid_given_example_pub_saddlebag_pub_msgp_msgp_ErrShortBytes)], narrowed := true }
def FnGetTimeUptoSaid : Prop := fnGetTimeUptoRow.holds Tryd.pinned (OpenSpec.upto fnGetTimeSpec)

end Rows
end Go.Proofs.YtnahohkfkkemfaaDoor
