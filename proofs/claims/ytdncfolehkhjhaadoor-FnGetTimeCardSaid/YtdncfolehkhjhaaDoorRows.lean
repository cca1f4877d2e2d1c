/-
  NARROWER THAN 'FOR EVERY INPUT', by the rows' own cells (each row's printed sentence says how): FnNumberUint: laid · FnGetTime: ifaces, laid · FnHasKey: loops, ifaces, laid.
  DERIVED. THE GIVEN ROWS OF THIS SEAT. 3 by the template 'for every input the law returns true; each argument reads behind the call as it read before'; 0 by the template 'total and deterministic' (their statements: YtdncfolehkhjhaaDoorTotals.lean).
  GIVEN WITH THE SEED: the statements are not yours to turn. If you find one false, say at which input.
  Laid BY PROGRAM, IN A SANDBOX (cutbox-rows.mjs): the forced cells as the released guide's own fill.sh prints them over the translation a628d35683d89763… (all of the seat's roots in one cut). By AI agents, Wed Nov 11 2026. No macro, syntax, notation, axiom, sorry.
-/
import Derived.Test.YtdncfolehkhjhaaDoorChecked
import GoSem.Claim
import GoSem.ClaimJoined
import GoSem.ClaimMapViews
import Derived.JoinedTies
import Derived.KernelRfl
namespace Go.Proofs.YtdncfolehkhjhaaDoor
/- THE CELL 'sum', in the pinned program and in every row, IS THE sha256 OF THE DUMP (.gsa) THAT YtdncfolehkhjhaaDoorProg.lean LOADS. Nothing in Lean hashes anything: it is a label: what it is worth is what the hold of that sum in a sandbox is worth. -/
noncomputable def Tryd.pinned : Pinned := { name := "ytdncfolehkhjhaadoor", sum := "a628d35683d8976363d04e672d8ccdb399cd7dbfdf0308151f627e1e17ae0508", checked := Tryd.checked }
namespace Rows
def none {H : Type} : Left H := { results := [], args := [] }

/- WHAT THE LISTED PACKAGE-LEVEL VARIABLES READ AS WHEN THE CALL BEGINS. Each datum BY PROGRAM (the guide's laid-datum.mjs) off the statement by which the dump's own 'gosem.cut.vars' lays the variable. In a bare row this is a premise. The card (YtdncfolehkhjhaaDoorCards.lean) ties it to the program's text. -/
def laid_math_bits_deBruijn64tab {H : Type} : DataW H := .agg [.lit (.int .u8 0), .lit (.int .u8 1), .lit (.int .u8 56), .lit (.int .u8 2), .lit (.int .u8 57), .lit (.int .u8 49), .lit (.int .u8 28), .lit (.int .u8 3), .lit (.int .u8 61), .lit (.int .u8 58), .lit (.int .u8 42), .lit (.int .u8 50), .lit (.int .u8 38), .lit (.int .u8 29), .lit (.int .u8 17), .lit (.int .u8 4), .lit (.int .u8 62), .lit (.int .u8 47), .lit (.int .u8 59), .lit (.int .u8 36), .lit (.int .u8 45), .lit (.int .u8 43), .lit (.int .u8 51), .lit (.int .u8 22), .lit (.int .u8 53), .lit (.int .u8 39), .lit (.int .u8 33), .lit (.int .u8 30), .lit (.int .u8 24), .lit (.int .u8 18), .lit (.int .u8 12), .lit (.int .u8 5), .lit (.int .u8 63), .lit (.int .u8 55), .lit (.int .u8 48), .lit (.int .u8 27), .lit (.int .u8 60), .lit (.int .u8 41), .lit (.int .u8 37), .lit (.int .u8 16), .lit (.int .u8 46), .lit (.int .u8 35), .lit (.int .u8 44), .lit (.int .u8 21), .lit (.int .u8 52), .lit (.int .u8 32), .lit (.int .u8 23), .lit (.int .u8 11), .lit (.int .u8 54), .lit (.int .u8 26), .lit (.int .u8 40), .lit (.int .u8 15), .lit (.int .u8 34), .lit (.int .u8 20), .lit (.int .u8 31), .lit (.int .u8 10), .lit (.int .u8 25), .lit (.int .u8 14), .lit (.int .u8 19), .lit (.int .u8 9), .lit (.int .u8 13), .lit (.int .u8 8), .lit (.int .u8 7), .lit (.int .u8 6)]
def laid_given_example_pub_saddlebag_pub_msgp_msgp_ErrShortBytes {H : Type} : DataW H := .iface "given.example/pub-saddlebag/pub/msgp/msgp.errShort" (.agg [])
def laid_given_example_pub_saddlebag_pub_msgp_msgp_ErrRecursion {H : Type} : DataW H := .iface "given.example/pub-saddlebag/pub/msgp/msgp.errRecursion" (.agg [])
def laid_given_example_pub_saddlebag_pub_msgp_msgp_fatal {H : Type} : DataW H := .iface "given.example/pub-saddlebag/pub/msgp/msgp.errFatal" (.agg [.lit (.string [])])

/-- 'laws.FnNumberUint': WHATEVER THE INPUT: true; the input reads as it did. -/
def fnNumberUintSpec : ChangeSpec := { name := "fnNumberUint", fn := fun _ => fun
  | [d1, d2] => { results := [.lit (.bool true)], args := [d1, d2] }
  | _ => none }
def fnNumberUintRow : OpenClaim := { program := "ytdncfolehkhjhaadoor", sum := "a628d35683d8976363d04e672d8ccdb399cd7dbfdf0308151f627e1e17ae0508", func := "given.example/pub-saddlebag/laws.FnNumberUint", spec := "fnNumberUint", inPlace := ["math.Float32frombits", "math.Float32bits", "math.Float64frombits", "math.Float64bits"], named := ["math/bits.deBruijn64tab"], apart := false, laid := [("math/bits.deBruijn64tab", laid_math_bits_deBruijn64tab)] }
def FnNumberUintSaid : Prop := fnNumberUintRow.holds Tryd.pinned (OpenSpec.ofChange fnNumberUintSpec)

/-- ITS FALSE NEIGHBOUR: 'it returns false'. Refute it at one input. -/
def fnNumberUintWrong : ChangeSpec := { name := "fnNumberUint", fn := fun _ => fun
  | [d1, d2] => { results := [.lit (.bool false)], args := [d1, d2] }
  | _ => none }
def FnNumberUintWrongFalsely : Prop := fnNumberUintRow.holds Tryd.pinned (OpenSpec.ofChange fnNumberUintWrong)

/-- 'laws.FnGetTime': WHATEVER THE INPUT: true; the input reads as it did. -/
def fnGetTimeSpec : ChangeSpec := { name := "fnGetTime", vars := ["given.example/pub-saddlebag/pub/msgp/msgp.ErrShortBytes"], fn := fun _ => fun
  | [d1, d2, d3, d4, g1] => { results := [.lit (.bool true)], args := [d1, d2, d3, d4], vars := [g1] }
  | _ => none }
def fnGetTimeRow : OpenClaim := { program := "ytdncfolehkhjhaadoor", sum := "a628d35683d8976363d04e672d8ccdb399cd7dbfdf0308151f627e1e17ae0508", func := "given.example/pub-saddlebag/laws.FnGetTime", spec := "fnGetTime", recurses := true, named := ["given.example/pub-saddlebag/pub/msgp/msgp.ErrShortBytes", "encoding/binary.BigEndian"], ifaces := true, apart := false, laid := [("given.example/pub-saddlebag/pub/msgp/msgp.ErrShortBytes", laid_given_example_pub_saddlebag_pub_msgp_msgp_ErrShortBytes)] }
def FnGetTimeSaid : Prop := fnGetTimeRow.holds Tryd.pinned (OpenSpec.ofChange fnGetTimeSpec)

/-- ITS FALSE NEIGHBOUR: 'it returns false'. Refute it at one input. -/
def fnGetTimeWrong : ChangeSpec := { name := "fnGetTime", vars := ["given.example/pub-saddlebag/pub/msgp/msgp.ErrShortBytes"], fn := fun _ => fun
  | [d1, d2, d3, d4, g1] => { results := [.lit (.bool false)], args := [d1, d2, d3, d4], vars := [g1] }
  | _ => none }
def FnGetTimeWrongFalsely : Prop := fnGetTimeRow.holds Tryd.pinned (OpenSpec.ofChange fnGetTimeWrong)

/-- 'laws.FnHasKey': WHATEVER THE INPUT: true; the input reads as it did. -/
def fnHasKeySpec : ChangeSpec := { name := "fnHasKey", vars := ["given.example/pub-saddlebag/pub/msgp/msgp.ErrShortBytes", "given.example/pub-saddlebag/pub/msgp/msgp.ErrRecursion", "given.example/pub-saddlebag/pub/msgp/msgp.fatal"], fn := fun _ => fun
  | [d1, d2, d3, g1, g2, g3] => { results := [.lit (.bool true)], args := [d1, d2, d3], vars := [g1, g2, g3] }
  | _ => none }
def fnHasKeyRow : OpenClaim := { program := "ytdncfolehkhjhaadoor", sum := "a628d35683d8976363d04e672d8ccdb399cd7dbfdf0308151f627e1e17ae0508", func := "given.example/pub-saddlebag/laws.FnHasKey", spec := "fnHasKey", recurses := true, named := ["given.example/pub-saddlebag/pub/msgp/msgp.ErrShortBytes", "encoding/binary.BigEndian", "given.example/pub-saddlebag/pub/msgp/msgp.ErrRecursion", "given.example/pub-saddlebag/pub/msgp/msgp.fatal"], ifaces := true, loops := true, apart := false, laid := [("given.example/pub-saddlebag/pub/msgp/msgp.ErrShortBytes", laid_given_example_pub_saddlebag_pub_msgp_msgp_ErrShortBytes), ("given.example/pub-saddlebag/pub/msgp/msgp.ErrRecursion", laid_given_example_pub_saddlebag_pub_msgp_msgp_ErrRecursion), ("given.example/pub-saddlebag/pub/msgp/msgp.fatal", laid_given_example_pub_saddlebag_pub_msgp_msgp_fatal)] }
def FnHasKeySaid : Prop := fnHasKeyRow.holds Tryd.pinned (OpenSpec.ofChange fnHasKeySpec)

/-- ITS FALSE NEIGHBOUR: 'it returns false'. Refute it at one input. -/
def fnHasKeyWrong : ChangeSpec := { name := "fnHasKey", vars := ["given.example/pub-saddlebag/pub/msgp/msgp.ErrShortBytes", "given.example/pub-saddlebag/pub/msgp/msgp.ErrRecursion", "given.example/pub-saddlebag/pub/msgp/msgp.fatal"], fn := fun _ => fun
  | [d1, d2, d3, g1, g2, g3] => { results := [.lit (.bool false)], args := [d1, d2, d3], vars := [g1, g2, g3] }
  | _ => none }
def FnHasKeyWrongFalsely : Prop := fnHasKeyRow.holds Tryd.pinned (OpenSpec.ofChange fnHasKeyWrong)

/- THE SECOND FORM. 'bulk': how many values and letters a reading holds, each counted each time it is reached (what is shared counts as often as it is met; a slice's spare places count too). A statement '..UptoSaid' is the law's where the arguments, and the package variables that the reading takes, are together of bulk at most 1048576: NARROWER than '..Said'. Prove '..Said' where nothing that the law and all that it calls make is longer than what came in: it says more and counts as full. Else prove '..UptoSaid'. A law counts once. -/
mutual
def uptoBulk {H : Type} : DataW H → Nat
  | .lit (.string bytes) => bytes.length + 1
  | .lit _ => 1
  | .nil => 1
  | .ptr d => uptoBulk d + 1
  | .slice elems spare => uptoBulkAll elems + uptoBulkAll spare + 1
  | .agg parts => uptoBulkAll parts + 1
  | .iface _ d => uptoBulk d + 1
  | .map entries => uptoBulkEntries entries + 1
  | .held _ => 1
def uptoBulkAll {H : Type} : List (DataW H) → Nat
  | [] => 0
  | d :: r => uptoBulk d + uptoBulkAll r
def uptoBulkEntries {H : Type} : List (Lit × DataW H) → Nat
  | [] => 0
  | x :: r => uptoBulkEntry x + uptoBulkEntries r
def uptoBulkEntry {H : Type} : Lit × DataW H → Nat
  | (.string bytes, d) => bytes.length + uptoBulk d + 1
  | (_, d) => uptoBulk d + 1
 end
def uptoSmall : (H : Type) → List (DataW H) → Bool := fun _ ds => decide (uptoBulkAll ds ≤ 1048576)
def OpenSpec.upto (s : _root_.Go.ChangeSpec) : _root_.Go.OpenSpec := { _root_.Go.OpenSpec.ofChange s with cond := some uptoSmall }

/-- 'laws.FnNumberUint', WHERE WHAT IT READS IS OF BULK AT MOST 1048576: true; the input reads as it did. -/
def fnNumberUintUptoRow : OpenClaim := { program := "ytdncfolehkhjhaadoor", sum := "a628d35683d8976363d04e672d8ccdb399cd7dbfdf0308151f627e1e17ae0508", func := "given.example/pub-saddlebag/laws.FnNumberUint", spec := "fnNumberUint", inPlace := ["math.Float32frombits", "math.Float32bits", "math.Float64frombits", "math.Float64bits"], named := ["math/bits.deBruijn64tab"], apart := false, laid := [("math/bits.deBruijn64tab", laid_math_bits_deBruijn64tab)], narrowed := true }
def FnNumberUintUptoSaid : Prop := fnNumberUintUptoRow.holds Tryd.pinned (OpenSpec.upto fnNumberUintSpec)

/-- 'laws.FnGetTime', WHERE WHAT IT READS IS OF BULK AT MOST 1048576: true; the input reads as it did. -/
def fnGetTimeUptoRow : OpenClaim := { program := "ytdncfolehkhjhaadoor", sum := "a628d35683d8976363d04e672d8ccdb399cd7dbfdf0308151f627e1e17ae0508", func := "given.example/pub-saddlebag/laws.FnGetTime", spec := "fnGetTime", recurses := true, named := ["given.example/pub-saddlebag/pub/msgp/msgp.ErrShortBytes", "encoding/binary.BigEndian"], ifaces := true, apart := false, laid := [("given.example/pub-saddlebag/pub/msgp/msgp.ErrShortBytes", laid_given_example_pub_saddlebag_pub_msgp_msgp_ErrShortBytes)], narrowed := true }
def FnGetTimeUptoSaid : Prop := fnGetTimeUptoRow.holds Tryd.pinned (OpenSpec.upto fnGetTimeSpec)

/-- 'laws.FnHasKey', WHERE WHAT IT READS IS OF BULK AT MOST 1048576: true; the input reads as it did. -/
def fnHasKeyUptoRow : OpenClaim := { program := "ytdncfolehkhjhaadoor", sum := "a628d35683d8976363d04e672d8ccdb399cd7dbfdf0308151f627e1e17ae0508", func := "given.example/pub-saddlebag/laws.FnHasKey", spec := "fnHasKey", recurses := true, named := ["given.example/pub-saddlebag/pub/msgp/msgp.ErrShortBytes", "encoding/binary.BigEndian", "given.example/pub-saddlebag/pub/msgp/msgp.ErrRecursion", "given.example/pub-saddlebag/pub/msgp/msgp.fatal"], ifaces := true, loops := true, apart := false, laid := [("given.example/pub-saddlebag/pub/msgp/msgp.ErrShortBytes", laid_given_example_pub_saddlebag_pub_msgp_msgp_ErrShortBytes), ("given.example/pub-saddlebag/pub/msgp/msgp.ErrRecursion", laid_given_example_pub_saddlebag_pub_msgp_msgp_ErrRecursion), ("given.example/pub-saddlebag/pub/msgp/msgp.fatal", laid_given_example_pub_saddlebag_pub_msgp_msgp_fatal)], narrowed := true }
def FnHasKeyUptoSaid : Prop := fnHasKeyUptoRow.holds Tryd.pinned (OpenSpec.upto fnHasKeySpec)

end Rows
end Go.Proofs.YtdncfolehkhjhaaDoor
