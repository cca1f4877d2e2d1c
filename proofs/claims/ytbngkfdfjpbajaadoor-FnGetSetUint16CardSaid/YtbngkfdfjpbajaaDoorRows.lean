/-
  NARROWER THAN 'FOR EVERY INPUT', by the rows' own cells (each row's printed sentence says how): FnHasKey: loops, ifaces, laid · FnGetSetUint16: ifaces, laid · FnGetSetUint: ifaces, laid.
  DERIVED. THE GIVEN ROWS OF THIS SEAT. 3 by the template 'for every input the law returns true; each argument reads behind the call as it read before'; 0 by the template 'total and deterministic' (their statements: YtbngkfdfjpbajaaDoorTotals.lean).
  GIVEN WITH THE SEED: the statements are not yours to turn. If you find one false, say at which input.
  Laid BY PROGRAM, IN A SANDBOX (cutbox-rows.mjs): the forced cells as the released guide's own fill.sh prints them over the translation 47e101fded77b9a7… (all of the seat's roots in one cut). By AI agents, Wed Nov 11 2026. No macro, syntax, notation, axiom, sorry.
-/
import Derived.Test.YtbngkfdfjpbajaaDoorChecked
import GoSem.Claim
import GoSem.ClaimJoined
import GoSem.ClaimMapViews
import Derived.JoinedTies
import Derived.KernelRfl
namespace Go.Proofs.YtbngkfdfjpbajaaDoor
/- THE CELL 'sum', in the pinned program and in every row, IS THE sha256 OF THE DUMP (.gsa) THAT YtbngkfdfjpbajaaDoorProg.lean LOADS. Nothing in Lean hashes anything: it is a label: what it is worth is what the hold of that sum in a sandbox is worth. -/
noncomputable def Tryd.pinned : Pinned := { name := "ytbngkfdfjpbajaadoor", sum := "47e101fded77b9a70ba74cd57926d1bf5ac365349921c2926b50592530bcc636", checked := Tryd.checked }
namespace Rows
def none {H : Type} : Left H := { results := [], args := [] }

/- WHAT THE LISTED PACKAGE-LEVEL VARIABLES READ AS WHEN THE CALL BEGINS. Each datum BY PROGRAM (the guide's laid-datum.mjs) off the statement by which the dump's own 'gosem.cut.vars' lays the variable. In a bare row this is a premise. The card (YtbngkfdfjpbajaaDoorCards.lean) ties it to the program's text. -/
def laid_given_example_pub_saddlebag_pub_msgp_msgp_ErrShortBytes {H : Type} : DataW H := .iface "given.example/pub-saddlebag/pub/msgp/msgp.errShort" (.agg [])
def laid_given_example_pub_saddlebag_pub_msgp_msgp_ErrRecursion {H : Type} : DataW H := .iface "given.example/pub-saddlebag/pub/msgp/msgp.errRecursion" (.agg [])
def laid_given_example_pub_saddlebag_pub_msgp_msgp_fatal {H : Type} : DataW H := .iface "given.example/pub-saddlebag/pub/msgp/msgp.errFatal" (.agg [.lit (.string [])])

/-- 'laws.FnHasKey': WHATEVER THE INPUT: true; the input reads as it did. -/
def fnHasKeySpec : ChangeSpec := { name := "fnHasKey", vars := ["given.example/pub-saddlebag/pub/msgp/msgp.ErrShortBytes", "given.example/pub-saddlebag/pub/msgp/msgp.ErrRecursion", "given.example/pub-saddlebag/pub/msgp/msgp.fatal"], fn := fun _ => fun
  | [d1, d2, d3, g1, g2, g3] => { results := [.lit (.bool true)], args := [d1, d2, d3], vars := [g1, g2, g3] }
  | _ => none }
def fnHasKeyRow : OpenClaim := { program := "ytbngkfdfjpbajaadoor", sum := "47e101fded77b9a70ba74cd57926d1bf5ac365349921c2926b50592530bcc636", func := "given.example/pub-saddlebag/laws.FnHasKey", spec := "fnHasKey", recurses := true, named := ["given.example/pub-saddlebag/pub/msgp/msgp.ErrShortBytes", "encoding/binary.BigEndian", "given.example/pub-saddlebag/pub/msgp/msgp.ErrRecursion", "given.example/pub-saddlebag/pub/msgp/msgp.fatal"], ifaces := true, loops := true, apart := false, laid := [("given.example/pub-saddlebag/pub/msgp/msgp.ErrShortBytes", laid_given_example_pub_saddlebag_pub_msgp_msgp_ErrShortBytes), ("given.example/pub-saddlebag/pub/msgp/msgp.ErrRecursion", laid_given_example_pub_saddlebag_pub_msgp_msgp_ErrRecursion), ("given.example/pub-saddlebag/pub/msgp/msgp.fatal", laid_given_example_pub_saddlebag_pub_msgp_msgp_fatal)] }
def FnHasKeySaid : Prop := fnHasKeyRow.holds Tryd.pinned (OpenSpec.ofChange fnHasKeySpec)

/-- ITS FALSE NEIGHBOUR: 'it returns false'. Refute it at one input. -/
def fnHasKeyWrong : ChangeSpec := { name := "fnHasKey", vars := ["given.example/pub-saddlebag/pub/msgp/msgp.ErrShortBytes", "given.example/pub-saddlebag/pub/msgp/msgp.ErrRecursion", "given.example/pub-saddlebag/pub/msgp/msgp.fatal"], fn := fun _ => fun
  | [d1, d2, d3, g1, g2, g3] => { results := [.lit (.bool false)], args := [d1, d2, d3], vars := [g1, g2, g3] }
  | _ => none }
def FnHasKeyWrongFalsely : Prop := fnHasKeyRow.holds Tryd.pinned (OpenSpec.ofChange fnHasKeyWrong)

/-- 'laws.FnGetSetUint16': WHATEVER THE INPUT: true; the input reads as it did. -/
def fnGetSetUint16Spec : ChangeSpec := { name := "fnGetSetUint16", vars := ["given.example/pub-saddlebag/pub/msgp/msgp.ErrShortBytes"], fn := fun _ => fun
  | [d1, d2, d3, g1] => { results := [.lit (.bool true)], args := [d1, d2, d3], vars := [g1] }
  | _ => none }
def fnGetSetUint16Row : OpenClaim := { program := "ytbngkfdfjpbajaadoor", sum := "47e101fded77b9a70ba74cd57926d1bf5ac365349921c2926b50592530bcc636", func := "given.example/pub-saddlebag/laws.FnGetSetUint16", spec := "fnGetSetUint16", unfollowed := true, recurses := true, named := ["given.example/pub-saddlebag/pub/msgp/msgp.ErrShortBytes", "encoding/binary.BigEndian"], ifaces := true, apart := false, laid := [("given.example/pub-saddlebag/pub/msgp/msgp.ErrShortBytes", laid_given_example_pub_saddlebag_pub_msgp_msgp_ErrShortBytes)] }
def FnGetSetUint16Said : Prop := fnGetSetUint16Row.holds Tryd.pinned (OpenSpec.ofChange fnGetSetUint16Spec)

/-- ITS FALSE NEIGHBOUR: 'it returns false'. Refute it at one input. -/
def fnGetSetUint16Wrong : ChangeSpec := { name := "fnGetSetUint16", vars := ["given.example/pub-saddlebag/pub/msgp/msgp.ErrShortBytes"], fn := fun _ => fun
  | [d1, d2, d3, g1] => { results := [.lit (.bool false)], args := [d1, d2, d3], vars := [g1] }
  | _ => none }
def FnGetSetUint16WrongFalsely : Prop := fnGetSetUint16Row.holds Tryd.pinned (OpenSpec.ofChange fnGetSetUint16Wrong)

/-- 'laws.FnGetSetUint': WHATEVER THE INPUT: true; the input reads as it did. -/
def fnGetSetUintSpec : ChangeSpec := { name := "fnGetSetUint", vars := ["given.example/pub-saddlebag/pub/msgp/msgp.ErrShortBytes"], fn := fun _ => fun
  | [d1, d2, d3, g1] => { results := [.lit (.bool true)], args := [d1, d2, d3], vars := [g1] }
  | _ => none }
def fnGetSetUintRow : OpenClaim := { program := "ytbngkfdfjpbajaadoor", sum := "47e101fded77b9a70ba74cd57926d1bf5ac365349921c2926b50592530bcc636", func := "given.example/pub-saddlebag/laws.FnGetSetUint", spec := "fnGetSetUint", unfollowed := true, recurses := true, named := ["given.example/pub-saddlebag/pub/msgp/msgp.ErrShortBytes", "encoding/binary.BigEndian"], ifaces := true, apart := false, laid := [("given.example/pub-saddlebag/pub/msgp/msgp.ErrShortBytes", laid_given_example_pub_saddlebag_pub_msgp_msgp_ErrShortBytes)] }
def FnGetSetUintSaid : Prop := fnGetSetUintRow.holds Tryd.pinned (OpenSpec.ofChange fnGetSetUintSpec)

/-- ITS FALSE NEIGHBOUR: 'it returns false'. Refute it at one input. -/
def fnGetSetUintWrong : ChangeSpec := { name := "fnGetSetUint", vars := ["given.example/pub-saddlebag/pub/msgp/msgp.ErrShortBytes"], fn := fun _ => fun
  | [d1, d2, d3, g1] => { results := [.lit (.bool false)], args := [d1, d2, d3], vars := [g1] }
  | _ => none }
def FnGetSetUintWrongFalsely : Prop := fnGetSetUintRow.holds Tryd.pinned (OpenSpec.ofChange fnGetSetUintWrong)

/- THE SECOND FORM. 'bulk': how many values and letters a reading holds, each counted each time it is reached (what is shared counts as often as it is met; a slice's spare places count too). A statement '..UptoSaid' is the law's where the arguments, and the package variables that the reading takes, are together of bulk at most 1048576: NARROWER than '..Said'. Prove '..Said' where nothing that the law and all that it calls make is longer than what came in: it says more and counts as full. Else prove '..UptoSaid'. A law counts once. -/
mutual
def uptoBulk {H : Type} : DataW H → Nat
  | .lit (.string bytes) => bytes.length + 1
  | .lit _ => 1
  | .nil => 1
  | .ptr d => uptoBulk d + 1
  | .slice elems spare => uptoBulkAll elems + uptoBulkAll spare + 1
  | .agg parts => uptoBulkAll parts + 1
  | .iface _ d => uptoBulk d + 1
  | .map entries => uptoBulkEntries entries + 1
  | .held _ => 1
def uptoBulkAll {H : Type} : List (DataW H) → Nat
  | [] => 0
  | d :: r => uptoBulk d + uptoBulkAll r
def uptoBulkEntries {H : Type} : List (Lit × DataW H) → Nat
  | [] => 0
  | x :: r => uptoBulkEntry x + uptoBulkEntries r
def uptoBulkEntry {H : Type} : Lit × DataW H → Nat
  | (.string bytes, d) => bytes.length + uptoBulk d + 1
  | (_, d) => uptoBulk d + 1
 end
def uptoSmall : (H : Type) → List (DataW H) → Bool := fun _ ds => decide (uptoBulkAll ds ≤ 1048576)
def OpenSpec.upto (s : _root_.Go.ChangeSpec) : _root_.Go.OpenSpec := { _root_.Go.OpenSpec.ofChange s with cond := some uptoSmall }

/-- 'laws.FnHasKey', WHERE WHAT IT READS IS OF BULK AT MOST 1048576: true; the input reads as it did. -/
def fnHasKeyUptoRow : OpenClaim := { program := "ytbngkfdfjpbajaadoor", sum := "47e101fded77b9a70ba74cd57926d1bf5ac365349921c2926b50592530bcc636", func := "given.example/pub-saddlebag/laws.FnHasKey", spec := "fnHasKey", recurses := true, named := ["given.example/pub-saddlebag/pub/msgp/msgp.ErrShortBytes", "encoding/binary.BigEndian", "given.example/pub-saddlebag/pub/msgp/msgp.ErrRecursion", "given.example/pub-saddlebag/pub/msgp/msgp.fatal"], ifaces := true, loops := true, apart := false, laid := [("given.example/pub-saddlebag/pub/msgp/msgp.ErrShortBytes", laid_given_example_pub_saddlebag_pub_msgp_msgp_ErrShortBytes), ("given.example/pub-saddlebag/pub/msgp/msgp.ErrRecursion", laid_given_example_pub_saddlebag_pub_msgp_msgp_ErrRecursion), ("given.example/pub-saddlebag/pub/msgp/msgp.fatal", laid_given_example_pub_saddlebag_pub_msgp_msgp_fatal)], narrowed := true }
def FnHasKeyUptoSaid : Prop := fnHasKeyUptoRow.holds Tryd.pinned (OpenSpec.upto fnHasKeySpec)

/-- 'laws.FnGetSetUint16', WHERE WHAT IT READS IS OF BULK AT MOST 1048576: true; the input reads as it did. -/
def fnGetSetUint16UptoRow : OpenClaim := { program := "ytbngkfdfjpbajaadoor", sum := "47e101fded77b9a70ba74cd57926d1bf5ac365349921c2926b50592530bcc636", func := "given.example/pub-saddlebag/laws.FnGetSetUint16", spec := "fnGetSetUint16", unfollowed := true, recurses := true, named := ["given.example/pub-saddlebag/pub/msgp/msgp.ErrShortBytes", "encoding/binary.BigEndian"], ifaces := true, apart := false, laid := [("given.example/pub-saddlebag/pub/msgp/msgp.ErrShortBytes", laid_given_example_pub_saddlebag_pub_msgp_msgp_ErrShortBytes)], narrowed := true }
def FnGetSetUint16UptoSaid : Prop := fnGetSetUint16UptoRow.holds Tryd.pinned (OpenSpec.upto fnGetSetUint16Spec)

/-- 'laws.FnGetSetUint', WHERE WHAT IT READS IS OF BULK AT MOST 1048576: true; the input reads as it did. -/
def fnGetSetUintUptoRow : OpenClaim := { program := "ytbngkfdfjpbajaadoor", sum := "47e101fded77b9a70ba74cd57926d1bf5ac365349921c2926b50592530bcc636", func := "given.example/pub-saddlebag/laws.FnGetSetUint", spec := "fnGetSetUint", unfollowed := true, recurses := true, named := ["given.example/pub-saddlebag/pub/msgp/msgp.ErrShortBytes", "encoding/binary.BigEndian"], ifaces := true, apart := false, laid := [("given.example/pub-saddlebag/pub/msgp/msgp.ErrShortBytes", laid_given_example_pub_saddlebag_pub_msgp_msgp_ErrShortBytes)], narrowed := true }
def FnGetSetUintUptoSaid : Prop := fnGetSetUintUptoRow.holds Tryd.pinned (OpenSpec.upto fnGetSetUintSpec)

end Rows
end Go.Proofs.YtbngkfdfjpbajaaDoor
