/-
  NARROWER THAN 'FOR EVERY INPUT', by the rows' own cells (each row's printed sentence says how): FnWriteLifetime: laid · FnWriteLong: laid · FnWriteUint: laid · FnWriteSymbol: laid · FnWriteArrayByte: laid · FnWriteArrayBoolean: laid · FnWriteArrayDouble: laid · FnWriteArrayBinary: laid.
  DERIVED. THE GIVEN ROWS OF THIS SEAT. 8 by the template 'for every input the law returns true; each argument reads behind the call as it read before'; 0 by the template 'total and deterministic' (their statements: YtkbfppjniaejnaaDoorTotals.lean).
  GIVEN WITH THE SEED: the statements are not yours to turn. If you find one false, say at which input.
  Laid BY PROGRAM, IN A SANDBOX (cutbox-rows.mjs): the forced cells as the released guide's own fill.sh prints them over the translation f012f3e0ede40f04… (all of the seat's roots in one cut). By AI agents, Wed Nov 11 2026. No macro, syntax, notation, axiom, sorry.
-/
import Derived.Test.YtkbfppjniaejnaaDoorChecked
import GoSem.PinnedTables
import GoSem.Claim
import GoSem.ClaimJoined
import GoSem.ClaimMapViews
import Derived.JoinedTies
import Derived.KernelRfl
namespace Go.Proofs.YtkbfppjniaejnaaDoor
/- THE CELL 'sum', in the pinned program and in every row, IS THE sha256 OF THE DUMP (.gsa) THAT YtkbfppjniaejnaaDoorProg.lean LOADS. Nothing in Lean hashes anything: it is a label: what it is worth is what the hold of that sum in a sandbox is worth. -/
noncomputable def Tryd.pinned : Pinned := { name := "ytkbfppjniaejnaadoor", sum := "f012f3e0ede40f04ba60fbda4aee23b89fa5bf4dc475caef3a306c423fd94ae7", checked := Tryd.checked }
namespace Rows
def none {H : Type} : Left H := { results := [], args := [] }

/- WHAT THE LISTED PACKAGE-LEVEL VARIABLES READ AS WHEN THE CALL BEGINS. Each datum BY PROGRAM (the guide's laid-datum.mjs) off the statement by which the dump's own 'gosem.cut.vars' lays the variable. In a bare row this is a premise. The card (YtkbfppjniaejnaaDoorCards.lean) ties it to the program's text. -/
def laid_unicode_utf8_acceptRanges {H : Type} : DataW H := .agg [.agg [.lit (.int .u8 128), .lit (.int .u8 191)], .agg [.lit (.int .u8 160), .lit (.int .u8 191)], .agg [.lit (.int .u8 128), .lit (.int .u8 159)], .agg [.lit (.int .u8 144), .lit (.int .u8 191)], .agg [.lit (.int .u8 128), .lit (.int .u8 143)], .agg [.lit (.int .u8 0), .lit (.int .u8 0)], .agg [.lit (.int .u8 0), .lit (.int .u8 0)], .agg [.lit (.int .u8 0), .lit (.int .u8 0)], .agg [.lit (.int .u8 0), .lit (.int .u8 0)], .agg [.lit (.int .u8 0), .lit (.int .u8 0)], .agg [.lit (.int .u8 0), .lit (.int .u8 0)], .agg [.lit (.int .u8 0), .lit (.int .u8 0)], .agg [.lit (.int .u8 0), .lit (.int .u8 0)], .agg [.lit (.int .u8 0), .lit (.int .u8 0)], .agg [.lit (.int .u8 0), .lit (.int .u8 0)], .agg [.lit (.int .u8 0), .lit (.int .u8 0)]]
/-- One of Go's own tables, pinned by name: the form's constant. -/
def laid_unicode_utf8_first : DataW Unit := Go.Pinned.utf8First

/-- 'laws.FnWriteLifetime': WHATEVER THE INPUT: true; the input reads as it did. -/
def fnWriteLifetimeSpec : ChangeSpec := { name := "fnWriteLifetime", fn := fun _ => fun
  | [d] => { results := [.lit (.bool true)], args := [d] }
  | _ => none }
def fnWriteLifetimeRow : OpenClaim := { program := "ytkbfppjniaejnaadoor", sum := "f012f3e0ede40f04ba60fbda4aee23b89fa5bf4dc475caef3a306c423fd94ae7", func := "given.example/pub-saddlebag/laws.FnWriteLifetime", spec := "fnWriteLifetime", recurses := true, named := ["unicode/utf8.first", "unicode/utf8.acceptRanges"], apart := false, laid := [("unicode/utf8.acceptRanges", laid_unicode_utf8_acceptRanges), ("unicode/utf8.first", laid_unicode_utf8_first)] }
def FnWriteLifetimeSaid : Prop := fnWriteLifetimeRow.holds Tryd.pinned (OpenSpec.ofChange fnWriteLifetimeSpec)

/-- ITS FALSE NEIGHBOUR: 'it returns false'. Refute it at one input. -/
def fnWriteLifetimeWrong : ChangeSpec := { name := "fnWriteLifetime", fn := fun _ => fun
  | [d] => { results := [.lit (.bool false)], args := [d] }
  | _ => none }
def FnWriteLifetimeWrongFalsely : Prop := fnWriteLifetimeRow.holds Tryd.pinned (OpenSpec.ofChange fnWriteLifetimeWrong)

/-- 'laws.FnWriteLong': WHATEVER THE INPUT: true; the input reads as it did. -/
def fnWriteLongSpec : ChangeSpec := { name := "fnWriteLong", fn := fun _ => fun
  | [d] => { results := [.lit (.bool true)], args := [d] }
  | _ => none }
def fnWriteLongRow : OpenClaim := { program := "ytkbfppjniaejnaadoor", sum := "f012f3e0ede40f04ba60fbda4aee23b89fa5bf4dc475caef3a306c423fd94ae7", func := "given.example/pub-saddlebag/laws.FnWriteLong", spec := "fnWriteLong", recurses := true, named := ["unicode/utf8.first", "unicode/utf8.acceptRanges"], apart := false, laid := [("unicode/utf8.acceptRanges", laid_unicode_utf8_acceptRanges), ("unicode/utf8.first", laid_unicode_utf8_first)] }
def FnWriteLongSaid : Prop := fnWriteLongRow.holds Tryd.pinned (OpenSpec.ofChange fnWriteLongSpec)

/-- ITS FALSE NEIGHBOUR: 'it returns false'. Refute it at one input. -/
def fnWriteLongWrong : ChangeSpec := { name := "fnWriteLong", fn := fun _ => fun
  | [d] => { results := [.lit (.bool false)], args := [d] }
  | _ => none }
def FnWriteLongWrongFalsely : Prop := fnWriteLongRow.holds Tryd.pinned (OpenSpec.ofChange fnWriteLongWrong)

/-- 'laws.FnWriteUint': WHATEVER THE INPUT: true; the input reads as it did. -/
def fnWriteUintSpec : ChangeSpec := { name := "fnWriteUint", fn := fun _ => fun
  | [d] => { results := [.lit (.bool true)], args := [d] }
  | _ => none }
def fnWriteUintRow : OpenClaim := { program := "ytkbfppjniaejnaadoor", sum := "f012f3e0ede40f04ba60fbda4aee23b89fa5bf4dc475caef3a306c423fd94ae7", func := "given.example/pub-saddlebag/laws.FnWriteUint", spec := "fnWriteUint", recurses := true, named := ["unicode/utf8.first", "unicode/utf8.acceptRanges"], apart := false, laid := [("unicode/utf8.acceptRanges", laid_unicode_utf8_acceptRanges), ("unicode/utf8.first", laid_unicode_utf8_first)] }
def FnWriteUintSaid : Prop := fnWriteUintRow.holds Tryd.pinned (OpenSpec.ofChange fnWriteUintSpec)

/-- ITS FALSE NEIGHBOUR: 'it returns false'. Refute it at one input. -/
def fnWriteUintWrong : ChangeSpec := { name := "fnWriteUint", fn := fun _ => fun
  | [d] => { results := [.lit (.bool false)], args := [d] }
  | _ => none }
def FnWriteUintWrongFalsely : Prop := fnWriteUintRow.holds Tryd.pinned (OpenSpec.ofChange fnWriteUintWrong)

/-- 'laws.FnWriteSymbol': WHATEVER THE INPUT: true; the input reads as it did. -/
def fnWriteSymbolSpec : ChangeSpec := { name := "fnWriteSymbol", fn := fun _ => fun
  | [d] => { results := [.lit (.bool true)], args := [d] }
  | _ => none }
def fnWriteSymbolRow : OpenClaim := { program := "ytkbfppjniaejnaadoor", sum := "f012f3e0ede40f04ba60fbda4aee23b89fa5bf4dc475caef3a306c423fd94ae7", func := "given.example/pub-saddlebag/laws.FnWriteSymbol", spec := "fnWriteSymbol", recurses := true, named := ["unicode/utf8.first", "unicode/utf8.acceptRanges"], apart := false, laid := [("unicode/utf8.acceptRanges", laid_unicode_utf8_acceptRanges), ("unicode/utf8.first", laid_unicode_utf8_first)] }
def FnWriteSymbolSaid : Prop := fnWriteSymbolRow.holds Tryd.pinned (OpenSpec.ofChange fnWriteSymbolSpec)

/-- ITS FALSE NEIGHBOUR: 'it returns false'. Refute it at one input. -/
def fnWriteSymbolWrong : ChangeSpec := { name := "fnWriteSymbol", fn := fun _ => fun
  | [d] => { results := [.lit (.bool false)], args := [d] }
  | _ => none }
def FnWriteSymbolWrongFalsely : Prop := fnWriteSymbolRow.holds Tryd.pinned (OpenSpec.ofChange fnWriteSymbolWrong)

/-- 'laws.FnWriteArrayByte': WHATEVER THE INPUT: true; the input reads as it did. -/
def fnWriteArrayByteSpec : ChangeSpec := { name := "fnWriteArrayByte", fn := fun _ => fun
  | [d] => { results := [.lit (.bool true)], args := [d] }
  | _ => none }
def fnWriteArrayByteRow : OpenClaim := { program := "ytkbfppjniaejnaadoor", sum := "f012f3e0ede40f04ba60fbda4aee23b89fa5bf4dc475caef3a306c423fd94ae7", func := "given.example/pub-saddlebag/laws.FnWriteArrayByte", spec := "fnWriteArrayByte", recurses := true, named := ["unicode/utf8.first", "unicode/utf8.acceptRanges"], apart := false, laid := [("unicode/utf8.acceptRanges", laid_unicode_utf8_acceptRanges), ("unicode/utf8.first", laid_unicode_utf8_first)] }
def FnWriteArrayByteSaid : Prop := fnWriteArrayByteRow.holds Tryd.pinned (OpenSpec.ofChange fnWriteArrayByteSpec)

/-- ITS FALSE NEIGHBOUR: 'it returns false'. Refute it at one input. -/
def fnWriteArrayByteWrong : ChangeSpec := { name := "fnWriteArrayByte", fn := fun _ => fun
  | [d] => { results := [.lit (.bool false)], args := [d] }
  | _ => none }
def FnWriteArrayByteWrongFalsely : Prop := fnWriteArrayByteRow.holds Tryd.pinned (OpenSpec.ofChange fnWriteArrayByteWrong)

/-- 'laws.FnWriteArrayBoolean': WHATEVER THE INPUT: true; the input reads as it did. -/
def fnWriteArrayBooleanSpec : ChangeSpec := { name := "fnWriteArrayBoolean", fn := fun _ => fun
  | [d] => { results := [.lit (.bool true)], args := [d] }
  | _ => none }
def fnWriteArrayBooleanRow : OpenClaim := { program := "ytkbfppjniaejnaadoor", sum := "f012f3e0ede40f04ba60fbda4aee23b89fa5bf4dc475caef3a306c423fd94ae7", func := "given.example/pub-saddlebag/laws.FnWriteArrayBoolean", spec := "fnWriteArrayBoolean", recurses := true, named := ["unicode/utf8.first", "unicode/utf8.acceptRanges"], apart := false, laid := [("unicode/utf8.acceptRanges", laid_unicode_utf8_acceptRanges), ("unicode/utf8.first", laid_unicode_utf8_first)] }
def FnWriteArrayBooleanSaid : Prop := fnWriteArrayBooleanRow.holds Tryd.pinned (OpenSpec.ofChange fnWriteArrayBooleanSpec)

/-- ITS FALSE NEIGHBOUR: 'it returns false'. Refute it at one input. -/
def fnWriteArrayBooleanWrong : ChangeSpec := { name := "fnWriteArrayBoolean", fn := fun _ => fun
  | [d] => { results := [.lit (.bool false)], args := [d] }
  | _ => none }
def FnWriteArrayBooleanWrongFalsely : Prop := fnWriteArrayBooleanRow.holds Tryd.pinned (OpenSpec.ofChange fnWriteArrayBooleanWrong)

/-- 'laws.FnWriteArrayDouble': WHATEVER THE INPUT: true; the input reads as it did. -/
def fnWriteArrayDoubleSpec : ChangeSpec := { name := "fnWriteArrayDouble", fn := fun _ => fun
  | [d] => { results := [.lit (.bool true)], args := [d] }
  | _ => none }
def fnWriteArrayDoubleRow : OpenClaim := { program := "ytkbfppjniaejnaadoor", sum := "f012f3e0ede40f04ba60fbda4aee23b89fa5bf4dc475caef3a306c423fd94ae7", func := "given.example/pub-saddlebag/laws.FnWriteArrayDouble", spec := "fnWriteArrayDouble", inPlace := ["math.Float64frombits", "math.Float64bits"], recurses := true, named := ["unicode/utf8.first", "unicode/utf8.acceptRanges"], apart := false, laid := [("unicode/utf8.acceptRanges", laid_unicode_utf8_acceptRanges), ("unicode/utf8.first", laid_unicode_utf8_first)] }
def FnWriteArrayDoubleSaid : Prop := fnWriteArrayDoubleRow.holds Tryd.pinned (OpenSpec.ofChange fnWriteArrayDoubleSpec)

/-- ITS FALSE NEIGHBOUR: 'it returns false'. Refute it at one input. -/
def fnWriteArrayDoubleWrong : ChangeSpec := { name := "fnWriteArrayDouble", fn := fun _ => fun
  | [d] => { results := [.lit (.bool false)], args := [d] }
  | _ => none }
def FnWriteArrayDoubleWrongFalsely : Prop := fnWriteArrayDoubleRow.holds Tryd.pinned (OpenSpec.ofChange fnWriteArrayDoubleWrong)

/-- 'laws.FnWriteArrayBinary': WHATEVER THE INPUT: true; the input reads as it did. -/
def fnWriteArrayBinarySpec : ChangeSpec := { name := "fnWriteArrayBinary", fn := fun _ => fun
  | [d] => { results := [.lit (.bool true)], args := [d] }
  | _ => none }
def fnWriteArrayBinaryRow : OpenClaim := { program := "ytkbfppjniaejnaadoor", sum := "f012f3e0ede40f04ba60fbda4aee23b89fa5bf4dc475caef3a306c423fd94ae7", func := "given.example/pub-saddlebag/laws.FnWriteArrayBinary", spec := "fnWriteArrayBinary", recurses := true, named := ["unicode/utf8.first", "unicode/utf8.acceptRanges"], apart := false, laid := [("unicode/utf8.acceptRanges", laid_unicode_utf8_acceptRanges), ("unicode/utf8.first", laid_unicode_utf8_first)] }
def FnWriteArrayBinarySaid : Prop := fnWriteArrayBinaryRow.holds Tryd.pinned (OpenSpec.ofChange fnWriteArrayBinarySpec)

/-- ITS FALSE NEIGHBOUR: 'it returns false'. Refute it at one input. -/
def fnWriteArrayBinaryWrong : ChangeSpec := { name := "fnWriteArrayBinary", fn := fun _ => fun
  | [d] => { results := [.lit (.bool false)], args := [d] }
  | _ => none }
def FnWriteArrayBinaryWrongFalsely : Prop := fnWriteArrayBinaryRow.holds Tryd.pinned (OpenSpec.ofChange fnWriteArrayBinaryWrong)

/- THE SECOND FORM. 'bulk': how many values and letters a reading holds, each counted each time it is reached (what is shared counts as often as it is met; a slice's spare places count too). A statement '..UptoSaid' is the law's where the arguments, and the package variables that the reading takes, are together of bulk at most 1048576: NARROWER than '..Said'. Prove '..Said' where nothing that the law and all that it calls make is longer than what came in: it says more and counts as full. Else prove '..UptoSaid'. A law counts once. -/
mutual
def uptoBulk {H : Type} : DataW H → Nat
  | .lit (.string bytes) => bytes.length + 1
  | .lit _ => 1
  | .nil => 1
  | .ptr d => uptoBulk d + 1
  | .slice elems spare => uptoBulkAll elems + uptoBulkAll spare + 1
  | .agg parts => uptoBulkAll parts + 1
  | .iface _ d => uptoBulk d + 1
  | .map entries => uptoBulkEntries entries + 1
  | .held _ => 1
def uptoBulkAll {H : Type} : List (DataW H) → Nat
  | [] => 0
  | d :: r => uptoBulk d + uptoBulkAll r
def uptoBulkEntries {H : Type} : List (Lit × DataW H) → Nat
  | [] => 0
  | x :: r => uptoBulkEntry x + uptoBulkEntries r
def uptoBulkEntry {H : Type} : Lit × DataW H → Nat
  | (.string bytes, d) => bytes.length + uptoBulk d + 1
  | (_, d) => uptoBulk d + 1
 end
def uptoSmall : (H : Type) → List (DataW H) → Bool := fun _ ds => decide (uptoBulkAll ds ≤ 1048576)
def OpenSpec.upto (s : _root_.Go.ChangeSpec) : _root_.Go.OpenSpec := { _root_.Go.OpenSpec.ofChange s with cond := some uptoSmall }

/-- 'laws.FnWriteLifetime', WHERE WHAT IT READS IS OF BULK AT MOST 1048576: true; the input reads as it did. -/
def fnWriteLifetimeUptoRow : OpenClaim := { program := "ytkbfppjniaejnaadoor", sum := "f012f3e0ede40f04ba60fbda4aee23b89fa5bf4dc475caef3a306c423fd94ae7", func := "given.example/pub-saddlebag/laws.FnWriteLifetime", spec := "fnWriteLifetime", recurses := true, named := ["unicode/utf8.first", "unicode/utf8.acceptRanges"], apart := false, laid := [("unicode/utf8.acceptRanges", laid_unicode_utf8_acceptRanges), ("unicode/utf8.first", laid_unicode_utf8_first)], narrowed := true }
def FnWriteLifetimeUptoSaid : Prop := fnWriteLifetimeUptoRow.holds Tryd.pinned (OpenSpec.upto fnWriteLifetimeSpec)

/-- 'laws.FnWriteLong', WHERE WHAT IT READS IS OF BULK AT MOST 1048576: true; the input reads as it did. -/
def fnWriteLongUptoRow : OpenClaim := { program := "ytkbfppjniaejnaadoor", sum := "f012f3e0ede40f04ba60fbda4aee23b89fa5bf4dc475caef3a306c423fd94ae7", func := "given.example/pub-saddlebag/laws.FnWriteLong", spec := "fnWriteLong", recurses := true, named := ["unicode/utf8.first", "unicode/utf8.acceptRanges"], apart := false, laid := [("unicode/utf8.acceptRanges", laid_unicode_utf8_acceptRanges), ("unicode/utf8.first", laid_unicode_utf8_first)], narrowed := true }
def FnWriteLongUptoSaid : Prop := fnWriteLongUptoRow.holds Tryd.pinned (OpenSpec.upto fnWriteLongSpec)

/-- 'laws.FnWriteUint', WHERE WHAT IT READS IS OF BULK AT MOST 1048576: true; the input reads as it did. -/
def fnWriteUintUptoRow : OpenClaim := { program := "ytkbfppjniaejnaadoor", sum := "f012f3e0ede40f04ba60fbda4aee23b89fa5bf4dc475caef3a306c423fd94ae7", func := "given.example/pub-saddlebag/laws.FnWriteUint", spec := "fnWriteUint", recurses := true, named := ["unicode/utf8.first", "unicode/utf8.acceptRanges"], apart := false, laid := [("unicode/utf8.acceptRanges", laid_unicode_utf8_acceptRanges), ("unicode/utf8.first", laid_unicode_utf8_first)], narrowed := true }
def FnWriteUintUptoSaid : Prop := fnWriteUintUptoRow.holds Tryd.pinned (OpenSpec.upto fnWriteUintSpec)

/-- 'laws.FnWriteSymbol', WHERE WHAT IT READS IS OF BULK AT MOST 1048576: true; the input reads as it did. -/
def fnWriteSymbolUptoRow : OpenClaim := { program := "ytkbfppjniaejnaadoor", sum := "f012f3e0ede40f04ba60fbda4aee23b89fa5bf4dc475caef3a306c423fd94ae7", func := "given.example/pub-saddlebag/laws.FnWriteSymbol", spec := "fnWriteSymbol", recurses := true, named := ["unicode/utf8.first", "unicode/utf8.acceptRanges"], apart := false, laid := [("unicode/utf8.acceptRanges", laid_unicode_utf8_acceptRanges), ("unicode/utf8.first", laid_unicode_utf8_first)], narrowed := true }
def FnWriteSymbolUptoSaid : Prop := fnWriteSymbolUptoRow.holds Tryd.pinned (OpenSpec.upto fnWriteSymbolSpec)

/-- 'laws.FnWriteArrayByte', WHERE WHAT IT READS IS OF BULK AT MOST 1048576: true; the input reads as it did. -/
def fnWriteArrayByteUptoRow : OpenClaim := { program := "ytkbfppjniaejnaadoor", sum := "f012f3e0ede40f04ba60fbda4aee23b89fa5bf4dc475caef3a306c423fd94ae7", func := "given.example/pub-saddlebag/laws.FnWriteArrayByte", spec := "fnWriteArrayByte", recurses := true, named := ["unicode/utf8.first", "unicode/utf8.acceptRanges"], apart := false, laid := [("unicode/utf8.acceptRanges", laid_unicode_utf8_acceptRanges), ("unicode/utf8.first", laid_unicode_utf8_first)], narrowed := true }
def FnWriteArrayByteUptoSaid : Prop := fnWriteArrayByteUptoRow.holds Tryd.pinned (OpenSpec.upto fnWriteArrayByteSpec)

/-- 'laws.FnWriteArrayBoolean', WHERE WHAT IT READS IS OF BULK AT MOST 1048576: true; the input reads as it did. -/
def fnWriteArrayBooleanUptoRow : OpenClaim := { program := "ytkbfppjniaejnaadoor", sum := "f012f3e0ede40f04ba60fbda4aee23b89fa5bf4dc475caef3a306c423fd94ae7", func := "given.example/pub-saddlebag/laws.FnWriteArrayBoolean", spec := "fnWriteArrayBoolean", recurses := true, named := ["unicode/utf8.first", "unicode/utf8.acceptRanges"], apart := false, laid := [("unicode/utf8.acceptRanges", laid_unicode_utf8_acceptRanges), ("unicode/utf8.first", laid_unicode_utf8_first)], narrowed := true }
def FnWriteArrayBooleanUptoSaid : Prop := fnWriteArrayBooleanUptoRow.holds Tryd.pinned (OpenSpec.upto fnWriteArrayBooleanSpec)

/-- 'laws.FnWriteArrayDouble', WHERE WHAT IT READS IS OF BULK AT MOST 1048576: true; the input reads as it did. -/
def fnWriteArrayDoubleUptoRow : OpenClaim := { program := "ytkbfppjniaejnaadoor", sum := "f012f3e0ede40f04ba60fbda4aee23b89fa5bf4dc475caef3a306c423fd94ae7", func := "given.example/pub-saddlebag/laws.FnWriteArrayDouble", spec := "fnWriteArrayDouble", inPlace := ["math.Float64frombits", "math.Float64bits"], recurses := true, named := ["unicode/utf8.first", "unicode/utf8.acceptRanges"], apart := false, laid := [("unicode/utf8.acceptRanges", laid_unicode_utf8_acceptRanges), ("unicode/utf8.first", laid_unicode_utf8_first)], narrowed := true }
def FnWriteArrayDoubleUptoSaid : Prop := fnWriteArrayDoubleUptoRow.holds Tryd.pinned (OpenSpec.upto fnWriteArrayDoubleSpec)

/-- 'laws.FnWriteArrayBinary', WHERE WHAT IT READS IS OF BULK AT MOST 1048576: true; the input reads as it did. -/
def fnWriteArrayBinaryUptoRow : OpenClaim := { program := "ytkbfppjniaejnaadoor", sum := "f012f3e0ede40f04ba60fbda4aee23b89fa5bf4dc475caef3a306c423fd94ae7", func := "given.example/pub-saddlebag/laws.FnWriteArrayBinary", spec := "fnWriteArrayBinary", recurses := true, named := ["unicode/utf8.first", "unicode/utf8.acceptRanges"], apart := false, laid := [("unicode/utf8.acceptRanges", laid_unicode_utf8_acceptRanges), ("unicode/utf8.first", laid_unicode_utf8_first)], narrowed := true }
def FnWriteArrayBinaryUptoSaid : Prop := fnWriteArrayBinaryUptoRow.holds Tryd.pinned (OpenSpec.upto fnWriteArrayBinarySpec)

end Rows
end Go.Proofs.YtkbfppjniaejnaaDoor
