/-
  DERIVED. GIVEN WITH THE SEED: THE CARDS: each row of YtkbfppjniaejnaaDoorRows.lean that lists a variable, with what it lists TIED to the program's text (the seventh form; the later family's looks); each row that meets fmt, with fmt's text TOLD by the authors' own Lean function (tested against real Go, not proved from fmt's source: count such statements apart). THE CARD IS WHAT COUNTS. Prove the row's statement (the work); the ties are given (YtkbfppjniaejnaaDoorTie.lean); close each card by the builder's one call (the guide's Derived/Test/ToyasCard.lean, 'card_holds'). Laid BY PROGRAM, IN A SANDBOX (cutbox-door.mjs). By AI agents, Wed Nov 11 2026. No macro, syntax, notation, axiom, sorry.
-/
import Derived.Test.YtkbfppjniaejnaaDoorRows
import GoSem.ClaimSeven
namespace Go.Proofs.YtkbfppjniaejnaaDoor
namespace Rows

/-- THE TIED CARD OF 'laws.FnWriteLifetime'. -/
def fnWriteLifetimeCard : Claim7 := { stood := { row := fnWriteLifetimeRow, standIns := [], harness := (true, "c7307bbb1ebb6a72ea689691a8edf60212fc4b001059895211f78e856dbf51b5"), looks := false }, kinds := [], alts := [], laidByText := true, laidKinds := [.data, .pinned], laidTests := true, laidLooks := .later }
def FnWriteLifetimeCardSaid : Prop := Claim7.holds Tryd.pinned (.plain (OpenSpec.ofChange fnWriteLifetimeSpec)) fnWriteLifetimeCard

/-- THE TIED CARD OF 'laws.FnWriteLong'. -/
def fnWriteLongCard : Claim7 := { stood := { row := fnWriteLongRow, standIns := [], harness := (true, "c7307bbb1ebb6a72ea689691a8edf60212fc4b001059895211f78e856dbf51b5"), looks := false }, kinds := [], alts := [], laidByText := true, laidKinds := [.data, .pinned], laidTests := true, laidLooks := .later }
def FnWriteLongCardSaid : Prop := Claim7.holds Tryd.pinned (.plain (OpenSpec.ofChange fnWriteLongSpec)) fnWriteLongCard

/-- THE TIED CARD OF 'laws.FnWriteUint'. -/
def fnWriteUintCard : Claim7 := { stood := { row := fnWriteUintRow, standIns := [], harness := (true, "c7307bbb1ebb6a72ea689691a8edf60212fc4b001059895211f78e856dbf51b5"), looks := false }, kinds := [], alts := [], laidByText := true, laidKinds := [.data, .pinned], laidTests := true, laidLooks := .later }
def FnWriteUintCardSaid : Prop := Claim7.holds Tryd.pinned (.plain (OpenSpec.ofChange fnWriteUintSpec)) fnWriteUintCard

/-- THE TIED CARD OF 'laws.FnWriteSymbol'. -/
def fnWriteSymbolCard : Claim7 := { stood := { row := fnWriteSymbolRow, standIns := [], harness := (true, "c7307bbb1ebb6a72ea689691a8edf60212fc4b001059895211f78e856dbf51b5"), looks := false }, kinds := [], alts := [], laidByText := true, laidKinds := [.data, .pinned], laidTests := true, laidLooks := .later }
def FnWriteSymbolCardSaid : Prop := Claim7.holds Tryd.pinned (.plain (OpenSpec.ofChange fnWriteSymbolSpec)) fnWriteSymbolCard

/-- THE TIED CARD OF 'laws.FnWriteArrayByte'. -/
def fnWriteArrayByteCard : Claim7 := { stood := { row := fnWriteArrayByteRow, standIns := [], harness := (true, "c7307bbb1ebb6a72ea689691a8edf60212fc4b001059895211f78e856dbf51b5"), looks := false }, kinds := [], alts := [], laidByText := true, laidKinds := [.data, .pinned], laidTests := true, laidLooks := .later }
def FnWriteArrayByteCardSaid : Prop := Claim7.holds Tryd.pinned (.plain (OpenSpec.ofChange fnWriteArrayByteSpec)) fnWriteArrayByteCard

/-- THE TIED CARD OF 'laws.FnWriteArrayBoolean'. -/
def fnWriteArrayBooleanCard : Claim7 := { stood := { row := fnWriteArrayBooleanRow, standIns := [], harness := (true, "c7307bbb1ebb6a72ea689691a8edf60212fc4b001059895211f78e856dbf51b5"), looks := false }, kinds := [], alts := [], laidByText := true, laidKinds := [.data, .pinned], laidTests := true, laidLooks := .later }
def FnWriteArrayBooleanCardSaid : Prop := Claim7.holds Tryd.pinned (.plain (OpenSpec.ofChange fnWriteArrayBooleanSpec)) fnWriteArrayBooleanCard

/-- THE TIED CARD OF 'laws.FnWriteArrayDouble'. -/
def fnWriteArrayDoubleCard : Claim7 := { stood := { row := fnWriteArrayDoubleRow, standIns := [], harness := (true, "c7307bbb1ebb6a72ea689691a8edf60212fc4b001059895211f78e856dbf51b5"), looks := false }, kinds := [], alts := [], laidByText := true, laidKinds := [.data, .pinned], laidTests := true, laidLooks := .later }
def FnWriteArrayDoubleCardSaid : Prop := Claim7.holds Tryd.pinned (.plain (OpenSpec.ofChange fnWriteArrayDoubleSpec)) fnWriteArrayDoubleCard

/-- THE TIED CARD OF 'laws.FnWriteArrayBinary'. -/
def fnWriteArrayBinaryCard : Claim7 := { stood := { row := fnWriteArrayBinaryRow, standIns := [], harness := (true, "c7307bbb1ebb6a72ea689691a8edf60212fc4b001059895211f78e856dbf51b5"), looks := false }, kinds := [], alts := [], laidByText := true, laidKinds := [.data, .pinned], laidTests := true, laidLooks := .later }
def FnWriteArrayBinaryCardSaid : Prop := Claim7.holds Tryd.pinned (.plain (OpenSpec.ofChange fnWriteArrayBinarySpec)) fnWriteArrayBinaryCard

/-- THE SECOND FORM's CARD OF 'laws.FnWriteLifetime'. -/
def fnWriteLifetimeUptoCard : Claim7 := { stood := { row := fnWriteLifetimeUptoRow, standIns := [], harness := (true, "c7307bbb1ebb6a72ea689691a8edf60212fc4b001059895211f78e856dbf51b5"), looks := false }, kinds := [], alts := [], laidByText := true, laidKinds := [.data, .pinned], laidTests := true, laidLooks := .later }
def FnWriteLifetimeUptoCardSaid : Prop := Claim7.holds Tryd.pinned (.plain (OpenSpec.upto fnWriteLifetimeSpec)) fnWriteLifetimeUptoCard

/-- THE SECOND FORM's CARD OF 'laws.FnWriteLong'. -/
def fnWriteLongUptoCard : Claim7 := { stood := { row := fnWriteLongUptoRow, standIns := [], harness := (true, "c7307bbb1ebb6a72ea689691a8edf60212fc4b001059895211f78e856dbf51b5"), looks := false }, kinds := [], alts := [], laidByText := true, laidKinds := [.data, .pinned], laidTests := true, laidLooks := .later }
def FnWriteLongUptoCardSaid : Prop := Claim7.holds Tryd.pinned (.plain (OpenSpec.upto fnWriteLongSpec)) fnWriteLongUptoCard

/-- THE SECOND FORM's CARD OF 'laws.FnWriteUint'. -/
def fnWriteUintUptoCard : Claim7 := { stood := { row := fnWriteUintUptoRow, standIns := [], harness := (true, "c7307bbb1ebb6a72ea689691a8edf60212fc4b001059895211f78e856dbf51b5"), looks := false }, kinds := [], alts := [], laidByText := true, laidKinds := [.data, .pinned], laidTests := true, laidLooks := .later }
def FnWriteUintUptoCardSaid : Prop := Claim7.holds Tryd.pinned (.plain (OpenSpec.upto fnWriteUintSpec)) fnWriteUintUptoCard

/-- THE SECOND FORM's CARD OF 'laws.FnWriteSymbol'. -/
def fnWriteSymbolUptoCard : Claim7 := { stood := { row := fnWriteSymbolUptoRow, standIns := [], harness := (true, "c7307bbb1ebb6a72ea689691a8edf60212fc4b001059895211f78e856dbf51b5"), looks := false }, kinds := [], alts := [], laidByText := true, laidKinds := [.data, .pinned], laidTests := true, laidLooks := .later }
def FnWriteSymbolUptoCardSaid : Prop := Claim7.holds Tryd.pinned (.plain (OpenSpec.upto fnWriteSymbolSpec)) fnWriteSymbolUptoCard

/-- THE SECOND FORM's CARD OF 'laws.FnWriteArrayByte'. -/
def fnWriteArrayByteUptoCard : Claim7 := { stood := { row := fnWriteArrayByteUptoRow, standIns := [], harness := (true, "c7307bbb1ebb6a72ea689691a8edf60212fc4b001059895211f78e856dbf51b5"), looks := false }, kinds := [], alts := [], laidByText := true, laidKinds := [.data, .pinned], laidTests := true, laidLooks := .later }
def FnWriteArrayByteUptoCardSaid : Prop := Claim7.holds Tryd.pinned (.plain (OpenSpec.upto fnWriteArrayByteSpec)) fnWriteArrayByteUptoCard

/-- THE SECOND FORM's CARD OF 'laws.FnWriteArrayBoolean'. -/
def fnWriteArrayBooleanUptoCard : Claim7 := { stood := { row := fnWriteArrayBooleanUptoRow, standIns := [], harness := (true, "c7307bbb1ebb6a72ea689691a8edf60212fc4b001059895211f78e856dbf51b5"), looks := false }, kinds := [], alts := [], laidByText := true, laidKinds := [.data, .pinned], laidTests := true, laidLooks := .later }
def FnWriteArrayBooleanUptoCardSaid : Prop := Claim7.holds Tryd.pinned (.plain (OpenSpec.upto fnWriteArrayBooleanSpec)) fnWriteArrayBooleanUptoCard

/-- THE SECOND FORM's CARD OF 'laws.FnWriteArrayDouble'. -/
def fnWriteArrayDoubleUptoCard : Claim7 := { stood := { row := fnWriteArrayDoubleUptoRow, standIns := [], harness := (true, "c7307bbb1ebb6a72ea689691a8edf60212fc4b001059895211f78e856dbf51b5"), looks := false }, kinds := [], alts := [], laidByText := true, laidKinds := [.data, .pinned], laidTests := true, laidLooks := .later }
def FnWriteArrayDoubleUptoCardSaid : Prop := Claim7.holds Tryd.pinned (.plain (OpenSpec.upto fnWriteArrayDoubleSpec)) fnWriteArrayDoubleUptoCard

/-- THE SECOND FORM's CARD OF 'laws.FnWriteArrayBinary'. -/
def fnWriteArrayBinaryUptoCard : Claim7 := { stood := { row := fnWriteArrayBinaryUptoRow, standIns := [], harness := (true, "c7307bbb1ebb6a72ea689691a8edf60212fc4b001059895211f78e856dbf51b5"), looks := false }, kinds := [], alts := [], laidByText := true, laidKinds := [.data, .pinned], laidTests := true, laidLooks := .later }
def FnWriteArrayBinaryUptoCardSaid : Prop := Claim7.holds Tryd.pinned (.plain (OpenSpec.upto fnWriteArrayBinarySpec)) fnWriteArrayBinaryUptoCard
end Rows
end Go.Proofs.YtkbfppjniaejnaaDoor
