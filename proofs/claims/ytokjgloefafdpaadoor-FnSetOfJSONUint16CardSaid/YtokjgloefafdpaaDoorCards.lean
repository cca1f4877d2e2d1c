/-
  DERIVED. GIVEN WITH THE SEED: THE CARDS: each row of YtokjgloefafdpaaDoorRows.lean that lists a variable, with what it lists TIED to the program's text (the seventh form; the later family's looks); each row that meets fmt, with fmt's text TOLD by the authors' own Lean function (tested against real Go, not proved from fmt's source: count such statements apart). THE CARD IS WHAT COUNTS. Prove the row's statement (the work); the ties are given (YtokjgloefafdpaaDoorTie.lean); close each card by the builder's one call (the guide's Derived/Test/ToyasCard.lean, 'card_holds'). Laid BY PROGRAM, IN A SANDBOX (cutbox-door.mjs). By AI agents, Wed Nov 11 2026. No macro, syntax, notation, axiom, sorry.
-/
import Derived.Test.YtokjgloefafdpaaDoorRows
import GoSem.ClaimSeven
namespace Go.Proofs.YtokjgloefafdpaaDoor
namespace Rows

/-- THE TIED CARD OF 'laws.FnJSONSetString'. -/
def fnJSONSetStringCard : Claim7 := { stood := { row := fnJSONSetStringRow, standIns := [], harness := (true, "6c467b78e32603d9743e4d6d6c4ab4a80697d090e6147dac1ab4808dd3c863c0"), looks := true }, kinds := [], alts := [], laidByText := true, laidKinds := [.data, .pinned], laidTests := true, laidLooks := .later }
def FnJSONSetStringCardSaid : Prop := Claim7.holds Tryd.pinned (.plain (OpenSpec.ofChange fnJSONSetStringSpec)) fnJSONSetStringCard

/-- THE TIED CARD OF 'laws.FnJSONSetUint8'. -/
def fnJSONSetUint8Card : Claim7 := { stood := { row := fnJSONSetUint8Row, standIns := [], harness := (true, "6c467b78e32603d9743e4d6d6c4ab4a80697d090e6147dac1ab4808dd3c863c0"), looks := true }, kinds := [], alts := [], laidByText := true, laidKinds := [.data, .data, .data, .data, .pinned], laidTests := true, laidLooks := .later }
def FnJSONSetUint8CardSaid : Prop := Claim7.holds Tryd.pinned (.plain (OpenSpec.ofChange fnJSONSetUint8Spec)) fnJSONSetUint8Card

/-- THE TIED CARD OF 'laws.FnJSONSetInt64'. -/
def fnJSONSetInt64Card : Claim7 := { stood := { row := fnJSONSetInt64Row, standIns := [], harness := (true, "6c467b78e32603d9743e4d6d6c4ab4a80697d090e6147dac1ab4808dd3c863c0"), looks := true }, kinds := [], alts := [], laidByText := true, laidKinds := [.data, .data, .data, .data, .pinned], laidTests := true, laidLooks := .later }
def FnJSONSetInt64CardSaid : Prop := Claim7.holds Tryd.pinned (.plain (OpenSpec.ofChange fnJSONSetInt64Spec)) fnJSONSetInt64Card

/-- THE TIED CARD OF 'laws.FnSetOfJSONUint'. -/
def fnSetOfJSONUintCard : Claim7 := { stood := { row := fnSetOfJSONUintRow, standIns := [], harness := (true, "6c467b78e32603d9743e4d6d6c4ab4a80697d090e6147dac1ab4808dd3c863c0"), looks := true }, kinds := [], alts := [], laidByText := true, laidKinds := [.data, .data, .data, .sentinel, .sentinel], laidTests := true, laidLooks := .later }
def FnSetOfJSONUintCardSaid : Prop := Claim7.holds Tryd.pinned (.plain (OpenSpec.ofChange fnSetOfJSONUintSpec)) fnSetOfJSONUintCard

/-- THE TIED CARD OF 'laws.FnSetOfJSONUint16'. -/
def fnSetOfJSONUint16Card : Claim7 := { stood := { row := fnSetOfJSONUint16Row, standIns := [], harness := (true, "6c467b78e32603d9743e4d6d6c4ab4a80697d090e6147dac1ab4808dd3c863c0"), looks := true }, kinds := [], alts := [], laidByText := true, laidKinds := [.data, .data, .data, .sentinel, .sentinel], laidTests := true, laidLooks := .later }
def FnSetOfJSONUint16CardSaid : Prop := Claim7.holds Tryd.pinned (.plain (OpenSpec.ofChange fnSetOfJSONUint16Spec)) fnSetOfJSONUint16Card

/-- THE SECOND FORM's CARD OF 'laws.FnJSONSetString'. -/
def fnJSONSetStringUptoCard : Claim7 := { stood := { row := fnJSONSetStringUptoRow, standIns := [], harness := (true, "6c467b78e32603d9743e4d6d6c4ab4a80697d090e6147dac1ab4808dd3c863c0"), looks := true }, kinds := [], alts := [], laidByText := true, laidKinds := [.data, .pinned], laidTests := true, laidLooks := .later }
def FnJSONSetStringUptoCardSaid : Prop := Claim7.holds Tryd.pinned (.plain (OpenSpec.upto fnJSONSetStringSpec)) fnJSONSetStringUptoCard

/-- THE SECOND FORM's CARD OF 'laws.FnJSONSetUint8'. -/
def fnJSONSetUint8UptoCard : Claim7 := { stood := { row := fnJSONSetUint8UptoRow, standIns := [], harness := (true, "6c467b78e32603d9743e4d6d6c4ab4a80697d090e6147dac1ab4808dd3c863c0"), looks := true }, kinds := [], alts := [], laidByText := true, laidKinds := [.data, .data, .data, .data, .pinned], laidTests := true, laidLooks := .later }
def FnJSONSetUint8UptoCardSaid : Prop := Claim7.holds Tryd.pinned (.plain (OpenSpec.upto fnJSONSetUint8Spec)) fnJSONSetUint8UptoCard

/-- THE SECOND FORM's CARD OF 'laws.FnJSONSetInt64'. -/
def fnJSONSetInt64UptoCard : Claim7 := { stood := { row := fnJSONSetInt64UptoRow, standIns := [], harness := (true, "6c467b78e32603d9743e4d6d6c4ab4a80697d090e6147dac1ab4808dd3c863c0"), looks := true }, kinds := [], alts := [], laidByText := true, laidKinds := [.data, .data, .data, .data, .pinned], laidTests := true, laidLooks := .later }
def FnJSONSetInt64UptoCardSaid : Prop := Claim7.holds Tryd.pinned (.plain (OpenSpec.upto fnJSONSetInt64Spec)) fnJSONSetInt64UptoCard

/-- THE SECOND FORM's CARD OF 'laws.FnSetOfJSONUint'. -/
def fnSetOfJSONUintUptoCard : Claim7 := { stood := { row := fnSetOfJSONUintUptoRow, standIns := [], harness := (true, "6c467b78e32603d9743e4d6d6c4ab4a80697d090e6147dac1ab4808dd3c863c0"), looks := true }, kinds := [], alts := [], laidByText := true, laidKinds := [.data, .data, .data, .sentinel, .sentinel], laidTests := true, laidLooks := .later }
def FnSetOfJSONUintUptoCardSaid : Prop := Claim7.holds Tryd.pinned (.plain (OpenSpec.upto fnSetOfJSONUintSpec)) fnSetOfJSONUintUptoCard

/-- THE SECOND FORM's CARD OF 'laws.FnSetOfJSONUint16'. -/
def fnSetOfJSONUint16UptoCard : Claim7 := { stood := { row := fnSetOfJSONUint16UptoRow, standIns := [], harness := (true, "6c467b78e32603d9743e4d6d6c4ab4a80697d090e6147dac1ab4808dd3c863c0"), looks := true }, kinds := [], alts := [], laidByText := true, laidKinds := [.data, .data, .data, .sentinel, .sentinel], laidTests := true, laidLooks := .later }
def FnSetOfJSONUint16UptoCardSaid : Prop := Claim7.holds Tryd.pinned (.plain (OpenSpec.upto fnSetOfJSONUint16Spec)) fnSetOfJSONUint16UptoCard
end Rows
end Go.Proofs.YtokjgloefafdpaaDoor
