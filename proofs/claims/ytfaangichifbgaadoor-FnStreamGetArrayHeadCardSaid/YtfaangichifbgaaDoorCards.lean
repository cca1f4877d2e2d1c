/-
  DERIVED. GIVEN WITH THE SEED: THE CARDS: each row of YtfaangichifbgaaDoorRows.lean that lists a variable, with what it lists TIED to the program's text (the seventh form; the later family's looks); each row that meets fmt, with fmt's text TOLD by the authors' own Lean function (tested against real Go, not proved from fmt's source: count such statements apart). THE CARD IS WHAT COUNTS. Prove the row's statement (the work); the ties are given (YtfaangichifbgaaDoorTie.lean); close each card by the builder's one call (the guide's Derived/Test/ToyasCard.lean, 'card_holds'). Laid BY PROGRAM, IN A SANDBOX (cutbox-door.mjs). By AI agents, Wed Nov 11 2026. No macro, syntax, notation, axiom, sorry.
-/
import Derived.Test.YtfaangichifbgaaDoorRows
import GoSem.ClaimSeven
namespace Go.Proofs.YtfaangichifbgaaDoor
namespace Rows

/-- THE TIED CARD OF 'laws.FnStreamGetArrayHead'. -/
def fnStreamGetArrayHeadCard : Claim7 := { stood := { row := fnStreamGetArrayHeadRow, standIns := [], harness := (true, "a3b9b1d41a6cda0a0bc18b200d88e0ed32bccb68c4bfd7c51fcec75ff08f5a77"), looks := true }, kinds := [], alts := [], laidByText := true, laidKinds := [.sentinel, .sentinel], laidTests := true, laidLooks := .later }
def FnStreamGetArrayHeadCardSaid : Prop := Claim7.holds Tryd.pinned (.plain (OpenSpec.ofChange fnStreamGetArrayHeadSpec)) fnStreamGetArrayHeadCard

/-- THE TIED CARD OF 'laws.FnStreamGetFloat64'. -/
def fnStreamGetFloat64Card : Claim7 := { stood := { row := fnStreamGetFloat64Row, standIns := [], harness := (true, "a3b9b1d41a6cda0a0bc18b200d88e0ed32bccb68c4bfd7c51fcec75ff08f5a77"), looks := true }, kinds := [], alts := [], laidByText := true, laidKinds := [.sentinel, .sentinel], laidTests := true, laidLooks := .later }
def FnStreamGetFloat64CardSaid : Prop := Claim7.holds Tryd.pinned (.plain (OpenSpec.ofChange fnStreamGetFloat64Spec)) fnStreamGetFloat64Card

/-- THE TIED CARD OF 'laws.FnStreamGetDuration'. -/
def fnStreamGetDurationCard : Claim7 := { stood := { row := fnStreamGetDurationRow, standIns := [], harness := (true, "a3b9b1d41a6cda0a0bc18b200d88e0ed32bccb68c4bfd7c51fcec75ff08f5a77"), looks := true }, kinds := [], alts := [], laidByText := true, laidKinds := [.sentinel, .sentinel], laidTests := true, laidLooks := .later }
def FnStreamGetDurationCardSaid : Prop := Claim7.holds Tryd.pinned (.plain (OpenSpec.ofChange fnStreamGetDurationSpec)) fnStreamGetDurationCard

/-- THE TIED CARD OF 'laws.FnStreamGetInt8'. -/
def fnStreamGetInt8Card : Claim7 := { stood := { row := fnStreamGetInt8Row, standIns := [], harness := (true, "a3b9b1d41a6cda0a0bc18b200d88e0ed32bccb68c4bfd7c51fcec75ff08f5a77"), looks := true }, kinds := [], alts := [], laidByText := true, laidKinds := [.sentinel, .sentinel], laidTests := true, laidLooks := .later }
def FnStreamGetInt8CardSaid : Prop := Claim7.holds Tryd.pinned (.plain (OpenSpec.ofChange fnStreamGetInt8Spec)) fnStreamGetInt8Card

/-- THE TIED CARD OF 'laws.FnStreamGetUint8'. -/
def fnStreamGetUint8Card : Claim7 := { stood := { row := fnStreamGetUint8Row, standIns := [], harness := (true, "a3b9b1d41a6cda0a0bc18b200d88e0ed32bccb68c4bfd7c51fcec75ff08f5a77"), looks := true }, kinds := [], alts := [], laidByText := true, laidKinds := [.sentinel, .sentinel], laidTests := true, laidLooks := .later }
def FnStreamGetUint8CardSaid : Prop := Claim7.holds Tryd.pinned (.plain (OpenSpec.ofChange fnStreamGetUint8Spec)) fnStreamGetUint8Card

/-- THE SECOND FORM's CARD OF 'laws.FnStreamGetArrayHead'. -/
def fnStreamGetArrayHeadUptoCard : Claim7 := { stood := { row := fnStreamGetArrayHeadUptoRow, standIns := [], harness := (true, "a3b9b1d41a6cda0a0bc18b200d88e0ed32bccb68c4bfd7c51fcec75ff08f5a77"), looks := true }, kinds := [], alts := [], laidByText := true, laidKinds := [.sentinel, .sentinel], laidTests := true, laidLooks := .later }
def FnStreamGetArrayHeadUptoCardSaid : Prop := Claim7.holds Tryd.pinned (.plain (OpenSpec.upto fnStreamGetArrayHeadSpec)) fnStreamGetArrayHeadUptoCard

/-- THE SECOND FORM's CARD OF 'laws.FnStreamGetFloat64'. -/
def fnStreamGetFloat64UptoCard : Claim7 := { stood := { row := fnStreamGetFloat64UptoRow, standIns := [], harness := (true, "a3b9b1d41a6cda0a0bc18b200d88e0ed32bccb68c4bfd7c51fcec75ff08f5a77"), looks := true }, kinds := [], alts := [], laidByText := true, laidKinds := [.sentinel, .sentinel], laidTests := true, laidLooks := .later }
def FnStreamGetFloat64UptoCardSaid : Prop := Claim7.holds Tryd.pinned (.plain (OpenSpec.upto fnStreamGetFloat64Spec)) fnStreamGetFloat64UptoCard

/-- THE SECOND FORM's CARD OF 'laws.FnStreamGetDuration'. -/
def fnStreamGetDurationUptoCard : Claim7 := { stood := { row := fnStreamGetDurationUptoRow, standIns := [], harness := (true, "a3b9b1d41a6cda0a0bc18b200d88e0ed32bccb68c4bfd7c51fcec75ff08f5a77"), looks := true }, kinds := [], alts := [], laidByText := true, laidKinds := [.sentinel, .sentinel], laidTests := true, laidLooks := .later }
def FnStreamGetDurationUptoCardSaid : Prop := Claim7.holds Tryd.pinned (.plain (OpenSpec.upto fnStreamGetDurationSpec)) fnStreamGetDurationUptoCard

/-- THE SECOND FORM's CARD OF 'laws.FnStreamGetInt8'. -/
def fnStreamGetInt8UptoCard : Claim7 := { stood := { row := fnStreamGetInt8UptoRow, standIns := [], harness := (true, "a3b9b1d41a6cda0a0bc18b200d88e0ed32bccb68c4bfd7c51fcec75ff08f5a77"), looks := true }, kinds := [], alts := [], laidByText := true, laidKinds := [.sentinel, .sentinel], laidTests := true, laidLooks := .later }
def FnStreamGetInt8UptoCardSaid : Prop := Claim7.holds Tryd.pinned (.plain (OpenSpec.upto fnStreamGetInt8Spec)) fnStreamGetInt8UptoCard

/-- THE SECOND FORM's CARD OF 'laws.FnStreamGetUint8'. -/
def fnStreamGetUint8UptoCard : Claim7 := { stood := { row := fnStreamGetUint8UptoRow, standIns := [], harness := (true, "a3b9b1d41a6cda0a0bc18b200d88e0ed32bccb68c4bfd7c51fcec75ff08f5a77"), looks := true }, kinds := [], alts := [], laidByText := true, laidKinds := [.sentinel, .sentinel], laidTests := true, laidLooks := .later }
def FnStreamGetUint8UptoCardSaid : Prop := Claim7.holds Tryd.pinned (.plain (OpenSpec.upto fnStreamGetUint8Spec)) fnStreamGetUint8UptoCard
end Rows
end Go.Proofs.YtfaangichifbgaaDoor
