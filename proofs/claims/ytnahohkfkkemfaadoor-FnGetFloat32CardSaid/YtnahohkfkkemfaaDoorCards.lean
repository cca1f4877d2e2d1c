/-
  DERIVED. GIVEN WITH THE SEED: THE CARDS: each row of YtnahohkfkkemfaaDoorRows.lean that lists a variable, with what it lists TIED to the program's text (the seventh form; the later family's looks); each row that meets fmt, with fmt's text TOLD by the authors' own Lean function (tested against real Go, not proved from fmt's source: count such statements apart). THE CARD IS WHAT COUNTS. Prove the row's statement (the work); the ties are given (YtnahohkfkkemfaaDoorTie.lean); close each card by the builder's one call (the guide's Derived/Test/ToyasCard.lean, 'card_holds'). Laid BY PROGRAM, IN A SANDBOX (cutbox-door.mjs). By AI agents, Wed Nov 11 2026. No macro, syntax, notation, axiom, sorry.
-/
import Derived.Test.YtnahohkfkkemfaaDoorRows
import GoSem.ClaimSeven
namespace Go.Proofs.YtnahohkfkkemfaaDoor
namespace Rows

/-- THE TIED CARD OF 'laws.FnGetFloat32'. -/
def fnGetFloat32Card : Claim7 := { stood := { row := fnGetFloat32Row, standIns := [], harness := (true, "f65ebb9f850743916a907f3cc89be124ca176c9bcf958e8c51f65ee2741ffb5b"), looks := false }, kinds := [], alts := [], laidByText := true, laidKinds := [.wider], laidTests := true, laidLooks := .later }
def FnGetFloat32CardSaid : Prop := Claim7.holds Tryd.pinned (.plain (OpenSpec.ofChange fnGetFloat32Spec)) fnGetFloat32Card

/-- THE TIED CARD OF 'laws.FnGetBinHead'. -/
def fnGetBinHeadCard : Claim7 := { stood := { row := fnGetBinHeadRow, standIns := [], harness := (true, "f65ebb9f850743916a907f3cc89be124ca176c9bcf958e8c51f65ee2741ffb5b"), looks := false }, kinds := [], alts := [], laidByText := true, laidKinds := [.wider], laidTests := true, laidLooks := .later }
def FnGetBinHeadCardSaid : Prop := Claim7.holds Tryd.pinned (.plain (OpenSpec.ofChange fnGetBinHeadSpec)) fnGetBinHeadCard

/-- THE TIED CARD OF 'laws.FnGetBinZC'. -/
def fnGetBinZCCard : Claim7 := { stood := { row := fnGetBinZCRow, standIns := [], harness := (true, "f65ebb9f850743916a907f3cc89be124ca176c9bcf958e8c51f65ee2741ffb5b"), looks := false }, kinds := [], alts := [], laidByText := true, laidKinds := [.wider], laidTests := true, laidLooks := .later }
def FnGetBinZCCardSaid : Prop := Claim7.holds Tryd.pinned (.plain (OpenSpec.ofChange fnGetBinZCSpec)) fnGetBinZCCard

/-- THE TIED CARD OF 'laws.FnGetIntN'. -/
def fnGetIntNCard : Claim7 := { stood := { row := fnGetIntNRow, standIns := [], harness := (true, "f65ebb9f850743916a907f3cc89be124ca176c9bcf958e8c51f65ee2741ffb5b"), looks := false }, kinds := [], alts := [], laidByText := true, laidKinds := [.wider], laidTests := true, laidLooks := .later }
def FnGetIntNCardSaid : Prop := Claim7.holds Tryd.pinned (.plain (OpenSpec.ofChange fnGetIntNSpec)) fnGetIntNCard

/-- THE TIED CARD OF 'laws.FnGetUintN'. -/
def fnGetUintNCard : Claim7 := { stood := { row := fnGetUintNRow, standIns := [], harness := (true, "f65ebb9f850743916a907f3cc89be124ca176c9bcf958e8c51f65ee2741ffb5b"), looks := false }, kinds := [], alts := [], laidByText := true, laidKinds := [.wider], laidTests := true, laidLooks := .later }
def FnGetUintNCardSaid : Prop := Claim7.holds Tryd.pinned (.plain (OpenSpec.ofChange fnGetUintNSpec)) fnGetUintNCard

/-- THE TIED CARD OF 'laws.FnGetTime'. -/
def fnGetTimeCard : Claim7 := { stood := { row := fnGetTimeRow, standIns := [], harness := (true, "f65ebb9f850743916a907f3cc89be124ca176c9bcf958e8c51f65ee2741ffb5b"), looks := false }, kinds := [], alts := [], laidByText := true, laidKinds := [.wider], laidTests := true, laidLooks := .later }
def FnGetTimeCardSaid : Prop := Claim7.holds Tryd.pinned (.plain (OpenSpec.ofChange fnGetTimeSpec)) fnGetTimeCard

/-- THE SECOND FORM's CARD OF 'laws.FnGetFloat32'. -/
def fnGetFloat32UptoCard : Claim7 := { stood := { row := fnGetFloat32UptoRow, standIns := [], harness := (true, "f65ebb9f850743916a907f3cc89be124ca176c9bcf958e8c51f65ee2741ffb5b"), looks := false }, kinds := [], alts := [], laidByText := true, laidKinds := [.wider], laidTests := true, laidLooks := .later }
def FnGetFloat32UptoCardSaid : Prop := Claim7.holds Tryd.pinned (.plain (OpenSpec.upto fnGetFloat32Spec)) fnGetFloat32UptoCard

/-- THE SECOND FORM's CARD OF 'laws.FnGetBinHead'. -/
def fnGetBinHeadUptoCard : Claim7 := { stood := { row := fnGetBinHeadUptoRow, standIns := [], harness := (true, "f65ebb9f850743916a907f3cc89be124ca176c9bcf958e8c51f65ee2741ffb5b"), looks := false }, kinds := [], alts := [], laidByText := true, laidKinds := [.wider], laidTests := true, laidLooks := .later }
def FnGetBinHeadUptoCardSaid : Prop := Claim7.holds Tryd.pinned (.plain (OpenSpec.upto fnGetBinHeadSpec)) fnGetBinHeadUptoCard

/-- THE SECOND FORM's CARD OF 'laws.FnGetBinZC'. -/
def fnGetBinZCUptoCard : Claim7 := { stood := { row := fnGetBinZCUptoRow, standIns := [], harness := (true, "f65ebb9f850743916a907f3cc89be124ca176c9bcf958e8c51f65ee2741ffb5b"), looks := false }, kinds := [], alts := [], laidByText := true, laidKinds := [.wider], laidTests := true, laidLooks := .later }
def FnGetBinZCUptoCardSaid : Prop := Claim7.holds Tryd.pinned (.plain (OpenSpec.upto fnGetBinZCSpec)) fnGetBinZCUptoCard

/-- THE SECOND FORM's CARD OF 'laws.FnGetIntN'. -/
def fnGetIntNUptoCard : Claim7 := { stood := { row := fnGetIntNUptoRow, standIns := [], harness := (true, "f65ebb9f850743916a907f3cc89be124ca176c9bcf958e8c51f65ee2741ffb5b"), looks := false }, kinds := [], alts := [], laidByText := true, laidKinds := [.wider], laidTests := true, laidLooks := .later }
def FnGetIntNUptoCardSaid : Prop := Claim7.holds Tryd.pinned (.plain (OpenSpec.upto fnGetIntNSpec)) fnGetIntNUptoCard

/-- THE SECOND FORM's CARD OF 'laws.FnGetUintN'. -/
def fnGetUintNUptoCard : Claim7 := { stood := { row := fnGetUintNUptoRow, standIns := [], harness := (true, "f65ebb9f850743916a907f3cc89be124ca176c9bcf958e8c51f65ee2741ffb5b"), looks := false }, kinds := [], alts := [], laidByText := true, laidKinds := [.wider], laidTests := true, laidLooks := .later }
def FnGetUintNUptoCardSaid : Prop := Claim7.holds Tryd.pinned (.plain (OpenSpec.upto fnGetUintNSpec)) fnGetUintNUptoCard

/-- THE SECOND FORM's CARD OF 'laws.FnGetTime'. -/
def fnGetTimeUptoCard : Claim7 := { stood := { row := fnGetTimeUptoRow, standIns := [], harness := (true, "f65ebb9f850743916a907f3cc89be124ca176c9bcf958e8c51f65ee2741ffb5b"), looks := false }, kinds := [], alts := [], laidByText := true, laidKinds := [.wider], laidTests := true, laidLooks := .later }
def FnGetTimeUptoCardSaid : Prop := Claim7.holds Tryd.pinned (.plain (OpenSpec.upto fnGetTimeSpec)) fnGetTimeUptoCard
end Rows
end Go.Proofs.YtnahohkfkkemfaaDoor
