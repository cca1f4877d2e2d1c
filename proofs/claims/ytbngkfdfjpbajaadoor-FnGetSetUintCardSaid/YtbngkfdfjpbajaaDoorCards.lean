/-
  DERIVED. GIVEN WITH THE SEED: THE CARDS: each row of YtbngkfdfjpbajaaDoorRows.lean that lists a variable, with what it lists TIED to the program's text (the seventh form; the later family's looks); each row that meets fmt, with fmt's text TOLD by the authors' own Lean function (tested against real Go, not proved from fmt's source: count such statements apart). THE CARD IS WHAT COUNTS. Prove the row's statement (the work); the ties are given (YtbngkfdfjpbajaaDoorTie.lean); close each card by the builder's one call (the guide's Derived/Test/ToyasCard.lean, 'card_holds'). Laid BY PROGRAM, IN A SANDBOX (cutbox-door.mjs). By AI agents, Wed Nov 11 2026. No macro, syntax, notation, axiom, sorry.
-/
import Derived.Test.YtbngkfdfjpbajaaDoorRows
import GoSem.ClaimSeven
namespace Go.Proofs.YtbngkfdfjpbajaaDoor
namespace Rows

/-- THE TIED CARD OF 'laws.FnHasKey'. -/
def fnHasKeyCard : Claim7 := { stood := { row := fnHasKeyRow, standIns := [], harness := (true, "7945d247b3132ce4462af5d43ef972cc6d87a64064689b196af0208e9a4206f9"), looks := false }, kinds := [], alts := [], laidByText := true, laidKinds := [.wider, .wider, .wider], laidTests := true, laidLooks := .later }
def FnHasKeyCardSaid : Prop := Claim7.holds Tryd.pinned (.plain (OpenSpec.ofChange fnHasKeySpec)) fnHasKeyCard

/-- THE TIED CARD OF 'laws.FnGetSetUint16'. -/
def fnGetSetUint16Card : Claim7 := { stood := { row := fnGetSetUint16Row, standIns := [], harness := (true, "7945d247b3132ce4462af5d43ef972cc6d87a64064689b196af0208e9a4206f9"), looks := false }, kinds := [], alts := [], laidByText := true, laidKinds := [.wider], laidTests := true, laidLooks := .later }
def FnGetSetUint16CardSaid : Prop := Claim7.holds Tryd.pinned (.plain (OpenSpec.ofChange fnGetSetUint16Spec)) fnGetSetUint16Card

/-- THE TIED CARD OF 'laws.FnGetSetUint'. -/
def fnGetSetUintCard : Claim7 := { stood := { row := fnGetSetUintRow, standIns := [], harness := (true, "7945d247b3132ce4462af5d43ef972cc6d87a64064689b196af0208e9a4206f9"), looks := false }, kinds := [], alts := [], laidByText := true, laidKinds := [.wider], laidTests := true, laidLooks := .later }
def FnGetSetUintCardSaid : Prop := Claim7.holds Tryd.pinned (.plain (OpenSpec.ofChange fnGetSetUintSpec)) fnGetSetUintCard

/-- THE SECOND FORM's CARD OF 'laws.FnHasKey'. -/
def fnHasKeyUptoCard : Claim7 := { stood := { row := fnHasKeyUptoRow, standIns := [], harness := (true, "7945d247b3132ce4462af5d43ef972cc6d87a64064689b196af0208e9a4206f9"), looks := false }, kinds := [], alts := [], laidByText := true, laidKinds := [.wider, .wider, .wider], laidTests := true, laidLooks := .later }
def FnHasKeyUptoCardSaid : Prop := Claim7.holds Tryd.pinned (.plain (OpenSpec.upto fnHasKeySpec)) fnHasKeyUptoCard

/-- THE SECOND FORM's CARD OF 'laws.FnGetSetUint16'. -/
def fnGetSetUint16UptoCard : Claim7 := { stood := { row := fnGetSetUint16UptoRow, standIns := [], harness := (true, "7945d247b3132ce4462af5d43ef972cc6d87a64064689b196af0208e9a4206f9"), looks := false }, kinds := [], alts := [], laidByText := true, laidKinds := [.wider], laidTests := true, laidLooks := .later }
def FnGetSetUint16UptoCardSaid : Prop := Claim7.holds Tryd.pinned (.plain (OpenSpec.upto fnGetSetUint16Spec)) fnGetSetUint16UptoCard

/-- THE SECOND FORM's CARD OF 'laws.FnGetSetUint'. -/
def fnGetSetUintUptoCard : Claim7 := { stood := { row := fnGetSetUintUptoRow, standIns := [], harness := (true, "7945d247b3132ce4462af5d43ef972cc6d87a64064689b196af0208e9a4206f9"), looks := false }, kinds := [], alts := [], laidByText := true, laidKinds := [.wider], laidTests := true, laidLooks := .later }
def FnGetSetUintUptoCardSaid : Prop := Claim7.holds Tryd.pinned (.plain (OpenSpec.upto fnGetSetUintSpec)) fnGetSetUintUptoCard
end Rows
end Go.Proofs.YtbngkfdfjpbajaaDoor
