/-
  DERIVED. GIVEN WITH THE SEED: THE CARDS: each row of YtdncfolehkhjhaaDoorRows.lean that lists a variable, with what it lists TIED to the program's text (the seventh form; the later family's looks); each row that meets fmt, with fmt's text TOLD by the authors' own Lean function (tested against real Go, not proved from fmt's source: count such statements apart). THE CARD IS WHAT COUNTS. Prove the row's statement (the work); the ties are given (YtdncfolehkhjhaaDoorTie.lean); close each card by the builder's one call (the guide's Derived/Test/ToyasCard.lean, 'card_holds'). Laid BY PROGRAM, IN A SANDBOX (cutbox-door.mjs). By AI agents, Wed Nov 11 2026. No macro, syntax, notation, axiom, sorry.
-/
import Derived.Test.YtdncfolehkhjhaaDoorRows
import GoSem.ClaimSeven
namespace Go.Proofs.YtdncfolehkhjhaaDoor
namespace Rows

/-- THE TIED CARD OF 'laws.FnNumberUint'. -/
def fnNumberUintCard : Claim7 := { stood := { row := fnNumberUintRow, standIns := [], harness := (true, "85b99ac66303384cacc6c50863cb99a2431ba3296c120a7504912f28040dc7fd"), looks := false }, kinds := [], alts := [], laidByText := true, laidKinds := [.data], laidTests := true, laidLooks := .later }
def FnNumberUintCardSaid : Prop := Claim7.holds Tryd.pinned (.plain (OpenSpec.ofChange fnNumberUintSpec)) fnNumberUintCard

/-- THE TIED CARD OF 'laws.FnGetTime'. -/
def fnGetTimeCard : Claim7 := { stood := { row := fnGetTimeRow, standIns := [], harness := (true, "85b99ac66303384cacc6c50863cb99a2431ba3296c120a7504912f28040dc7fd"), looks := false }, kinds := [], alts := [], laidByText := true, laidKinds := [.wider], laidTests := true, laidLooks := .later }
def FnGetTimeCardSaid : Prop := Claim7.holds Tryd.pinned (.plain (OpenSpec.ofChange fnGetTimeSpec)) fnGetTimeCard

/-- THE TIED CARD OF 'laws.FnHasKey'. -/
def fnHasKeyCard : Claim7 := { stood := { row := fnHasKeyRow, standIns := [], harness := (true, "85b99ac66303384cacc6c50863cb99a2431ba3296c120a7504912f28040dc7fd"), looks := false }, kinds := [], alts := [], laidByText := true, laidKinds := [.wider, .wider, .wider], laidTests := true, laidLooks := .later }
def FnHasKeyCardSaid : Prop := Claim7.holds Tryd.pinned (.plain (OpenSpec.ofChange fnHasKeySpec)) fnHasKeyCard

/-- THE SECOND FORM's CARD OF 'laws.FnNumberUint'. -/
def fnNumberUintUptoCard : Claim7 := { stood := { row := fnNumberUintUptoRow, standIns := [], harness := (true, "85b99ac66303384cacc6c50863cb99a2431ba3296c120a7504912f28040dc7fd"), looks := false }, kinds := [], alts := [], laidByText := true, laidKinds := [.data], laidTests := true, laidLooks := .later }
def FnNumberUintUptoCardSaid : Prop := Claim7.holds Tryd.pinned (.plain (OpenSpec.upto fnNumberUintSpec)) fnNumberUintUptoCard

/-- THE SECOND FORM's CARD OF 'laws.FnGetTime'. -/
def fnGetTimeUptoCard : Claim7 := { stood := { row := fnGetTimeUptoRow, standIns := [], harness := (true, "85b99ac66303384cacc6c50863cb99a2431ba3296c120a7504912f28040dc7fd"), looks := false }, kinds := [], alts := [], laidByText := true, laidKinds := [.wider], laidTests := true, laidLooks := .later }
def FnGetTimeUptoCardSaid : Prop := Claim7.holds Tryd.pinned (.plain (OpenSpec.upto fnGetTimeSpec)) fnGetTimeUptoCard

/-- THE SECOND FORM's CARD OF 'laws.FnHasKey'. -/
def fnHasKeyUptoCard : Claim7 := { stood := { row := fnHasKeyUptoRow, standIns := [], harness := (true, "85b99ac66303384cacc6c50863cb99a2431ba3296c120a7504912f28040dc7fd"), looks := false }, kinds := [], alts := [], laidByText := true, laidKinds := [.wider, .wider, .wider], laidTests := true, laidLooks := .later }
def FnHasKeyUptoCardSaid : Prop := Claim7.holds Tryd.pinned (.plain (OpenSpec.upto fnHasKeySpec)) fnHasKeyUptoCard
end Rows
end Go.Proofs.YtdncfolehkhjhaaDoor
