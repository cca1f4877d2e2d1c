/-
  DERIVED. GIVEN WITH THE SEED: THE CARDS: each row of YtliaiaefhbgblaaDoorRows.lean that lists a variable, with what it lists TIED to the program's text (the seventh form; the later family's looks); each row that meets fmt, with fmt's text TOLD by the authors' own Lean function (tested against real Go, not proved from fmt's source: count such statements apart). THE CARD IS WHAT COUNTS. Prove the row's statement (the work); the ties are given (YtliaiaefhbgblaaDoorTie.lean); close each card by the builder's one call (the guide's Derived/Test/ToyasCard.lean, 'card_holds'). Laid BY PROGRAM, IN A SANDBOX (cutbox-door.mjs). By AI agents, Wed Nov 11 2026. No macro, syntax, notation, axiom, sorry.
-/
import Derived.Test.YtliaiaefhbgblaaDoorRows
import GoSem.ClaimSeven
namespace Go.Proofs.YtliaiaefhbgblaaDoor
namespace Rows

/-- THE TIED CARD OF 'laws.FnNumberUint'. -/
def fnNumberUintCard : Claim7 := { stood := { row := fnNumberUintRow, standIns := [], harness := (true, "73968ac30d7d5b8b9bde1b1234cbb0dc47533a718968c73ee6f80baa9a31df05"), looks := false }, kinds := [], alts := [], laidByText := true, laidKinds := [.data], laidTests := true, laidLooks := .later }
def FnNumberUintCardSaid : Prop := Claim7.holds Tryd.pinned (.plain (OpenSpec.ofChange fnNumberUintSpec)) fnNumberUintCard

/-- THE TIED CARD OF 'laws.FnStreamPutTextBytes'. -/
def fnStreamPutTextBytesCard : Claim7 := { stood := { row := fnStreamPutTextBytesRow, standIns := [], harness := (true, "73968ac30d7d5b8b9bde1b1234cbb0dc47533a718968c73ee6f80baa9a31df05"), looks := false }, kinds := [], alts := [], laidByText := true, laidKinds := [.wider], laidTests := true, laidLooks := .later }
def FnStreamPutTextBytesCardSaid : Prop := Claim7.holds Tryd.pinned (.plain (OpenSpec.ofChange fnStreamPutTextBytesSpec)) fnStreamPutTextBytesCard

/-- THE SECOND FORM's CARD OF 'laws.FnNumberUint'. -/
def fnNumberUintUptoCard : Claim7 := { stood := { row := fnNumberUintUptoRow, standIns := [], harness := (true, "73968ac30d7d5b8b9bde1b1234cbb0dc47533a718968c73ee6f80baa9a31df05"), looks := false }, kinds := [], alts := [], laidByText := true, laidKinds := [.data], laidTests := true, laidLooks := .later }
def FnNumberUintUptoCardSaid : Prop := Claim7.holds Tryd.pinned (.plain (OpenSpec.upto fnNumberUintSpec)) fnNumberUintUptoCard

/-- THE SECOND FORM's CARD OF 'laws.FnStreamPutTextBytes'. -/
def fnStreamPutTextBytesUptoCard : Claim7 := { stood := { row := fnStreamPutTextBytesUptoRow, standIns := [], harness := (true, "73968ac30d7d5b8b9bde1b1234cbb0dc47533a718968c73ee6f80baa9a31df05"), looks := false }, kinds := [], alts := [], laidByText := true, laidKinds := [.wider], laidTests := true, laidLooks := .later }
def FnStreamPutTextBytesUptoCardSaid : Prop := Claim7.holds Tryd.pinned (.plain (OpenSpec.upto fnStreamPutTextBytesSpec)) fnStreamPutTextBytesUptoCard
end Rows
end Go.Proofs.YtliaiaefhbgblaaDoor
