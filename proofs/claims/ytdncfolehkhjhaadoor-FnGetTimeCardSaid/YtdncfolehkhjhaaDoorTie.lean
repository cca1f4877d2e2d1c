/-
  DERIVED. GIVEN WITH THE SEED: THE PROGRAM's TIES (one call each: nine closed facts by the kernel) AND EACH ROW's TIE, after the 31st guide's Derived/Test/Toyas{Tie, Card}.lean. No idea stands in it: it is a product of the set-up. Laid BY PROGRAM, IN A SANDBOX (cutbox-door.mjs). By AI agents, Wed Nov 11 2026. No macro, syntax, notation, axiom, sorry.
-/
import Derived.Test.YtdncfolehkhjhaaDoorRows
import Derived.LaidByTextLater
import Derived.SevenTiedAt
import Derived.LaidSub
import Derived.LaidOnce
namespace Go.Proofs.YtdncfolehkhjhaaDoor
open Go
set_option maxRecDepth 100000
theorem seatTie1 : Tryd.prog.laidByTextLater [("math/bits.deBruijn64tab", Rows.laid_math_bits_deBruijn64tab), ("given.example/pub-saddlebag/pub/msgp/msgp.ErrShortBytes", Rows.laid_given_example_pub_saddlebag_pub_msgp_msgp_ErrShortBytes), ("given.example/pub-saddlebag/pub/msgp/msgp.ErrRecursion", Rows.laid_given_example_pub_saddlebag_pub_msgp_msgp_ErrRecursion), ("given.example/pub-saddlebag/pub/msgp/msgp.fatal", Rows.laid_given_example_pub_saddlebag_pub_msgp_msgp_fatal)] [.data, .wider, .wider, .wider] true :=
  Program.laidByTextLater_by_one 32 8 65 (by kernel_rfl) (by kernel_rfl) (by kernel_rfl) (by kernel_rfl) (by kernel_rfl) (by kernel_rfl) (fun _ _ => by kernel_rfl)
theorem noOwnUnsafe : Tryd.pinned.checked.prog.headLifts.contains "ownunsafe" = false := by kernel_rfl
theorem tie : Tryd.prog.laidByTextLater [("math/bits.deBruijn64tab", Rows.laid_math_bits_deBruijn64tab)] [.data] true :=
  Program.laidByTextLater.sub seatTie1 ["math/bits.deBruijn64tab"] (by kernel_rfl) (by kernel_rfl)
theorem fnNumberUint_row_tie : Rows.fnNumberUintRow.laidByTextAt .later Tryd.pinned [.data] true :=
  OpenClaim.laidByTextAt_later rfl rfl tie noOwnUnsafe
theorem tie2 : Tryd.prog.laidByTextLater [("given.example/pub-saddlebag/pub/msgp/msgp.ErrShortBytes", Rows.laid_given_example_pub_saddlebag_pub_msgp_msgp_ErrShortBytes)] [.wider] true :=
  Program.laidByTextLater.sub seatTie1 ["given.example/pub-saddlebag/pub/msgp/msgp.ErrShortBytes"] (by kernel_rfl) (by kernel_rfl)
theorem fnGetTime_row_tie : Rows.fnGetTimeRow.laidByTextAt .later Tryd.pinned [.wider] true :=
  OpenClaim.laidByTextAt_later rfl rfl tie2 noOwnUnsafe
theorem tie3 : Tryd.prog.laidByTextLater [("given.example/pub-saddlebag/pub/msgp/msgp.ErrShortBytes", Rows.laid_given_example_pub_saddlebag_pub_msgp_msgp_ErrShortBytes), ("given.example/pub-saddlebag/pub/msgp/msgp.ErrRecursion", Rows.laid_given_example_pub_saddlebag_pub_msgp_msgp_ErrRecursion), ("given.example/pub-saddlebag/pub/msgp/msgp.fatal", Rows.laid_given_example_pub_saddlebag_pub_msgp_msgp_fatal)] [.wider, .wider, .wider] true :=
  Program.laidByTextLater.sub seatTie1 ["given.example/pub-saddlebag/pub/msgp/msgp.ErrShortBytes", "given.example/pub-saddlebag/pub/msgp/msgp.ErrRecursion", "given.example/pub-saddlebag/pub/msgp/msgp.fatal"] (by kernel_rfl) (by kernel_rfl)
theorem fnHasKey_row_tie : Rows.fnHasKeyRow.laidByTextAt .later Tryd.pinned [.wider, .wider, .wider] true :=
  OpenClaim.laidByTextAt_later rfl rfl tie3 noOwnUnsafe
theorem fnNumberUintUpto_row_tie : Rows.fnNumberUintUptoRow.laidByTextAt .later Tryd.pinned [.data] true :=
  OpenClaim.laidByTextAt_later rfl rfl tie noOwnUnsafe
theorem fnGetTimeUpto_row_tie : Rows.fnGetTimeUptoRow.laidByTextAt .later Tryd.pinned [.wider] true :=
  OpenClaim.laidByTextAt_later rfl rfl tie2 noOwnUnsafe
theorem fnHasKeyUpto_row_tie : Rows.fnHasKeyUptoRow.laidByTextAt .later Tryd.pinned [.wider, .wider, .wider] true :=
  OpenClaim.laidByTextAt_later rfl rfl tie3 noOwnUnsafe
end Go.Proofs.YtdncfolehkhjhaaDoor
