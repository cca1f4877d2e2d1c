/- msgp.ReadInt64Bytes. -/
import Derived.Test.YtbngkfdfjpbajaaDoorFixW
namespace Go.Proofs.YtbngkfdfjpbajaaDoor
open Go.RowKit
set_option linter.unusedVariables false
set_option linter.unusedSimpArgs false

def dInt (l : List Int) : Option (Int × Nat) :=
  if l.length < 1 then none
  else if l.getD 0 0 < 128 then some (l.getD 0 0, 1)
  else if 224 ≤ l.getD 0 0 then some (l.getD 0 0 - 256, 1)
  else if l.getD 0 0 = 208 then if l.length < 2 then none else some (IntKind.i8.wrap (l.getD 1 0), 2)
  else if l.getD 0 0 = 204 then if l.length < 2 then none else some (l.getD 1 0, 2)
  else if l.getD 0 0 = 209 then if l.length < 3 then none else some (IntKind.i16.wrap (beN [l.getD 1 0, l.getD 2 0]), 3)
  else if l.getD 0 0 = 205 then if l.length < 3 then none else some (beN [l.getD 1 0, l.getD 2 0], 3)
  else if l.getD 0 0 = 210 then if l.length < 5 then none else some (wrap32 (beN [l.getD 1 0, l.getD 2 0, l.getD 3 0, l.getD 4 0]), 5)
  else if l.getD 0 0 = 206 then if l.length < 5 then none else some (beN [l.getD 1 0, l.getD 2 0, l.getD 3 0, l.getD 4 0], 5)
  else if l.getD 0 0 = 211 then if l.length < 9 then none else some (wrap64 (beN [l.getD 1 0, l.getD 2 0, l.getD 3 0, l.getD 4 0, l.getD 5 0, l.getD 6 0, l.getD 7 0, l.getD 8 0]), 9)
  else if l.getD 0 0 = 207 then if l.length < 9 then none else if beN [l.getD 1 0, l.getD 2 0, l.getD 3 0, l.getD 4 0, l.getD 5 0, l.getD 6 0, l.getD 7 0, l.getD 8 0] > 9223372036854775807 then none else some (beN [l.getD 1 0, l.getD 2 0, l.getD 3 0, l.getD 4 0, l.getD 5 0, l.getD 6 0, l.getD 7 0, l.getD 8 0], 9)
  else none

end Go.Proofs.YtbngkfdfjpbajaaDoor
