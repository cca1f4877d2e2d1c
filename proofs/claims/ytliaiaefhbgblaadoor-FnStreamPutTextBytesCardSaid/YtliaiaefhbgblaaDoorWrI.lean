/- (*msgp.Writer).WriteUint64, WriteInt64: what they write, and how it is read. -/
import Derived.Test.YtliaiaefhbgblaaDoorWrP
import Derived.Test.YtliaiaefhbgblaaDoorReads
namespace Go.Proofs.YtliaiaefhbgblaaDoor
open Go.RowKit
set_option linter.unusedVariables false
set_option linter.unusedSimpArgs false

/-- A method of a Writer, of one value, writes these bytes behind the others. -/
def Wrts (f : FuncId) (x : Value) (enc : List Int) : Prop := ∀ (B : Nat) (K : Nat → Prop) (W sz wl : Nat) (tot : List Int) (w : World), Wr w B K W sz wl tot → tot.length ≤ 1000000000000 →
  Calls Tryd.prog f #[.pointer (some ⟨W, 0, none⟩), x] w (WrRes B K W sz (tot ++ enc) w)

theorem u8_and127 (x : Int) (h0 : 0 ≤ x) (h1 : x < 128) : bits .and .u8 x 127 = x := by
  rw [u8_and x 127 h0 (by omega) (by omega) (by omega)]
  have := nat_mask7 x.toNat
  simp only [show (127 : Int).toNat = 127 from rfl, this]
  omega
theorem u8_or224 (x : Int) (h0 : -32 ≤ x) (h1 : x < 0) : bits .or .u8 (x % 256) 224 = x + 256 := by
  rw [u8_or (x % 256) 224 (by omega) (by omega) (by omega) (by omega)]
  have e : (x % 256).toNat = (x + 32).toNat + 224 := by omega
  have e2 : ((x + 32).toNat + 224) = 224 ||| (x + 32).toNat := by
    rw [nat_join 5 224 (x + 32).toNat (by decide) (by omega)]; omega
  rw [e, e2, show (224 : Int).toNat = 224 from rfl, Nat.or_comm 224, Nat.or_assoc, Nat.or_self, Nat.or_comm, nat_join 5 224 (x + 32).toNat (by decide) (by omega)]
  omega



end Go.Proofs.YtliaiaefhbgblaaDoor
