/- Plain lemmas on numbers and lists of bytes: no program in sight. -/
import Derived.Laws.BitsAllLaws
import Derived.WalkKit
import GoSem.Claim
namespace Go.Proofs.YtdncfolehkhjhaaDoor
set_option linter.unusedVariables false

/-- The number that bytes tell, the highest first. -/
def beN (l : List Int) : Int := l.foldl (fun u b => u * 256 + b) 0

theorem beN_nil : beN [] = 0 := rfl
theorem beN_snoc (l : List Int) (x : Int) : beN (l ++ [x]) = beN l * 256 + x := by simp [beN]

theorem take_succ_getD (l : List Int) (j : Nat) (h : j < l.length) : l.take (j + 1) = l.take j ++ [l.getD j 0] := by
  rw [List.take_succ_eq_append_getElem h]; simp [List.getD, List.getElem?_eq_getElem h]

theorem getD_mem (l : List Int) (j : Nat) (h : j < l.length) : l.getD j 0 ∈ l := by
  simp [List.getD, List.getElem?_eq_getElem h]

theorem beN_bd (l : List Int) (h : ∀ x ∈ l, 0 ≤ x ∧ x ≤ 255) : ∀ j : Nat, j ≤ l.length → 0 ≤ beN (l.take j) ∧ beN (l.take j) < ((256 ^ j : Nat) : Int)
  | 0, _ => by simp [beN]
  | j + 1, hj => by
    have ih := beN_bd l h j (by omega)
    have hx := h _ (getD_mem l j (by omega))
    rw [take_succ_getD l j (by omega), beN_snoc]
    have e : ((256 ^ (j + 1) : Nat) : Int) = ((256 ^ j : Nat) : Int) * 256 := by rw [Nat.pow_succ]; simp
    rw [e]
    omega

theorem pow256_le (j : Nat) (h : j ≤ 7) : 256 ^ j ≤ 72057594037927936 := by
  have : 256 ^ j ≤ 256 ^ 7 := Nat.pow_le_pow_right (by omega) h
  simpa using this

theorem or256 (x y : Int) (h0 : 0 ≤ x) (h1 : x < 72057594037927936) (h2 : 0 ≤ y) (h3 : y ≤ 255) :
    bits .or .u64 (IntKind.u64.wrap (x * 256)) (IntKind.u64.wrap y) = x * 256 + y := by
  rw [IntKind.wrap_u64, IntKind.wrap_u64, Int.emod_eq_of_lt (by omega) (by omega), Int.emod_eq_of_lt (by omega) (by omega), u64_or _ _ (by omega) (by omega) (by omega) (by omega),
    nat_join 8 _ _ (by omega) (by omega)]
  omega

theorem or256' (x y : Int) (h0 : 0 ≤ x) (h1 : x < 72057594037927936) (h2 : 0 ≤ y) (h3 : y ≤ 255) :
    bits .or .u64 (x * 256) y = x * 256 + y := by
  rw [u64_or _ _ (by omega) (by omega) (by omega) (by omega), nat_join 8 _ _ (by omega) (by omega)]
  omega

theorem i64_mask (s : Nat) (hs : s ≤ 62) (n : Int) : bits .and .i64 n ((2 ^ s - 1 : Nat) : Int) = n % ((2 ^ s : Nat) : Int) := by
  have hp : 2 ^ s ≤ 2 ^ 62 := Nat.pow_le_pow_right (by omega) hs
  have hpos : 1 ≤ 2 ^ s := Nat.one_le_two_pow
  have hm : (BitVec.ofInt 64 ((2 ^ s - 1 : Nat) : Int)).toNat = 2 ^ s - 1 := by
    rw [BitVec.toNat_ofInt]
    have : ((2 ^ s - 1 : Nat) : Int) % ((2 ^ 64 : Nat) : Int) = ((2 ^ s - 1 : Nat) : Int) := Int.emod_eq_of_lt (by omega) (by omega)
    rw [this]; simp
  have key : (BitVec.ofInt 64 n &&& BitVec.ofInt 64 ((2 ^ s - 1 : Nat) : Int)).toNat = (n % ((2 ^ 64 : Nat) : Int)).toNat % 2 ^ s := by
    rw [BitVec.toNat_and, BitVec.toNat_ofInt, hm, Nat.and_two_pow_sub_one_eq_mod]
  show IntKind.i64.wrap ((BitVec.ofInt 64 n &&& BitVec.ofInt 64 ((2 ^ s - 1 : Nat) : Int)).toNat : Nat) = n % ((2 ^ s : Nat) : Int)
  rw [key, IntKind.wrap_i64]
  have hd : ((2 ^ s : Nat) : Int) ∣ ((2 ^ 64 : Nat) : Int) := Int.natCast_dvd_natCast.2 (Nat.pow_dvd_pow 2 (by omega))
  have h0 : 0 ≤ n % ((2 ^ 64 : Nat) : Int) := Int.emod_nonneg _ (by omega)
  have e : (((n % ((2 ^ 64 : Nat) : Int)).toNat % 2 ^ s : Nat) : Int) = n % ((2 ^ s : Nat) : Int) := by
    rw [Int.natCast_emod, Int.toNat_of_nonneg h0, Int.emod_emod_of_dvd _ hd]
  have h1 : 0 ≤ n % ((2 ^ s : Nat) : Int) := Int.emod_nonneg _ (by omega)
  have h2 : n % ((2 ^ s : Nat) : Int) < ((2 ^ s : Nat) : Int) := Int.emod_lt_of_pos _ (by omega)
  rw [e]
  omega

theorem wrap_i8 (n : Int) : IntKind.i8.wrap n = (n + 128) % 256 - 128 := by
  simp [IntKind.wrap, IntKind.bits, IntKind.signed]
  split <;> omega
theorem wrap_i16 (n : Int) : IntKind.i16.wrap n = (n + 32768) % 65536 - 32768 := by
  simp [IntKind.wrap, IntKind.bits, IntKind.signed]
  split <;> omega
theorem i64_and31 (n : Int) : bits .and .i64 n 31 = n % 32 := i64_mask 5 (by omega) n
theorem i64_and15 (n : Int) : bits .and .i64 n 15 = n % 16 := i64_mask 4 (by omega) n
theorem wf_u8 (n : Int) (h : (Lit.int .u8 n).wf = true) : 0 ≤ n ∧ n < 256 := by
  simp [Lit.wf, IntKind.min, IntKind.max, IntKind.bits, IntKind.signed] at h
  omega
theorem wf_u16 (n : Int) (h : (Lit.int .u16 n).wf = true) : 0 ≤ n ∧ n < 65536 := by
  simp [Lit.wf, IntKind.min, IntKind.max, IntKind.bits, IntKind.signed] at h
  omega
theorem wf_u32 (n : Int) (h : (Lit.int .u32 n).wf = true) : 0 ≤ n ∧ n < 4294967296 := by
  simp [Lit.wf, IntKind.min, IntKind.max, IntKind.bits, IntKind.signed] at h
  omega
theorem wf_u64 (n : Int) (h : (Lit.int .u64 n).wf = true) : 0 ≤ n ∧ n < 18446744073709551616 := by
  simp [Lit.wf, IntKind.min, IntKind.max, IntKind.bits, IntKind.signed] at h
  omega
theorem wf_i8 (n : Int) (h : (Lit.int .i8 n).wf = true) : -128 ≤ n ∧ n < 128 := by
  simp [Lit.wf, IntKind.min, IntKind.max, IntKind.bits, IntKind.signed] at h
  omega
theorem wf_i16 (n : Int) (h : (Lit.int .i16 n).wf = true) : -32768 ≤ n ∧ n < 32768 := by
  simp [Lit.wf, IntKind.min, IntKind.max, IntKind.bits, IntKind.signed] at h
  omega
theorem wf_i32 (n : Int) (h : (Lit.int .i32 n).wf = true) : -2147483648 ≤ n ∧ n < 2147483648 := by
  simp [Lit.wf, IntKind.min, IntKind.max, IntKind.bits, IntKind.signed] at h
  omega
theorem wf_i64 (n : Int) (h : (Lit.int .i64 n).wf = true) : -9223372036854775808 ≤ n ∧ n < 9223372036854775808 := by
  simp [Lit.wf, IntKind.min, IntKind.max, IntKind.bits, IntKind.signed] at h
  omega
end Go.Proofs.YtdncfolehkhjhaaDoor
