/- msgp's functions that put a code and a number behind each other. -/
import Derived.Test.YtbngkfdfjpbajaaApp
namespace Go.Proofs.Ytbngkfdfjpbajaa
open Go.RowKit
set_option linter.unusedVariables false

/-- Bytes stored one behind the other, from a place in a block on. -/
def puts (w : World) (g : Nat) : Nat → List Int → World
  | _, [] => w
  | off, x :: r => puts (w.setCell ⟨g, off, none⟩ (.int .u8 x)) g (off + 1) r

theorem puts_blk {E : TypeId} {g : Nat} : ∀ (l : List Int) (w : World) (off : Nat) (cs : Array Value), Blk w g E cs → off + l.length ≤ cs.size →
    ∃ cs', Blk (puts w g off l) g E cs' ∧ cs'.size = cs.size ∧ cs'.toList.take (off + l.length) = cs.toList.take off ++ bytesV l
  | [], w, off, cs, h, _ => ⟨cs, h, rfl, by simp [bytesV]⟩
  | x :: r, w, off, cs, h, hf => by
    simp only [List.length_cons] at hf
    obtain ⟨cs', h1, h2, h3⟩ := puts_blk r _ (off + 1) _ (h.set off (.int .u8 x)) (by simp; omega)
    refine ⟨cs', h1, by simpa using h2, ?_⟩
    rw [show off + (x :: r).length = off + 1 + r.length by simp; omega, h3]
    have e : (cs.setIfInBounds off (.int .u8 x)).toList.take (off + 1) = cs.toList.take off ++ [.int .u8 x] := by
      apply List.ext_getElem?
      intro i
      simp only [Array.toList_setIfInBounds, List.getElem?_append, List.length_take, Array.length_toList, List.getElem?_take, List.getElem?_set]
      rw [Nat.min_eq_left (by omega)]
      by_cases h4 : i < off
      · simp [h4, show i < off + 1 by omega, show off ≠ i by omega]
      · by_cases h5 : i = off
        · subst h5; simp; omega
        · simp [h4, show ¬ i < off + 1 by omega, show i - off ≠ 0 by omega]
    rw [e]
    simp [bytesV]

theorem puts_below {g : Nat} {B : Nat} (hB : B ≤ g) : ∀ (l : List Int) (w : World) (off : Nat), Below B w (puts w g off l)
  | [], w, _ => Below.refl _ _
  | x :: r, w, off => Below.trans ((Below.refl _ _).setCell hB _) (puts_below hB r _ _)

theorem puts_size (g : Nat) (l : List Int) (w : World) (off : Nat) : w.heap.size ≤ (puts w g off l).heap.size := (puts_below (B := 0) (Nat.zero_le _) l w off).size

theorem putMuint8_t (g off n c : Nat) (u : Int) (w : World) (hu0 : 0 ≤ u) (hu1 : u < 256) (cs : Array Value) (hB : Blk w g 5 cs) (hn : 2 ≤ n) (hfit : off + n ≤ cs.size) :
    Calls Try.prog 52 #[.slice (some ⟨g, off, none⟩) n c, .int .u8 u] w fun e w' => e = .returned (.tuple #[]) ∧ w' = puts w g off [204, u] := by
  have hc : ∀ i, i < 2 → ∃ v, w.cell? ⟨g, off + i, none⟩ = some v := fun i hi => ⟨_, hB.cell (Array.getElem?_eq_getElem (by omega))⟩
  obtain ⟨v0, h0⟩ := hc 0 (by omega)
  obtain ⟨v1, h1⟩ := hc 1 (by omega)
  have hf := fun i => hB.frozen i
  simp only [Nat.add_zero] at h0
  have hn' : (1 : Int) < n := by omega
  clear hc
  go_enter Try.func52, Try.ntmps52
  go_wp2_with fail
  go_end0
  exact ⟨rfl, rfl⟩

theorem putMuint16_t (g off n c : Nat) (u : Int) (w : World) (hu0 : 0 ≤ u) (hu1 : u < 65536) (cs : Array Value) (hB : Blk w g 5 cs) (hn : 3 ≤ n) (hfit : off + n ≤ cs.size) :
    Calls Try.prog 53 #[.slice (some ⟨g, off, none⟩) n c, .int .u16 u] w fun e w' => e = .returned (.tuple #[]) ∧ w' = puts w g off [205, u / 256, u % 256] := by
  have hc : ∀ i, i < 3 → ∃ v, w.cell? ⟨g, off + i, none⟩ = some v := fun i hi => ⟨_, hB.cell (Array.getElem?_eq_getElem (by omega))⟩
  obtain ⟨v0, h0⟩ := hc 0 (by omega)
  obtain ⟨v1, h1⟩ := hc 1 (by omega)
  obtain ⟨v2, h2⟩ := hc 2 (by omega)
  have hf := fun i => hB.frozen i
  simp only [Nat.add_zero] at h0
  have hn' : (2 : Int) < n := by omega
  clear hc
  go_enter Try.func53, Try.ntmps53
  go_wp2_with fail
  go_end0
  exact ⟨rfl, rfl⟩

theorem putMuint32_t (g off n c : Nat) (u : Int) (w : World) (hu0 : 0 ≤ u) (hu1 : u < 4294967296) (cs : Array Value) (hB : Blk w g 5 cs) (hn : 5 ≤ n) (hfit : off + n ≤ cs.size) :
    Calls Try.prog 54 #[.slice (some ⟨g, off, none⟩) n c, .int .u32 u] w fun e w' => e = .returned (.tuple #[]) ∧ w' = puts w g off [206, u / 16777216, u / 65536 % 256, u / 256 % 256, u % 256] := by
  have hc : ∀ i, i < 5 → ∃ v, w.cell? ⟨g, off + i, none⟩ = some v := fun i hi => ⟨_, hB.cell (Array.getElem?_eq_getElem (by omega))⟩
  obtain ⟨v0, h0⟩ := hc 0 (by omega)
  obtain ⟨v1, h1⟩ := hc 1 (by omega)
  obtain ⟨v2, h2⟩ := hc 2 (by omega)
  obtain ⟨v3, h3⟩ := hc 3 (by omega)
  obtain ⟨v4, h4⟩ := hc 4 (by omega)
  have hf := fun i => hB.frozen i
  simp only [Nat.add_zero] at h0
  have hn' : (4 : Int) < n := by omega
  clear hc
  go_enter Try.func54, Try.ntmps54
  go_wp2_with fail
  go_end0
  exact ⟨rfl, rfl⟩

theorem putMuint64_t (g off n c : Nat) (u : Int) (w : World) (hu0 : 0 ≤ u) (hu1 : u < 18446744073709551616) (cs : Array Value) (hB : Blk w g 5 cs) (hn : 9 ≤ n) (hfit : off + n ≤ cs.size) :
    Calls Try.prog 55 #[.slice (some ⟨g, off, none⟩) n c, .int .u64 u] w fun e w' => e = .returned (.tuple #[]) ∧ w' = puts w g off [207, u / 72057594037927936, u / 281474976710656 % 256, u / 1099511627776 % 256, u / 4294967296 % 256, u / 16777216 % 256, u / 65536 % 256, u / 256 % 256, u % 256] := by
  have hc : ∀ i, i < 9 → ∃ v, w.cell? ⟨g, off + i, none⟩ = some v := fun i hi => ⟨_, hB.cell (Array.getElem?_eq_getElem (by omega))⟩
  obtain ⟨v0, h0⟩ := hc 0 (by omega)
  obtain ⟨v1, h1⟩ := hc 1 (by omega)
  obtain ⟨v2, h2⟩ := hc 2 (by omega)
  obtain ⟨v3, h3⟩ := hc 3 (by omega)
  obtain ⟨v4, h4⟩ := hc 4 (by omega)
  obtain ⟨v5, h5⟩ := hc 5 (by omega)
  obtain ⟨v6, h6⟩ := hc 6 (by omega)
  obtain ⟨v7, h7⟩ := hc 7 (by omega)
  obtain ⟨v8, h8⟩ := hc 8 (by omega)
  have hf := fun i => hB.frozen i
  simp only [Nat.add_zero] at h0
  have hn' : (8 : Int) < n := by omega
  clear hc
  go_enter Try.func55, Try.ntmps55
  go_wp2_with fail
  go_end0
  exact ⟨rfl, rfl⟩

theorem putMint8_t (g off n c : Nat) (u : Int) (w : World) (hu0 : -128 ≤ u) (hu1 : u < 128) (cs : Array Value) (hB : Blk w g 5 cs) (hn : 2 ≤ n) (hfit : off + n ≤ cs.size) :
    Calls Try.prog 68 #[.slice (some ⟨g, off, none⟩) n c, .int .i8 u] w fun e w' => e = .returned (.tuple #[]) ∧ w' = puts w g off [208, u % 256] := by
  have hc : ∀ i, i < 2 → ∃ v, w.cell? ⟨g, off + i, none⟩ = some v := fun i hi => ⟨_, hB.cell (Array.getElem?_eq_getElem (by omega))⟩
  obtain ⟨v0, h0⟩ := hc 0 (by omega)
  obtain ⟨v1, h1⟩ := hc 1 (by omega)
  have hf := fun i => hB.frozen i
  simp only [Nat.add_zero] at h0
  have hn' : (1 : Int) < n := by omega
  clear hc
  go_enter Try.func68, Try.ntmps68
  go_wp2_with fail
  go_end0
  exact ⟨rfl, rfl⟩

theorem putMint16_t (g off n c : Nat) (u : Int) (w : World) (hu0 : -32768 ≤ u) (hu1 : u < 32768) (cs : Array Value) (hB : Blk w g 5 cs) (hn : 3 ≤ n) (hfit : off + n ≤ cs.size) :
    Calls Try.prog 64 #[.slice (some ⟨g, off, none⟩) n c, .int .i16 u] w fun e w' => e = .returned (.tuple #[]) ∧ w' = puts w g off [209, u / 256 % 256, u % 256] := by
  have hc : ∀ i, i < 3 → ∃ v, w.cell? ⟨g, off + i, none⟩ = some v := fun i hi => ⟨_, hB.cell (Array.getElem?_eq_getElem (by omega))⟩
  obtain ⟨v0, h0⟩ := hc 0 (by omega)
  obtain ⟨v1, h1⟩ := hc 1 (by omega)
  obtain ⟨v2, h2⟩ := hc 2 (by omega)
  have hf := fun i => hB.frozen i
  simp only [Nat.add_zero] at h0
  have hn' : (2 : Int) < n := by omega
  clear hc
  go_enter Try.func64, Try.ntmps64
  go_wp2_with fail
  go_end0
  exact ⟨rfl, rfl⟩

theorem putMint32_t (g off n c : Nat) (u : Int) (w : World) (hu0 : -2147483648 ≤ u) (hu1 : u < 2147483648) (cs : Array Value) (hB : Blk w g 5 cs) (hn : 5 ≤ n) (hfit : off + n ≤ cs.size) :
    Calls Try.prog 65 #[.slice (some ⟨g, off, none⟩) n c, .int .i32 u] w fun e w' => e = .returned (.tuple #[]) ∧ w' = puts w g off [210, u / 16777216 % 256, u / 65536 % 256, u / 256 % 256, u % 256] := by
  have hc : ∀ i, i < 5 → ∃ v, w.cell? ⟨g, off + i, none⟩ = some v := fun i hi => ⟨_, hB.cell (Array.getElem?_eq_getElem (by omega))⟩
  obtain ⟨v0, h0⟩ := hc 0 (by omega)
  obtain ⟨v1, h1⟩ := hc 1 (by omega)
  obtain ⟨v2, h2⟩ := hc 2 (by omega)
  obtain ⟨v3, h3⟩ := hc 3 (by omega)
  obtain ⟨v4, h4⟩ := hc 4 (by omega)
  have hf := fun i => hB.frozen i
  simp only [Nat.add_zero] at h0
  have hn' : (4 : Int) < n := by omega
  clear hc
  go_enter Try.func65, Try.ntmps65
  go_wp2_with fail
  go_end0
  exact ⟨rfl, rfl⟩

theorem putMint64_t (g off n c : Nat) (u : Int) (w : World) (hu0 : -9223372036854775808 ≤ u) (hu1 : u < 9223372036854775808) (cs : Array Value) (hB : Blk w g 5 cs) (hn : 9 ≤ n) (hfit : off + n ≤ cs.size) :
    Calls Try.prog 66 #[.slice (some ⟨g, off, none⟩) n c, .int .i64 u] w fun e w' => e = .returned (.tuple #[]) ∧ w' = puts w g off [211, u / 72057594037927936 % 256, u / 281474976710656 % 256, u / 1099511627776 % 256, u / 4294967296 % 256, u / 16777216 % 256, u / 65536 % 256, u / 256 % 256, u % 256] := by
  have hc : ∀ i, i < 9 → ∃ v, w.cell? ⟨g, off + i, none⟩ = some v := fun i hi => ⟨_, hB.cell (Array.getElem?_eq_getElem (by omega))⟩
  obtain ⟨v0, h0⟩ := hc 0 (by omega)
  obtain ⟨v1, h1⟩ := hc 1 (by omega)
  obtain ⟨v2, h2⟩ := hc 2 (by omega)
  obtain ⟨v3, h3⟩ := hc 3 (by omega)
  obtain ⟨v4, h4⟩ := hc 4 (by omega)
  obtain ⟨v5, h5⟩ := hc 5 (by omega)
  obtain ⟨v6, h6⟩ := hc 6 (by omega)
  obtain ⟨v7, h7⟩ := hc 7 (by omega)
  obtain ⟨v8, h8⟩ := hc 8 (by omega)
  have hf := fun i => hB.frozen i
  simp only [Nat.add_zero] at h0
  have hn' : (8 : Int) < n := by omega
  clear hc
  go_enter Try.func66, Try.ntmps66
  go_wp2_with fail
  go_end0
  exact ⟨rfl, rfl⟩


theorem prefixu16_t (g off n c : Nat) (p : Int) (u : Int) (w : World) (hu0 : 0 ≤ u) (hu1 : u < 65536) (cs : Array Value) (hB : Blk w g 5 cs) (hn : 3 ≤ n) (hfit : off + n ≤ cs.size) :
    Calls Try.prog 32 #[.slice (some ⟨g, off, none⟩) n c, .int .u8 p, .int .u16 u] w fun e w' => e = .returned (.tuple #[]) ∧ w' = puts w g off [p, u / 256, u % 256] := by
  have hc : ∀ i, i < 3 → ∃ v, w.cell? ⟨g, off + i, none⟩ = some v := fun i hi => ⟨_, hB.cell (Array.getElem?_eq_getElem (by omega))⟩
  obtain ⟨v0, h0⟩ := hc 0 (by omega)
  obtain ⟨v1, h1⟩ := hc 1 (by omega)
  obtain ⟨v2, h2⟩ := hc 2 (by omega)
  have hf := fun i => hB.frozen i
  simp only [Nat.add_zero] at h0
  have hn' : (2 : Int) < n := by omega
  clear hc
  go_enter Try.func32, Try.ntmps32
  go_wp2_with fail
  go_end0
  exact ⟨rfl, rfl⟩

theorem prefixu32_t (g off n c : Nat) (p : Int) (u : Int) (w : World) (hu0 : 0 ≤ u) (hu1 : u < 4294967296) (cs : Array Value) (hB : Blk w g 5 cs) (hn : 5 ≤ n) (hfit : off + n ≤ cs.size) :
    Calls Try.prog 33 #[.slice (some ⟨g, off, none⟩) n c, .int .u8 p, .int .u32 u] w fun e w' => e = .returned (.tuple #[]) ∧ w' = puts w g off [p, u / 16777216, u / 65536 % 256, u / 256 % 256, u % 256] := by
  have hc : ∀ i, i < 5 → ∃ v, w.cell? ⟨g, off + i, none⟩ = some v := fun i hi => ⟨_, hB.cell (Array.getElem?_eq_getElem (by omega))⟩
  obtain ⟨v0, h0⟩ := hc 0 (by omega)
  obtain ⟨v1, h1⟩ := hc 1 (by omega)
  obtain ⟨v2, h2⟩ := hc 2 (by omega)
  obtain ⟨v3, h3⟩ := hc 3 (by omega)
  obtain ⟨v4, h4⟩ := hc 4 (by omega)
  have hf := fun i => hB.frozen i
  simp only [Nat.add_zero] at h0
  have hn' : (4 : Int) < n := by omega
  clear hc
  go_enter Try.func33, Try.ntmps33
  go_wp2_with fail
  go_end0
  exact ⟨rfl, rfl⟩

end Go.Proofs.Ytbngkfdfjpbajaa
