/- What a reader of MessagePack makes of written values: 'Reads'. -/
import Derived.Test.YtbngkfdfjpbajaaTake
import Derived.Test.YtbngkfdfjpbajaaSame
namespace Go.Proofs.Ytbngkfdfjpbajaa
open Go.RowKit
set_option linter.unusedVariables false

/-- These bytes, whatever stands behind them, are read as this value. -/
def Reads (enc : List Int) (k num : Int) (t : ByteArray) (x : Int) : Prop :=
  ∀ (w0 : World) (a : Option Addr) (n c : Nat) (rest : List Int) (lv : Int), 1 ≤ lv → Vw w0 a n c (enc ++ rest) →
    ∃ a' n' c', n' = rest.length ∧ Vw w0 a' n' c' rest ∧ ∀ w, Below w0.heap.size w0 w → Took 13 #[.slice a n c, .int .i64 lv] w (pk k num t x) a' n' c'

theorem reads_small (u : Int) (h : u < 128) : Reads [u] 3 u ⟨#[]⟩ 0 := by
  intro w0 a n c rest lv hlv hv
  obtain ⟨a', h1, h2⟩ := takePack_small u a n c rest lv w0 hv hlv h
  exact ⟨a', _, _, h1.len.symm, h1, h2⟩

theorem reads_nfix (u : Int) (h0 : 224 ≤ u) : Reads [u] 2 (u + 18446744073709551360) ⟨#[]⟩ 0 := by
  intro w0 a n c rest lv hlv hv
  obtain ⟨a', h1, h2⟩ := takePack_nfix u a n c rest lv w0 hv hlv h0
  exact ⟨a', _, _, h1.len.symm, (by simpa using h1), h2⟩

theorem reads_nil : Reads [192] 0 0 ⟨#[]⟩ 0 := by
  intro w0 a n c rest lv hlv hv
  obtain ⟨a', h1, h2⟩ := takePack_coded 192 a n c rest lv w0 hv hlv (by omega) (by omega) 0 0 0 ⟨#[]⟩ _ _ _ (fun a1 h1 => takeCoded_nil a1 _ _ rest lv w0 h1)
  exact ⟨a', _, _, h1.len.symm, h1, h2⟩

theorem reads_uint (b : Int) (k : Nat) (hb : b = 204 ∧ k = 1 ∨ b = 205 ∧ k = 2 ∨ b = 206 ∧ k = 4 ∨ b = 207 ∧ k = 8) (bs : List Int) (hl : bs.length = k) : Reads (b :: bs) 3 (beN bs) ⟨#[]⟩ 0 := by
  intro w0 a n c rest lv hlv hv
  have hn : k ≤ n - 1 := by have := hv.len; simp at this; omega
  obtain ⟨a', h1, h2⟩ := takePack_coded b a n c (bs ++ rest) lv w0 hv hlv (by omega) (by omega) 3 (beN bs) 0 ⟨#[]⟩ (n - 1 - k) (c - 1 - k) rest (fun a1 h1 => by
    have := takeCoded_uint b k hb a1 _ _ (bs ++ rest) lv w0 h1 hn
    subst hl
    simpa using this)
  exact ⟨a', _, _, h1.len.symm, h1, h2⟩

theorem reads_uint' (b : Int) (k : Nat) (hb : b = 204 ∧ k = 1 ∨ b = 205 ∧ k = 2 ∨ b = 206 ∧ k = 4 ∨ b = 207 ∧ k = 8) (bs : List Int) (hl : bs.length = k) (u : Int) (e : beN bs = u) : Reads (b :: bs) 3 u ⟨#[]⟩ 0 := by
  rw [← e]; exact reads_uint b k hb bs hl

theorem beN_bytes (l : List Int) (h : ∀ x ∈ l, 0 ≤ x ∧ x ≤ 255) : 0 ≤ beN l ∧ beN l < ((256 ^ l.length : Nat) : Int) := by
  have := beN_bd l h l.length (Nat.le_refl _)
  simpa using this

theorem reads_int1p (bs : List Int) (hl : bs.length = 1) (u : Int) (hu : u = beN bs) (hs : u < 128) : Reads (208 :: bs) 3 u ⟨#[]⟩ 0 := by
  intro w0 a n c rest lv hlv hv
  have hn : 1 ≤ n - 1 := by have := hv.len; simp at this; omega
  have hb := beN_bytes bs (fun x hx => hv.byt x (by simp [hx]))
  rw [hl, ← hu] at hb
  obtain ⟨a', h1, h2⟩ := takePack_coded 208 a n c (bs ++ rest) lv w0 hv hlv (by omega) (by omega) 3 u 0 ⟨#[]⟩ (n - 1 - 1) (c - 1 - 1) rest (fun a1 h1 => by
    have ht : List.take 1 (bs ++ rest) = bs := by rw [← hl]; simp
    have hd : List.drop 1 (bs ++ rest) = rest := by rw [← hl]; simp
    have := takeCoded_int1p a1 _ _ (bs ++ rest) lv w0 h1 hn u (by rw [ht]; exact hu) hb.1 (by have := hb.2; omega) hs
    rw [hd] at this
    exact this)
  exact ⟨a', _, _, h1.len.symm, h1, h2⟩

theorem reads_int1n (bs : List Int) (hl : bs.length = 1) (u : Int) (hu : u = beN bs) (hs : 128 ≤ u) : Reads (208 :: bs) 2 (u + 18446744073709551360) ⟨#[]⟩ 0 := by
  intro w0 a n c rest lv hlv hv
  have hn : 1 ≤ n - 1 := by have := hv.len; simp at this; omega
  have hb := beN_bytes bs (fun x hx => hv.byt x (by simp [hx]))
  rw [hl, ← hu] at hb
  obtain ⟨a', h1, h2⟩ := takePack_coded 208 a n c (bs ++ rest) lv w0 hv hlv (by omega) (by omega) 2 (u + 18446744073709551360) 0 ⟨#[]⟩ (n - 1 - 1) (c - 1 - 1) rest (fun a1 h1 => by
    have ht : List.take 1 (bs ++ rest) = bs := by rw [← hl]; simp
    have hd : List.drop 1 (bs ++ rest) = rest := by rw [← hl]; simp
    have := takeCoded_int1n a1 _ _ (bs ++ rest) lv w0 h1 hn u (by rw [ht]; exact hu) hb.1 (by have := hb.2; omega) hs
    rw [hd] at this
    exact this)
  exact ⟨a', _, _, h1.len.symm, h1, h2⟩

theorem reads_int2p (bs : List Int) (hl : bs.length = 2) (u : Int) (hu : u = beN bs) (hs : u < 32768) : Reads (209 :: bs) 3 u ⟨#[]⟩ 0 := by
  intro w0 a n c rest lv hlv hv
  have hn : 2 ≤ n - 1 := by have := hv.len; simp at this; omega
  have hb := beN_bytes bs (fun x hx => hv.byt x (by simp [hx]))
  rw [hl, ← hu] at hb
  obtain ⟨a', h1, h2⟩ := takePack_coded 209 a n c (bs ++ rest) lv w0 hv hlv (by omega) (by omega) 3 u 0 ⟨#[]⟩ (n - 1 - 2) (c - 1 - 2) rest (fun a1 h1 => by
    have ht : List.take 2 (bs ++ rest) = bs := by rw [← hl]; simp
    have hd : List.drop 2 (bs ++ rest) = rest := by rw [← hl]; simp
    have := takeCoded_int2p a1 _ _ (bs ++ rest) lv w0 h1 hn u (by rw [ht]; exact hu) hb.1 (by have := hb.2; omega) hs
    rw [hd] at this
    exact this)
  exact ⟨a', _, _, h1.len.symm, h1, h2⟩

theorem reads_int2n (bs : List Int) (hl : bs.length = 2) (u : Int) (hu : u = beN bs) (hs : 32768 ≤ u) : Reads (209 :: bs) 2 (u + 18446744073709486080) ⟨#[]⟩ 0 := by
  intro w0 a n c rest lv hlv hv
  have hn : 2 ≤ n - 1 := by have := hv.len; simp at this; omega
  have hb := beN_bytes bs (fun x hx => hv.byt x (by simp [hx]))
  rw [hl, ← hu] at hb
  obtain ⟨a', h1, h2⟩ := takePack_coded 209 a n c (bs ++ rest) lv w0 hv hlv (by omega) (by omega) 2 (u + 18446744073709486080) 0 ⟨#[]⟩ (n - 1 - 2) (c - 1 - 2) rest (fun a1 h1 => by
    have ht : List.take 2 (bs ++ rest) = bs := by rw [← hl]; simp
    have hd : List.drop 2 (bs ++ rest) = rest := by rw [← hl]; simp
    have := takeCoded_int2n a1 _ _ (bs ++ rest) lv w0 h1 hn u (by rw [ht]; exact hu) hb.1 (by have := hb.2; omega) hs
    rw [hd] at this
    exact this)
  exact ⟨a', _, _, h1.len.symm, h1, h2⟩

theorem reads_int4p (bs : List Int) (hl : bs.length = 4) (u : Int) (hu : u = beN bs) (hs : u < 2147483648) : Reads (210 :: bs) 3 u ⟨#[]⟩ 0 := by
  intro w0 a n c rest lv hlv hv
  have hn : 4 ≤ n - 1 := by have := hv.len; simp at this; omega
  have hb := beN_bytes bs (fun x hx => hv.byt x (by simp [hx]))
  rw [hl, ← hu] at hb
  obtain ⟨a', h1, h2⟩ := takePack_coded 210 a n c (bs ++ rest) lv w0 hv hlv (by omega) (by omega) 3 u 0 ⟨#[]⟩ (n - 1 - 4) (c - 1 - 4) rest (fun a1 h1 => by
    have ht : List.take 4 (bs ++ rest) = bs := by rw [← hl]; simp
    have hd : List.drop 4 (bs ++ rest) = rest := by rw [← hl]; simp
    have := takeCoded_int4p a1 _ _ (bs ++ rest) lv w0 h1 hn u (by rw [ht]; exact hu) hb.1 (by have := hb.2; omega) hs
    rw [hd] at this
    exact this)
  exact ⟨a', _, _, h1.len.symm, h1, h2⟩

theorem reads_int4n (bs : List Int) (hl : bs.length = 4) (u : Int) (hu : u = beN bs) (hs : 2147483648 ≤ u) : Reads (210 :: bs) 2 (u + 18446744069414584320) ⟨#[]⟩ 0 := by
  intro w0 a n c rest lv hlv hv
  have hn : 4 ≤ n - 1 := by have := hv.len; simp at this; omega
  have hb := beN_bytes bs (fun x hx => hv.byt x (by simp [hx]))
  rw [hl, ← hu] at hb
  obtain ⟨a', h1, h2⟩ := takePack_coded 210 a n c (bs ++ rest) lv w0 hv hlv (by omega) (by omega) 2 (u + 18446744069414584320) 0 ⟨#[]⟩ (n - 1 - 4) (c - 1 - 4) rest (fun a1 h1 => by
    have ht : List.take 4 (bs ++ rest) = bs := by rw [← hl]; simp
    have hd : List.drop 4 (bs ++ rest) = rest := by rw [← hl]; simp
    have := takeCoded_int4n a1 _ _ (bs ++ rest) lv w0 h1 hn u (by rw [ht]; exact hu) hb.1 (by have := hb.2; omega) hs
    rw [hd] at this
    exact this)
  exact ⟨a', _, _, h1.len.symm, h1, h2⟩

theorem reads_int8p (bs : List Int) (hl : bs.length = 8) (u : Int) (hu : u = beN bs) (hs : u < 9223372036854775808) : Reads (211 :: bs) 3 u ⟨#[]⟩ 0 := by
  intro w0 a n c rest lv hlv hv
  have hn : 8 ≤ n - 1 := by have := hv.len; simp at this; omega
  have hb := beN_bytes bs (fun x hx => hv.byt x (by simp [hx]))
  rw [hl, ← hu] at hb
  obtain ⟨a', h1, h2⟩ := takePack_coded 211 a n c (bs ++ rest) lv w0 hv hlv (by omega) (by omega) 3 u 0 ⟨#[]⟩ (n - 1 - 8) (c - 1 - 8) rest (fun a1 h1 => by
    have ht : List.take 8 (bs ++ rest) = bs := by rw [← hl]; simp
    have hd : List.drop 8 (bs ++ rest) = rest := by rw [← hl]; simp
    have := takeCoded_int8p a1 _ _ (bs ++ rest) lv w0 h1 hn u (by rw [ht]; exact hu) hb.1 (by have := hb.2; omega) hs
    rw [hd] at this
    exact this)
  exact ⟨a', _, _, h1.len.symm, h1, h2⟩

theorem reads_int8n (bs : List Int) (hl : bs.length = 8) (u : Int) (hu : u = beN bs) (hs : 9223372036854775808 ≤ u) : Reads (211 :: bs) 2 u ⟨#[]⟩ 0 := by
  intro w0 a n c rest lv hlv hv
  have hn : 8 ≤ n - 1 := by have := hv.len; simp at this; omega
  have hb := beN_bytes bs (fun x hx => hv.byt x (by simp [hx]))
  rw [hl, ← hu] at hb
  obtain ⟨a', h1, h2⟩ := takePack_coded 211 a n c (bs ++ rest) lv w0 hv hlv (by omega) (by omega) 2 u 0 ⟨#[]⟩ (n - 1 - 8) (c - 1 - 8) rest (fun a1 h1 => by
    have ht : List.take 8 (bs ++ rest) = bs := by rw [← hl]; simp
    have hd : List.drop 8 (bs ++ rest) = rest := by rw [← hl]; simp
    have := takeCoded_int8n a1 _ _ (bs ++ rest) lv w0 h1 hn u (by rw [ht]; exact hu) hb.1 (by have := hb.2; omega) hs
    rw [hd] at this
    exact this)
  exact ⟨a', _, _, h1.len.symm, h1, h2⟩

theorem reads_fixtext (bs : List Int) (h : bs.length < 32) : Reads ((160 + (bs.length : Int)) :: bs) 6 0 (strOfNums bs) 0 := by
  intro w0 a n c rest lv hlv hv
  obtain ⟨a', h1, h2⟩ := takePack_fixtext _ a n c (bs ++ rest) lv w0 hv hlv (by omega) (by omega) bs.length rfl (by simp)
  rw [List.drop_left] at h1
  rw [List.take_left] at h2
  exact ⟨a', _, _, h1.len.symm, h1, h2⟩

theorem reads_text (b : Int) (k : Nat) (hb : b = 217 ∧ k = 1 ∨ b = 218 ∧ k = 2 ∨ b = 219 ∧ k = 4) (hd bs : List Int) (hl : hd.length = k) (hn : beN hd = bs.length) : Reads (b :: (hd ++ bs)) 6 0 (strOfNums bs) 0 := by
  intro w0 a n c rest lv hlv hv
  have hnn : k + bs.length ≤ n - 1 := by have := hv.len; simp at this; omega
  obtain ⟨a', h1, h2⟩ := takePack_coded b a n c (hd ++ (bs ++ rest)) lv w0 (by simpa using hv) hlv (by omega) (by omega) 6 0 0 (strOfNums bs) (n - 1 - k - bs.length) (c - 1 - k - bs.length) rest (fun a1 h1 => by
    have ht : List.take k (hd ++ (bs ++ rest)) = hd := by rw [← hl]; simp
    have hdd : List.drop k (hd ++ (bs ++ rest)) = bs ++ rest := by rw [← hl]; simp
    have := takeCoded_text b k hb a1 _ _ (hd ++ (bs ++ rest)) lv w0 h1 (by omega) bs.length (by rw [ht]; exact hn) hnn
    rw [hdd, List.drop_left, List.take_left] at this
    exact this)
  exact ⟨a', _, _, h1.len.symm, h1, h2⟩
end Go.Proofs.Ytbngkfdfjpbajaa
