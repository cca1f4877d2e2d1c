/- impl.GetTime of each form of the timestamp extension. -/
import Derived.Test.YtdncfolehkhjhaaDoorMom
import Derived.Test.YtdncfolehkhjhaaDoorGTm
import Derived.Test.YtdncfolehkhjhaaDoorPutPk2
namespace Go.Proofs.YtdncfolehkhjhaaDoor
open Go.RowKit
set_option linter.unusedVariables false
set_option linter.unusedSimpArgs false

theorem tbeL_1 (u : Int) : beL u 1 = [u % 256] := by simp [beL, List.range_succ, byteAt]
theorem tbeL_2 (u : Int) : beL u 2 = [u / 256 % 256, u % 256] := by simp [beL, List.range_succ, byteAt]
theorem tbeL_4 (u : Int) : beL u 4 = [u / 16777216 % 256, u / 65536 % 256, u / 256 % 256, u % 256] := by simp [beL, List.range_succ, byteAt]
theorem tbeL_8 (u : Int) : beL u 8 = [u / 72057594037927936 % 256, u / 281474976710656 % 256, u / 1099511627776 % 256, u / 4294967296 % 256, u / 16777216 % 256, u / 65536 % 256, u / 256 % 256, u % 256] := by simp [beL, List.range_succ, byteAt]
theorem tbeN_4 (u : Int) : beN [u / 16777216 % 256, u / 65536 % 256, u / 256 % 256, u % 256] = u % 4294967296 := by simp [beN]; omega
theorem tbeN_8 (u : Int) : beN [u / 72057594037927936 % 256, u / 281474976710656 % 256, u / 1099511627776 % 256, u / 4294967296 % 256, u / 16777216 % 256, u / 65536 % 256, u / 256 % 256, u % 256] = u % 18446744073709551616 := by simp [beN]; omega

/-- The heads of an extension of so many bytes, read. -/
theorem rext_of (m : Nat) (hm : m = 4 ∨ m = 8 ∨ m = 12) (h : List Int) (hE : ExtL m 255 h) (data r : List Int) (hdl : data.length = m) (a : Option Addr) (n c : Nat) (w : World) (hv : Vw w a n c (h ++ (data ++ r))) :
    ∃ a1 a2 n1 c1, Vw w a1 n1 c1 r ∧ Vw w a2 m m data ∧ RExt a n c w a1 n1 c1 a2 m ∧ 6 ≤ n := by
  have hn := hv.len
  rw [List.length_append, List.length_append] at hn
  rcases hE with ⟨i, k, hik, hk, rfl⟩ | ⟨f, hf, rfl⟩
  · simp at hik
    rcases hik with ⟨rfl, rfl⟩ | ⟨rfl, rfl⟩ | ⟨rfl, rfl⟩ | ⟨rfl, rfl⟩ | ⟨rfl, rfl⟩
    · omega
    · omega
    · subst hk
      obtain ⟨a1, a2, h1, h2, h3⟩ := rext_f4 4 rfl data r hdl a n c w hv
      exact ⟨a1, a2, _, _, h1, h2, h3, by simp at hn; omega⟩
    · subst hk
      obtain ⟨a1, a2, h1, h2, h3⟩ := rext_f8 8 rfl data r hdl a n c w hv
      exact ⟨a1, a2, _, _, h1, h2, h3, by simp at hn; omega⟩
    · omega
  · have hf2 := (List.mem_filter.1 hf).1
    have hb : 0 < m ∧ m < 256 := by omega
    simp at hf2
    rcases hf2 with rfl | rfl | rfl
    · have e : beL (m : Int) 1 = [(m : Int)] := by rw [tbeL_1]; congr 1; omega
      simp only [e] at hv hn
      obtain ⟨a1, a2, h1, h2, h3⟩ := rext_e8 m hb data r hdl a n c w (by simpa using hv)
      exact ⟨a1, a2, _, _, h1, h2, h3, by simp at hn; omega⟩
    · have e : beL (m : Int) 2 = [0, (m : Int)] := by rw [tbeL_2, show (m : Int) / 256 % 256 = 0 by omega, show (m : Int) % 256 = m by omega]
      simp only [e] at hv hn
      obtain ⟨a1, a2, h1, h2, h3⟩ := rext_e16 m hb data r hdl a n c w (by simpa using hv)
      exact ⟨a1, a2, _, _, h1, h2, h3, by simp at hn; omega⟩
    · have e : beL (m : Int) 4 = [0, 0, 0, (m : Int)] := by rw [tbeL_4, show (m : Int) / 16777216 % 256 = 0 by omega, show (m : Int) / 65536 % 256 = 0 by omega, show (m : Int) / 256 % 256 = 0 by omega, show (m : Int) % 256 = m by omega]
      simp only [e] at hv hn
      obtain ⟨a1, a2, h1, h2, h3⟩ := rext_e32 m hb data r hdl a n c w (by simpa using hv)
      exact ⟨a1, a2, _, _, h1, h2, h3, by simp at hn; omega⟩

theorem momL_len {sec ns : Int} {l : List Int} (h : MomL sec ns l) : l.length = 4 ∨ l.length = 8 ∨ l.length = 12 := by
  rcases h with rfl | ⟨_, _, rfl⟩ | ⟨_, _, _, rfl⟩
  · simp [beL_len]
  · simp [beL_len]
  · simp [beL_len]
theorem momL_bd {sec ns : Int} {l : List Int} (h : MomL sec ns l) : ∀ x ∈ l, 0 ≤ x ∧ x ≤ 255 := by
  have hb : ∀ u k, ∀ x ∈ beL u k, 0 ≤ x ∧ x ≤ 255 := by
    intro u k x hx
    simp only [beL, List.mem_map] at hx
    obtain ⟨j, _, rfl⟩ := hx
    exact byteAt_bd _ _
  rcases h with rfl | ⟨_, _, rfl⟩ | ⟨_, _, _, rfl⟩
  · intro x hx
    rcases List.mem_append.1 hx with hx | hx
    · exact hb _ _ x hx
    · exact hb _ _ x hx
  · exact hb _ _
  · exact hb _ _
theorem btL_nums (l : List Int) (h : ∀ x ∈ l, 0 ≤ x ∧ x ≤ 255) : btL (strOfNums l) = l := by
  unfold btL strOfNums
  simp only [List.map_map]
  conv => rhs; rw [← List.map_id l]
  apply List.map_congr_left
  intro x hx
  have := h x hx
  simp
  omega

/-- A time read, in whatever form it is written. -/
theorem getTime_of (sec ns : Int) (hs0 : -68719476736 < sec) (hs1 : sec < 68719476736) (hn0 : 0 ≤ ns) (hn1 : ns < 1000000000) (l : List Int) (hl : MomL sec ns l) (h : List Int) (hE : ExtL l.length 255 h) (r : List Int) (hr : r.length ≤ 1000000) (a : Option Addr) (n c : Nat) (w : World) (hv : Vw w a n c (h ++ (l ++ r))) :
    Calls Tryd.prog 10 #[.slice a n c] w fun e w' => ∃ a2 c2, e = .returned (.tuple #[.int .i64 sec, .int .i32 ns, .slice a2 r.length c2, .bool true]) ∧ Vw w' a2 r.length c2 r ∧ Below w.heap.size w w' := by
  obtain ⟨a1, a2, n1, c1, h1, h2, h3, h6⟩ := rext_of l.length (momL_len hl) h hE l r rfl a n c w hv
  have hn1' := h1.len
  rw [hn1']
  refine gtm_any a n c a1 n1 c1 r sec ns hn0 hn1 w h1 (by omega) (rtu_any a n c a1 n1 c1 sec ns w fun W hW => ?_)
  have h2W := h2.below hW (Nat.le_refl _)
  have h3W : RExt a n c W a1 n1 c1 a2 l.length := fun U hU => h3 U (hW.trans (hU.mono hW.size))
  rcases hl with rfl | ⟨p0, p1, rfl⟩ | ⟨p0, p1, rfl, rfl⟩
  · rw [show (beL ns 4 ++ beL (sec % 18446744073709551616) 8).length = 12 by simp [beL_len]] at h2W h3W
    rw [tbeL_4, tbeL_8] at h2W
    exact rtb_12 a n c W h6 a1 n1 c1 a2 _ _ _ _ _ _ _ _ _ _ _ _ h3W h2W sec ns (by rw [tbeN_4]; omega) (by rw [tbeN_8]; omega) (by omega) (by omega) hn0 hn1
  · rw [beL_len] at h2W h3W
    rw [tbeL_8] at h2W
    exact rtb_8 a n c W h6 a1 n1 c1 a2 _ _ _ _ _ _ _ _ h3W h2W sec ns (by rw [tbeN_8]; omega) p0 p1 hn0 hn1
  · rw [beL_len] at h2W h3W
    rw [tbeL_4] at h2W
    exact rtb_4 a n c W h6 a1 n1 c1 a2 _ _ _ _ h3W h2W sec (by rw [tbeN_4]; omega) p0 p1
end Go.Proofs.YtdncfolehkhjhaaDoor
