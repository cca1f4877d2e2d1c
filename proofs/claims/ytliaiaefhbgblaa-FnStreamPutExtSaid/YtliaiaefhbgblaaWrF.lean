/- impl.StreamPutExt's closure: an extension behind what a Writer holds, and how it is read. -/
import Derived.Test.YtliaiaefhbgblaaWrE
namespace Go.Proofs.Ytliaiaefhbgblaa
open Go.RowKit
set_option linter.unusedVariables false
set_option linter.unusedSimpArgs false

theorem sg8_mod (x : Int) (h0 : -128 ≤ x) (h1 : x ≤ 127) : sg8 (x % 256) = x := by unfold sg8; split <;> omega

def HdrOk (n : Nat) (x : Int) (hdr : List Int) : Prop := ∀ (B : Nat) (K : Nat → Prop) (W sz wl : Nat) (tot : List Int) (w : World), Wr w B K W sz wl tot → tot.length ≤ 1099511627776 → Calls Try.prog 43 #[.pointer (some ⟨W, 0, none⟩), .int .i64 (n : Int), .int .i8 x] w (WrRes B K W sz (tot ++ hdr) w)

theorem hdr_any (s : ByteArray) (x : Int) (h0 : -128 ≤ x) (h1 : x ≤ 127) (hs : s.size ≤ 65536) : ∃ hdr : List Int, hdr.length ≤ 6 ∧ 2 ≤ hdr.length ∧ HdrOk s.size x hdr ∧ Reads (hdr ++ ints s) 10 0 s x := by
  have hi := ints_length s
  have ht := strOfNums_ints s
  have hg := sg8_mod x h0 h1
  have fix : ∀ (m : Nat) (b : Int), (b = 212 ∧ m = 1 ∨ b = 213 ∧ m = 2 ∨ b = 214 ∧ m = 4 ∨ b = 215 ∧ m = 8 ∨ b = 216 ∧ m = 16) → s.size = m → Reads ([b, x % 256] ++ ints s) 10 0 s x := fun m b hb hm => by
    have := reads_fixext b m hb (x % 256) (ints s) (by omega)
    rw [ht, hg] at this
    exact this
  by_cases c0 : s.size = 0
  · refine ⟨[199, 0, x % 256], by simp, by simp, fun B K W sz wl tot w h hn => by rw [c0]; exact hdr_0 B K W sz wl tot x h0 h1 w h hn, ?_⟩
    have := reads_ext 199 1 (by omega) [0] (x % 256) (ints s) rfl (by rw [hi, c0]; rfl)
    rw [ht, hg] at this
    exact this
  by_cases c1 : s.size = 1
  · exact ⟨[212, x % 256], by simp, by simp, fun B K W sz wl tot w h hn => by rw [c1]; exact hdr_f1 B K W sz wl tot x h0 h1 w h hn, fix 1 212 (by omega) c1⟩
  by_cases c2 : s.size = 2
  · exact ⟨[213, x % 256], by simp, by simp, fun B K W sz wl tot w h hn => by rw [c2]; exact hdr_f2 B K W sz wl tot x h0 h1 w h hn, fix 2 213 (by omega) c2⟩
  by_cases c4 : s.size = 4
  · exact ⟨[214, x % 256], by simp, by simp, fun B K W sz wl tot w h hn => by rw [c4]; exact hdr_f4 B K W sz wl tot x h0 h1 w h hn, fix 4 214 (by omega) c4⟩
  by_cases c8 : s.size = 8
  · exact ⟨[215, x % 256], by simp, by simp, fun B K W sz wl tot w h hn => by rw [c8]; exact hdr_f8 B K W sz wl tot x h0 h1 w h hn, fix 8 215 (by omega) c8⟩
  by_cases c16 : s.size = 16
  · exact ⟨[216, x % 256], by simp, by simp, fun B K W sz wl tot w h hn => by rw [c16]; exact hdr_f16 B K W sz wl tot x h0 h1 w h hn, fix 16 216 (by omega) c16⟩
  have hnf : s.size ≠ 0 ∧ s.size ≠ 1 ∧ s.size ≠ 2 ∧ s.size ≠ 4 ∧ s.size ≠ 8 ∧ s.size ≠ 16 := ⟨c0, c1, c2, c4, c8, c16⟩
  by_cases d1 : s.size < 255
  · refine ⟨[199, (s.size : Int), x % 256], by simp, by simp, fun B K W sz wl tot w h hn => hdr_8 B K W sz wl tot s.size hnf d1 x h0 h1 w h hn, ?_⟩
    have := reads_ext 199 1 (by omega) [(s.size : Int)] (x % 256) (ints s) rfl (by rw [hi]; simp [beN])
    rw [ht, hg] at this
    exact this
  by_cases d2 : s.size < 65535
  · refine ⟨[200, (s.size : Int) / 256, (s.size : Int) % 256, x % 256], by simp, by simp, fun B K W sz wl tot w h hn => hdr_16 B K W sz wl tot s.size hnf (by omega) d2 x h0 h1 w h hn, ?_⟩
    have := reads_ext 200 2 (by omega) [(s.size : Int) / 256, (s.size : Int) % 256] (x % 256) (ints s) rfl (by rw [hi]; simp only [beN, List.foldl]; omega)
    rw [ht, hg] at this
    exact this
  · refine ⟨[201, (s.size : Int) / 16777216, (s.size : Int) / 65536 % 256, (s.size : Int) / 256 % 256, (s.size : Int) % 256, x % 256], by simp, by simp, fun B K W sz wl tot w h hn => hdr_32 B K W sz wl tot s.size hnf (by omega) (by omega) x h0 h1 w h hn, ?_⟩
    have := reads_ext 201 4 (by omega) [(s.size : Int) / 16777216, (s.size : Int) / 65536 % 256, (s.size : Int) / 256 % 256, (s.size : Int) % 256] (x % 256) (ints s) rfl (by rw [hi]; simp only [beN, List.foldl]; omega)
    rw [ht, hg] at this
    exact this

/-- A method of a Writer, of one value, writes these bytes behind the others; the buffer may be another one. -/
def WrtsX (f : FuncId) (x : Value) (enc : List Int) : Prop := ∀ (B : Nat) (K : Nat → Prop) (W sz wl : Nat) (tot : List Int) (w : World), Wr w B K W sz wl tot → tot.length ≤ 1000000000000 →
  Calls Try.prog f #[.pointer (some ⟨W, 0, none⟩), x] w (WxRes B K W (tot ++ enc) w)

set_option maxHeartbeats 2000000 in
theorem clo_ext (s : ByteArray) (hs : s.size ≤ 65536) (k num x : Int) (h0 : -128 ≤ x) (h1 : x ≤ 127) (ka : Option Addr) (kn kc : Nat) (hdr : List Int) (hl : hdr.length ≤ 6) (h : HdrOk s.size x hdr) : WrtsX 26 (.agg #[.int .i64 k, .int .u64 num, .string s, .int .i64 x, .slice ka kn kc]) (hdr ++ ints s) := by
  intro B K W sz wl tot w hw hn
  obtain ⟨o, ho⟩ : ∃ o : Obj, o = .cells #[.int .i64 k, .int .u64 num, .string s, .int .i64 x, .slice ka kn kc] 30 := ⟨_, rfl⟩
  obtain ⟨c, w1, hcv, hv, hb, hlt⟩ := conv_ints s (by omega) (w.alloc o)
  rw [ho] at hcv
  simp only [World.size_alloc] at hcv hv hlt
  have hw1 := (hw.within).below (Below.trans ((Below.refl w.heap.size w).alloc (Nat.le_refl _) o) (hb.mono (by simp)))
  have hwr : IntKind.i8.wrap x = x := by rw [wrap_i8]; omega
  have hb' : Below w.heap.size w w1 := Below.trans ((Below.refl w.heap.size w).alloc (Nat.le_refl _) o) (hb.mono (by simp))
  have hsz := hb'.size
  have H := fun (o2 : Obj) (ho2 : o2 = .cells #[.slice (some ⟨w.heap.size + 1, 0, none⟩) s.size c, .int .i8 x] 61) => Lib.hid (wext_any w1.heap.size _ s.size c (ints s) x hdr hl (by omega) h B _ W sz wl tot (w1.alloc o2) (hw1.below ((Below.refl _ _).alloc (Nat.le_refl _) _)) hn (by rw [ho2]; exact Blk.new _ _ _) (by rintro ⟨_, e⟩; omega) (hv.alloc _) (by intro y hy; injection hy with hy; subst hy; rintro ⟨_, e⟩; simp at e; omega))
  clear h hv
  go_enter Try.func26, Try.ntmps26
  go_wp2_with fail
  refine (H _ rfl).out.mono ?_
  rintro e w2 ⟨rfl, ⟨sz2, wl2, hw2⟩, hf2, hb2⟩
  go_wp2_with fail
  go_ret
  have hBl : B ≤ w.heap.size := by
    obtain ⟨G, ta, tn, tc, out, cs, pre, hq, _⟩ := hw
    have := hq.hW.lt; have := hq.bW; omega
  have hba : Below w.heap.size w (w1.alloc (.cells #[.slice (some ⟨w.heap.size + 1, 0, none⟩) s.size c, .int .i8 x] 61)) := hb'.alloc hsz _
  refine ⟨rfl, ⟨sz2, wl2, hw2.mono (fun b h => ?_)⟩, ⟨Nat.le_trans hba.size hf2.1, fun b hb1 hn1 => ?_⟩, (hba.mono hBl).trans hb2⟩
  · rcases h with h | h
    · exact .inl h.1
    · exact .inr (Nat.le_trans hba.size h)
  · rw [hf2.2 b (Nat.lt_of_lt_of_le hb1 hba.size) (fun e => hn1 e.1)]
    exact hba.block b hb1
end Go.Proofs.Ytliaiaefhbgblaa
