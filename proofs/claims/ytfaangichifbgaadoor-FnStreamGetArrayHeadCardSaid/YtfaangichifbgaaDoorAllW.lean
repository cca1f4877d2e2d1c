/- laws.allWritten: numbers of MessagePack written one behind the other, in forms that are chosen. -/
import Derived.Test.YtfaangichifbgaaDoorTaking
namespace Go.Proofs.YtfaangichifbgaaDoor
open Go.RowKit
set_option linter.unusedVariables false
set_option linter.unusedSimpArgs false

theorem negL_len {u : Int} {l : List Int} (h : NegL u l) : 1 ≤ l.length ∧ l.length ≤ 9 := by
  rcases h with ⟨_, rfl⟩ | ⟨i, k, hm, _, rfl⟩
  · simp
  · have : ∀ q ∈ ikL, q.2 ≤ 8 := by simp
    have := this _ hm
    simp [beL_len]; omega
theorem posL_len {u : Int} {l : List Int} (h : PosL u l) : 1 ≤ l.length ∧ l.length ≤ 9 := by
  rcases h with ⟨_, rfl⟩ | ⟨f, hf, rfl⟩ | ⟨i, k, hm, _, rfl⟩
  · simp
  · have : ∀ q ∈ formsI, q.2 ≤ 8 := by simp
    have := this _ (List.mem_filter.1 hf).1
    simp [beL_len]; omega
  · have : ∀ q ∈ ikL, q.2 ≤ 8 := by simp
    have := this _ hm
    simp [beL_len]; omega

def p5 (p : Int × Int) : List Value := [.int .i64 p.1, .int .u64 p.2, .string ⟨#[]⟩, .int .i64 0, .slice none 0 0]
def p5s (ps : List (Int × Int)) : List Value := ps.flatMap p5
theorem p5s_length (ps : List (Int × Int)) : (p5s ps).length = ps.length * 5 := by
  induction ps with
  | nil => rfl
  | cons p ps ih => simp [p5s, p5] at ih ⊢; omega
theorem p5s_snoc (ps : List (Int × Int)) (j : Nat) (h : j < ps.length) : p5s (ps.take (j + 1)) = p5s (ps.take j) ++ p5 ps[j] := by
  unfold p5s
  rw [List.take_succ_eq_append_getElem h, List.flatMap_append]
  simp only [List.flatMap_cons, List.flatMap_nil, List.append_nil]
theorem p5s_get (ps : List (Int × Int)) (j : Nat) (h : j < ps.length) (i : Nat) (hi : i < 5) : (p5s ps)[j * 5 + i]? = (p5 ps[j])[i]? := by
  induction ps generalizing j with
  | nil => simp at h
  | cons e es ih =>
    cases j with
    | zero =>
      simp only [p5s, List.flatMap_cons, Nat.zero_mul, Nat.zero_add, List.getElem_cons_zero]
      rw [List.getElem?_append_left (by simp [p5]; omega)]
    | succ j =>
      have := ih j (by simpa using h)
      simp only [p5s, List.flatMap_cons, List.getElem_cons_succ] at this ⊢
      rw [List.getElem?_append_right (by simp [p5]; omega), ← this]
      congr 1
      simp [p5]; omega
theorem Rd.p5_at {w : World} {a : Option Addr} {ps : List (Int × Int)} (h : Rd w a (p5s ps)) (j : Nat) (hj : j < ps.length) (p : Int × Int) (hp : p = ps[j]) :
    ∃ b off, a = some ⟨b, off, none⟩ ∧ w.cell? ⟨b, off + j * 5, none⟩ = some (.int .i64 p.1) ∧ w.cell? ⟨b, off + j * 5 + 1, none⟩ = some (.int .u64 p.2) ∧ w.cell? ⟨b, off + j * 5 + 2, none⟩ = some (.string ⟨#[]⟩) ∧ w.cell? ⟨b, off + j * 5 + 3, none⟩ = some (.int .i64 0) ∧ w.cell? ⟨b, off + j * 5 + 4, none⟩ = some (.slice none 0 0) := by
  subst hp
  have hl := p5s_length ps
  have g := fun i hi => p5s_get ps j hj i hi
  rcases h with h | ⟨b, off, ha, hx⟩
  · rw [h] at hl; simp at hl; omega
  · refine ⟨b, off, ha, ?_, ?_, ?_, ?_, ?_⟩
    · exact hx (j * 5 + 0) _ (g 0 (by omega))
    · rw [Nat.add_assoc]; exact hx (j * 5 + 1) _ (g 1 (by omega))
    · rw [Nat.add_assoc]; exact hx (j * 5 + 2) _ (g 2 (by omega))
    · rw [Nat.add_assoc]; exact hx (j * 5 + 3) _ (g 3 (by omega))
    · rw [Nat.add_assoc]; exact hx (j * 5 + 4) _ (g 4 (by omega))
def NumOk (p : Int × Int) : Prop := (p.1 = 2 ∨ p.1 = 3 ∨ p.1 = 5) ∧ 0 ≤ p.2 ∧ p.2 < 18446744073709551616
abbrev PE (p : Int × Int) (l : List Int) : Prop := PEnc p.1 p.2 ⟨#[]⟩ 0 0 l
theorem pe_len (p : Int × Int) (h : NumOk p) (l : List Int) (hl : PE p l) : l.length ≤ 9 := by
  obtain ⟨k, u⟩ := p
  obtain ⟨hk, h0, h1⟩ := h
  simp only at hk h0 h1
  unfold PE PEnc at hl
  simp only at hl
  rcases hl with ⟨rfl, rfl⟩ | ⟨rfl, rfl⟩ | ⟨_, _, h⟩ | ⟨_, h⟩ | ⟨rfl, rfl⟩ | ⟨rfl, rfl⟩ | h | h | h | h | h
  · simp
  · simp
  · exact (negL_len h).2
  · exact (posL_len h).2
  · simp [beL_len]
  · simp [beL_len]
  all_goals (obtain ⟨rfl, _⟩ := h; omega)
theorem putNum (p : Int × Int) (h : NumOk p) (F : Nat) (b : Bool) (w : World) (hB : FB w F b) :
    Calls Tryd.prog 29 #[.agg #[.int .i64 p.1, .int .u64 p.2, .string ⟨#[]⟩, .int .i64 0, .slice none 0 0], .pointer (some ⟨F, 0, none⟩)] w (PutRes F b (PE p) w) := by
  obtain ⟨k, u⟩ := p
  obtain ⟨hk, h0, h1⟩ := h
  simp only at hk h0 h1
  rcases hk with rfl | rfl | rfl
  · exact putPack_int 2 (by omega) u h0 h1 ⟨#[]⟩ 0 none 0 0 F b w hB
  · exact putPack_int 3 (by omega) u h0 h1 ⟨#[]⟩ 0 none 0 0 F b w hB
  · exact putPack_float 5 (by omega) u h0 h1 ⟨#[]⟩ 0 none 0 0 F b w hB
theorem flatE_app1 (es : List (List Int)) (x : List Int) : flatE (es ++ [x]) = flatE es ++ x := by simp [flatE]

def PEs (ps : List (Int × Int)) (es : List (List Int)) : Prop := ∀ i (h1 : i < ps.length) (h2 : i < es.length), PE ps[i] es[i]
/-- What allWritten gives. -/
def AllW (ps : List (Int × Int)) (w : World) (e : Ending) (w' : World) : Prop :=
  ∃ a n c es, e = .returned (.slice a n c) ∧ Vw w' a n c (flatE es) ∧ es.length = ps.length ∧ PEs ps es ∧ n ≤ ps.length * 9 ∧ Below w.heap.size w w'

set_option maxRecDepth 100000 in
set_option maxHeartbeats 4000000 in
theorem allWritten_any (ps : List (Int × Int)) (a : Option Addr) (c : Nat) (s : Int) (h0 : 0 ≤ s) (h1 : s < 18446744073709551616) (w : World) (hr : Rd w a (p5s ps)) (hk : ∀ p ∈ ps, NumOk p) (hn : ps.length ≤ 1000) :
    Calls Tryd.prog 13 #[.slice a ps.length c, .int .u64 s] w (AllW ps w) := by
  obtain ⟨m, hm⟩ : ∃ m, m = ps.length := ⟨_, rfl⟩
  rw [← hm] at hn ⊢
  have HM := Lib.hid hm
  have HR := Lib.hid hr
  have HK := Lib.hid hk
  clear hm hr hk
  go_enter Tryd.func13, Tryd.ntmps13
  go_wp2_with fail
  have hF : FB (w.alloc (.cells #[.int .u64 s, .bool false] 65)) w.heap.size false := ⟨s, h0, h1, Blk.new w _ _⟩
  have HF0 := Lib.hid hF
  clear hF
  go_loopw [6, 14] (fun o i wr => ∃ j : Nat, j ≤ m ∧ i = .int .i64 j ∧ ∃ (oa : Option Addr) (on oc : Nat) (es : List (List Int)), o = .slice oa on oc ∧ Hid (O8 wr (w.heap.size + 1) oa on oc (flatE es)) ∧ Hid (es.length = j ∧ on ≤ j * 9 ∧ PEs ps es) ∧ Hid (FB wr w.heap.size false) ∧ Hid (Below w.heap.size w wr)) (fun _ i _ => m - (intOf i).toNat)
  case atStart => exact ⟨0, Nat.zero_le _, rfl, none, 0, 0, [], rfl, Lib.hid (Own.nil _ _ _), Lib.hid ⟨rfl, Nat.le_refl _, fun i h1 h2 => absurd h2 (by simp)⟩, HF0, Lib.hid ((Below.refl _ _).alloc (Nat.le_refl _) _)⟩
  case round =>
    obtain ⟨j, hj, rfl, oa, on, oc, es, rfl, ho, hes, hfb, hbr⟩ := hrel
    by_cases hlt : j < m
    · have hli : (j : Int) < m := by omega
      have hjp : j < ps.length := by have := HM.out; omega
      obtain ⟨p, hp⟩ : ∃ p, p = ps[j] := ⟨_, rfl⟩
      obtain ⟨ba, bo, rfl, p0, p1, p2, p3, p4⟩ := (HR.out.below hbr.out (Nat.le_refl _)).p5_at j hjp p hp
      have hbl := World.block_lt_of_cell? wr _ p0
      have hok := HK.out p (by rw [hp]; exact List.getElem_mem _)
      have hFl := hfb.out.lt
      have hon : on ≤ 9000 := by have := hes.out.2.1; omega
      have HPP := Lib.hid hp
      have HP := fun (U : World) (hU : FB U w.heap.size false) => Lib.hid (putNum p hok w.heap.size false U hU)
      have HOK := Lib.hid hok
      clear hp hok
      go_wp2_with fail
      refine (HP _ (hfb.out.alloc _)).out.mono ?_
      rintro e w2 ⟨a2, n2, c2, x, rfl, ho2, hx2, hB2, hk2⟩
      have hxl := pe_len p HOK.out x hx2
      have hxn := ho2.vw.len
      have hs2 := hk2.size
      simp only [World.size_alloc] at hs2
      have ho' : O8 w2 (w.heap.size + 1) oa on oc (flatE es) := (ho.out.alloc _).kp hk2 (Nat.le_refl _) (by omega)
      have hv2 := ho2.vw
      have hkw : Kp w.heap.size w.heap.size w w2 := (Kp.of_below hbr.out).trans ((Kp.of_below (F := w.heap.size) (Below.alloc (Below.refl w.heap.size wr) (by have := hbr.out.size; omega) _)).trans (hk2.mono (by simp; have := hbr.out.size; omega)))
      have hbw2 : Below w.heap.size w w2 := hkw.below (Nat.le_refl _) (Nat.le_refl _)
      have HX2 := Lib.hid hx2
      have HO' := Lib.hid ho'
      have HV2 := Lib.hid hv2
      have HB2 := Lib.hid hB2
      have HBW2 := Lib.hid hbw2
      clear ho2 hx2 hk2 hkw ho' hv2 hB2 hbw2
      go_wp2_with (at_builtin; refine app8 (by rfl) _ _ (by rfl) (w.heap.size + 1) oa on oc (flatE es) (by rfl) HO'.out a2 n2 c2 x (by rfl) HV2.out (by omega) (by have := HB2.out.lt; omega) ?_; intro a6 c6 w6 ho6 hg6)
      have hb6 := below_of_grown (B := w.heap.size + 1) hg6 (by have := HB2.out.lt; omega) HO'.out.ge
      have HB6 := Lib.hid hb6
      have HO6 := Lib.hid ho6
      clear hb6 ho6 hg6
      go_roundw
      case rel => exact ⟨j + 1, by omega, by go_num, a6, on + n2, c6, es ++ [x], rfl, Lib.hid (by rw [flatE_app1]; exact HO6.out), Lib.hid ⟨by simp [hes.out.1], by have := hes.out.2.1; omega, fun i h1 h2 => by
        by_cases e : i < es.length
        · rw [List.getElem_append_left e]; exact hes.out.2.2 i h1 e
        · have hi : i = j := by simp at h2; have := hes.out.1; omega
          subst hi
          have e2 : (es ++ [x])[i] = x := by rw [List.getElem_append_right (by have := hes.out.1; omega)]; simp
          rw [e2, ← HPP.out]; exact HX2.out⟩, Lib.hid (HB2.out.below HB6.out (by omega)), Lib.hid (HBW2.out.trans (HB6.out.mono (by omega)))⟩
      case measure => simp [intOf]; omega
    · have hli : ¬ (j : Int) < m := by omega
      obtain rfl : j = m := by omega
      go_wp2_with fail
      go_ret
      exact ⟨oa, on, oc, es, rfl, ho.out.vw, by rw [hes.out.1]; exact HM.out, hes.out.2.2, by rw [← HM.out]; exact hes.out.2.1, hbr.out⟩
end Go.Proofs.YtfaangichifbgaaDoor
