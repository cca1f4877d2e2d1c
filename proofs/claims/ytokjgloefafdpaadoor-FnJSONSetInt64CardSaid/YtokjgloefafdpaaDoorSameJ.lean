/- SamePack, for a seat without TakePack (written by gen/samej.py). -/
import Derived.Test.YtokjgloefafdpaaDoorRd
namespace Go.Proofs.YtokjgloefafdpaaDoor
open Go.RowKit
set_option linter.unusedVariables false
set_option linter.unusedSimpArgs false

def pk (kind num : Int) (text : ByteArray) (ext : Int) : Value := .agg #[.int .i64 kind, .int .u64 num, .string text, .int .i64 ext, .slice none 0 0]
/-- A value of a kind and a number: its five cells. -/
def l5 (p : Int × Int) : List Value := [.int .i64 p.1, .int .u64 p.2, .string ⟨#[]⟩, .int .i64 0, .slice none 0 0]
def l5s (ps : List (Int × Int)) : List Value := ps.flatMap l5
theorem l5s_snoc (ps : List (Int × Int)) (j : Nat) (h : j < ps.length) : l5s (ps.take (j + 1)) = l5s (ps.take j) ++ l5 ps[j] := by
  unfold l5s; rw [List.take_add_one, List.getElem?_eq_getElem h, Option.toList_some, List.flatMap_append]; simp
theorem l5s_len : ∀ ps : List (Int × Int), (l5s ps).length = ps.length * 5
  | [] => rfl
  | p :: r => by unfold l5s; rw [List.flatMap_cons, List.length_append]; have := l5s_len r; unfold l5s at this; rw [this]; simp [l5]; omega

theorem infoPk : (Tryd.prog.info? 29).map (fun i => (i.zero.map (·.cells.size), i.size, i.bytes)) = some (some 5, 5, 64) := by kernel_rfl

theorem blk_grown {w w' : World} {g t n c B : Nat} {a : Option Addr} {cs : Array Value} (h : Blk w g t cs) (hg : w.grownBy w' (Value.ownBlock (.slice a n c))) (ha : ∀ x, a = some x → B ≤ x.block) (hB : g < B) : Blk w' g t cs := by
  unfold Blk
  rw [hg.block g h.lt (fun e => ?_)]
  · exact h
  · cases a with
    | none => cases e
    | some x => injection e with e; have := ha x rfl; omega

theorem below_ownP {B n c : Nat} {a w w' : World} {p : Option Addr} (h : Below B a w) (hg : w.grownBy w' (Value.ownBlock (.slice p n c))) (hB : ∀ x, p = some x → B ≤ x.block) (hBa : B ≤ a.heap.size := by omega) : Below B a w' := by
  refine h.grown hg ?_ (fun k hk => ?_)
  · have := h.size; omega
  · cases p with
    | none => cases hk
    | some x => injection hk with hk; have := hB x rfl; omega

theorem rd_row {w : World} {a : Option Addr} {xs : List Value} (h : Rd w a xs) {g : Nat} (cs : Array Value) (hg : ∀ x, a = some x → x.block ≠ g) : Rd (w.setRow g cs) a xs := by
  rcases h with h | ⟨b, off, ha, hx⟩
  · exact .inl h
  · refine .inr ⟨b, off, ha, fun i v hv => ?_⟩
    rw [World.cell?_of_block (setRow_other w g b _ (hg _ ha))]
    exact hx i v hv


set_option maxRecDepth 100000 in
set_option maxHeartbeats 1000000 in
theorem samePack_eq (k num ext : Int) (text : ByteArray) (w : World) (hk : (k == 2) = false) :
    Calls Tryd.prog 13 #[pk k num text ext, pk k num text ext] w fun e w' => e = .returned (.bool true) ∧ Below w.heap.size w w' := by
  unfold pk
  go_enter Tryd.func13, Tryd.ntmps13
  go_wp2_with fail
  refine wp_loop_once ?_
  go_wp2_with fail
  go_ret
  refine ⟨rfl, ?_⟩
  (repeat (first | with_reducible exact Below.refl _ _ | with_reducible assumption | with_reducible refine below_drewN ?_ _ | with_reducible refine Below.drew ?_ | with_reducible refine below_row ?_ (by first | omega | (simp; done) | (simp; omega)) _ | with_reducible refine Below.alloc ?_ (by first | omega | (simp; done) | (simp; omega)) _ | with_reducible refine Below.setCell ?_ (by first | omega | (simp; done) | (simp; omega)) _))

set_option maxRecDepth 100000 in
set_option maxHeartbeats 1000000 in
theorem samePack_pos (k num ext : Int) (text : ByteArray) (w : World) (h0 : 0 ≤ num) (h1 : num < 9223372036854775808) :
    Calls Tryd.prog 13 #[pk 2 num text ext, pk 3 num text ext] w fun e w' => e = .returned (.bool true) ∧ Below w.heap.size w w' := by
  unfold pk
  go_enter Tryd.func13, Tryd.ntmps13
  go_wp2_with fail
  refine wp_loop_once ?_
  go_wp2_with fail
  go_ret
  refine ⟨rfl, ?_⟩
  (repeat (first | with_reducible exact Below.refl _ _ | with_reducible assumption | with_reducible refine below_drewN ?_ _ | with_reducible refine Below.drew ?_ | with_reducible refine below_row ?_ (by first | omega | (simp; done) | (simp; omega)) _ | with_reducible refine Below.alloc ?_ (by first | omega | (simp; done) | (simp; omega)) _ | with_reducible refine Below.setCell ?_ (by first | omega | (simp; done) | (simp; omega)) _))

set_option maxRecDepth 100000 in
set_option maxHeartbeats 1000000 in
theorem samePack_neg (k num ext : Int) (text : ByteArray) (w : World) (h0 : 9223372036854775808 ≤ num) (h1 : num < 18446744073709551616) :
    Calls Tryd.prog 13 #[pk 2 num text ext, pk 2 num text ext] w fun e w' => e = .returned (.bool true) ∧ Below w.heap.size w w' := by
  have ht : wrap64 num < 0 := by unfold wrap64; omega
  unfold pk
  go_enter Tryd.func13, Tryd.ntmps13
  go_wp2_with fail
  refine wp_loop_once ?_
  go_wp2_with fail
  go_ret
  refine ⟨rfl, ?_⟩
  (repeat (first | with_reducible exact Below.refl _ _ | with_reducible assumption | with_reducible refine below_drewN ?_ _ | with_reducible refine Below.drew ?_ | with_reducible refine below_row ?_ (by first | omega | (simp; done) | (simp; omega)) _ | with_reducible refine Below.alloc ?_ (by first | omega | (simp; done) | (simp; omega)) _ | with_reducible refine Below.setCell ?_ (by first | omega | (simp; done) | (simp; omega)) _))


theorem l5s_get : ∀ (ps : List (Int × Int)) (i r : Nat) (h : i < ps.length), r < 5 → (l5s ps)[i * 5 + r]? = (l5 ps[i])[r]?
  | [], i, r, h, _ => absurd h (by simp)
  | p :: ps, 0, r, _, hr => by
    unfold l5s
    rw [List.flatMap_cons, Nat.zero_mul, Nat.zero_add, List.getElem?_append_left (by simp [l5]; omega)]
    rfl
  | p :: ps, i + 1, r, h, hr => by
    have ih := l5s_get ps i r (by simpa using h) hr
    unfold l5s at ih ⊢
    rw [List.flatMap_cons, List.getElem?_append_right (by simp [l5]; omega)]
    simp only [List.getElem_cons_succ]
    rw [← ih]
    congr 1
    simp [l5]; omega
theorem rd5 {w : World} {a : Option Addr} {ps : List (Int × Int)} (h : Rd w a (l5s ps)) (i : Nat) (hi : i < ps.length) : ∃ b off, a = some ⟨b, off, none⟩ ∧ b < w.heap.size ∧ w.cell? ⟨b, off + i * 5, none⟩ = some (.int .i64 ps[i].1) ∧ w.cell? ⟨b, off + i * 5 + 1, none⟩ = some (.int .u64 ps[i].2) ∧
    w.cell? ⟨b, off + i * 5 + 2, none⟩ = some (.string ⟨#[]⟩) ∧ w.cell? ⟨b, off + i * 5 + 3, none⟩ = some (.int .i64 0) ∧ w.cell? ⟨b, off + i * 5 + 4, none⟩ = some (.slice none 0 0) := by
  rcases h with h | ⟨b, off, ha, hx⟩
  · have := l5s_len ps; rw [h] at this; simp at this; omega
  · have c0 := hx (i * 5 + 0) _ (by rw [l5s_get ps i 0 hi (by omega)]; rfl)
    have c1 := hx (i * 5 + 1) _ (by rw [l5s_get ps i 1 hi (by omega)]; rfl)
    have c2 := hx (i * 5 + 2) _ (by rw [l5s_get ps i 2 hi (by omega)]; rfl)
    have c3 := hx (i * 5 + 3) _ (by rw [l5s_get ps i 3 hi (by omega)]; rfl)
    have c4 := hx (i * 5 + 4) _ (by rw [l5s_get ps i 4 hi (by omega)]; rfl)
    exact ⟨b, off, ha, World.block_lt_of_cell? w _ c0, c0, by rw [Nat.add_assoc]; exact c1, by rw [Nat.add_assoc]; exact c2, by rw [Nat.add_assoc]; exact c3, by rw [Nat.add_assoc]; exact c4⟩

/-- SamePack finds the two lists' values the same, one by one. -/
def SameL (ps qs : List (Int × Int)) : Prop := qs.length = ps.length ∧ ∀ i (h : i < ps.length) (h2 : i < qs.length) (W : World),
  Calls Tryd.prog 13 #[pk ps[i].1 ps[i].2 ⟨#[]⟩ 0, pk qs[i].1 qs[i].2 ⟨#[]⟩ 0] W fun e w'' => e = .returned (.bool true) ∧ Below W.heap.size W w''

set_option maxRecDepth 100000 in
set_option maxHeartbeats 4000000 in
theorem samePack_arr (ps qs : List (Int × Int)) (ka kb : Option Addr) (kc kd : Nat) (w : World) (hS : SameL ps qs) (h1 : Rd w ka (l5s ps)) (h2 : Rd w kb (l5s qs)) (hm : ps.length ≤ 1000) :
    Calls Tryd.prog 13 #[.agg #[.int .i64 8, .int .u64 0, .string ⟨#[]⟩, .int .i64 0, .slice ka ps.length kc], .agg #[.int .i64 8, .int .u64 0, .string ⟨#[]⟩, .int .i64 0, .slice kb ps.length kd]] w fun e w' => e = .returned (.bool true) ∧ Below w.heap.size w w' := by
  obtain ⟨m, hm2⟩ : ∃ m, m = ps.length := ⟨_, rfl⟩
  rw [← hm2] at hm ⊢
  have HM := Lib.hid hm2
  have HS := Lib.hid hS
  have H1 := Lib.hid h1
  have H2 := Lib.hid h2
  clear hm2 hS h1 h2
  go_enter Tryd.func13, Tryd.ntmps13
  go_wp2_with fail
  have hA := Blk.newAt (w := w.alloc (.cells #[.int .i64 8, .int .u64 0, .string ⟨#[]⟩, .int .i64 0, .slice ka m kc] 29)) (g := w.heap.size + 1) (by simp) 29 #[.int .i64 8, .int .u64 0, .string ⟨#[]⟩, .int .i64 0, .slice kb m kd]
  have hB := (Blk.new w 29 #[.int .i64 8, .int .u64 0, .string ⟨#[]⟩, .int .i64 0, .slice ka m kc]).alloc (.cells #[.int .i64 8, .int .u64 0, .string ⟨#[]⟩, .int .i64 0, .slice kb m kd] 29)
  have hbw : Below w.heap.size w ((w.alloc (.cells #[.int .i64 8, .int .u64 0, .string ⟨#[]⟩, .int .i64 0, .slice ka m kc] 29)).alloc (.cells #[.int .i64 8, .int .u64 0, .string ⟨#[]⟩, .int .i64 0, .slice kb m kd] 29)) := by (repeat (first | with_reducible exact Below.refl _ _ | with_reducible assumption | with_reducible refine below_drewN ?_ _ | with_reducible refine Below.drew ?_ | with_reducible refine below_row ?_ (by first | omega | (simp; done) | (simp; omega)) _ | with_reducible refine Below.alloc ?_ (by first | omega | (simp; done) | (simp; omega)) _ | with_reducible refine Below.setCell ?_ (by first | omega | (simp; done) | (simp; omega)) _))
  go_loopw [64] (fun i wr => ∃ (j : Nat), j ≤ m ∧ i = .int .i64 j ∧ Blk wr w.heap.size 29 #[.int .i64 8, .int .u64 0, .string ⟨#[]⟩, .int .i64 0, .slice ka m kc] ∧ Blk wr (w.heap.size + 1) 29 #[.int .i64 8, .int .u64 0, .string ⟨#[]⟩, .int .i64 0, .slice kb m kd] ∧ Hid (Below w.heap.size w wr)) (fun i _ => m - (intOf i).toNat)
  case atStart => exact ⟨0, Nat.zero_le _, rfl, hB, hA, Lib.hid hbw⟩
  case round =>
    clear hA hB hbw
    obtain ⟨j, hj, rfl, hA, hB, hbr⟩ := hrel
    have hBl := hB.lt
    by_cases hlt : j < m
    · have hli : (j : Int) < m := by omega
      have hj1 : j < ps.length := by rw [← HM.out]; exact hlt
      have hj2 : j < qs.length := by rw [HS.out.1]; exact hj1
      obtain ⟨b0, off0, rfl, hb0, p0, p1, p2, p3, p4⟩ := rd5 (H1.out.below hbr.out (Nat.le_refl _)) j hj1
      obtain ⟨b1, off1, rfl, hb1, q0, q1, q2, q3, q4⟩ := rd5 (H2.out.below hbr.out (Nat.le_refl _)) j hj2
      have hcall := HS.out.2 j hj1 hj2
      obtain ⟨p, hp⟩ : ∃ p, p = ps[j] := ⟨_, rfl⟩
      obtain ⟨q, hq⟩ : ∃ q, q = qs[j] := ⟨_, rfl⟩
      rw [← hp] at p0 p1 hcall
      rw [← hq] at q0 q1 hcall
      have HA := Lib.hid hcall
      clear hcall hp hq
      have a3 := hA.cell (i := 4) rfl
      have b3 := hB.cell (i := 4) rfl
      have hAl := hA.lt
      go_wp2_with fail
      go_region_held3 (fun V => V.cell? ⟨w.heap.size, 4, none⟩ = some (.slice (some ⟨b0, off0, none⟩) m kc) ∧ V.cell? ⟨w.heap.size + 1, 4, none⟩ = some (.slice (some ⟨b1, off1, none⟩) m kd) ∧ V.cell? ⟨b0, off0 + j * 5, none⟩ = some (.int .i64 p.1) ∧ V.cell? ⟨b0, off0 + j * 5 + 1, none⟩ = some (.int .u64 p.2) ∧ V.cell? ⟨b0, off0 + j * 5 + 2, none⟩ = some (.string ⟨#[]⟩) ∧ V.cell? ⟨b0, off0 + j * 5 + 3, none⟩ = some (.int .i64 0) ∧ V.cell? ⟨b0, off0 + j * 5 + 4, none⟩ = some (.slice none 0 0) ∧ V.cell? ⟨b1, off1 + j * 5, none⟩ = some (.int .i64 q.1) ∧ V.cell? ⟨b1, off1 + j * 5 + 1, none⟩ = some (.int .u64 q.2) ∧ V.cell? ⟨b1, off1 + j * 5 + 2, none⟩ = some (.string ⟨#[]⟩) ∧ V.cell? ⟨b1, off1 + j * 5 + 3, none⟩ = some (.int .i64 0) ∧ V.cell? ⟨b1, off1 + j * 5 + 4, none⟩ = some (.slice none 0 0)) (first | exact ⟨a3, b3, p0, p1, p2, p3, p4, q0, q1, q2, q3, q4⟩ | exact ⟨hcw _ _ _ hAl a3, hcw _ _ _ hBl b3, hcw _ _ _ hb0 p0, hcw _ _ _ hb0 p1, hcw _ _ _ hb0 p2, hcw _ _ _ hb0 p3, hcw _ _ _ hb0 p4, hcw _ _ _ hb1 q0, hcw _ _ _ hb1 q1, hcw _ _ _ hb1 q2, hcw _ _ _ hb1 q3, hcw _ _ _ hb1 q4⟩) (first | (go_at_call 13; refine (HA.out _).mono ?_; rintro e w1 ⟨rfl, hb9⟩; have hcw : ∀ b o v, b < wr.heap.size → wr.cell? ⟨b, o, none⟩ = some v → w1.cell? ⟨b, o, none⟩ = some v := (fun b o v hlt hv => (hb9.cell (p := ⟨b, o, none⟩) hlt).trans hv)))
      have hA1 := Blk.below (w := wr.drew) hA.drew hb9 hAl
      have hB1 := Blk.below (w := wr.drew) hB.drew hb9 hBl
      have hbr1 : Below w.heap.size w w1 := hbr.out.trans (Below.trans (b := wr.drew) (Below.drew (Below.refl _ _)) (hb9.mono (by have := hbr.out.size; simp; omega)))
      go_wp2_with fail
      go_roundw
      case rel => exact ⟨j + 1, by omega, by go_num, hA1, hB1, Lib.hid hbr1⟩
      case measure => simp [intOf]; omega
    · have hli : ¬ (j : Int) < m := by omega
      go_wp2_with fail
      go_ret
      exact ⟨rfl, hbr.out⟩
end Go.Proofs.YtokjgloefafdpaaDoor
