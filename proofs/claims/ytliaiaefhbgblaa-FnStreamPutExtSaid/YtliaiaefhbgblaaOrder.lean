/- laws.inOrder: values of MessagePack stand one behind the other. -/
import Derived.Test.YtliaiaefhbgblaaReads
import Derived.Test.YtliaiaefhbgblaaRd
import Derived.Test.YtliaiaefhbgblaaWritten
namespace Go.Proofs.Ytliaiaefhbgblaa
open Go.RowKit
set_option linter.unusedVariables false
set_option linter.unusedSimpArgs false

structure Pt where
  k : Int
  num : Int
  text : ByteArray
  ext : Int
def Pt.cells (p : Pt) : List Value := [.int .i64 p.k, .int .u64 p.num, .string p.text, .int .i64 p.ext, .slice none 0 0]
def Pt.val (p : Pt) : Value := pk p.k p.num p.text p.ext
def ptCells (ps : List Pt) : List Value := ps.flatMap Pt.cells
theorem ptCells_length (ps : List Pt) : (ptCells ps).length = ps.length * 5 := by
  induction ps with
  | nil => rfl
  | cons p ps ih => simp [ptCells, Pt.cells] at ih ⊢; omega
theorem ptCells_snoc (ps : List Pt) (j : Nat) (h : j < ps.length) : ptCells (ps.take (j + 1)) = ptCells (ps.take j) ++ ps[j].cells := by
  unfold ptCells
  rw [List.take_succ_eq_append_getElem h, List.flatMap_append]
  simp only [List.flatMap_cons, List.flatMap_nil, List.append_nil]
theorem ptCells_get (ps : List Pt) (j : Nat) (h : j < ps.length) (i : Nat) (hi : i < 5) : (ptCells ps)[j * 5 + i]? = ps[j].cells[i]? := by
  induction ps generalizing j with
  | nil => simp at h
  | cons e es ih =>
    cases j with
    | zero =>
      simp only [ptCells, List.flatMap_cons, Nat.zero_mul, Nat.zero_add, List.getElem_cons_zero]
      rw [List.getElem?_append_left (by simp [Pt.cells]; omega)]
    | succ j =>
      have := ih j (by simpa using h)
      simp only [ptCells, List.flatMap_cons, List.getElem_cons_succ] at this ⊢
      rw [List.getElem?_append_right (by simp [Pt.cells]; omega), ← this]
      congr 1
      simp [Pt.cells]; omega
theorem Rd.pt_at {w : World} {a : Option Addr} {ps : List Pt} (h : Rd w a (ptCells ps)) (j : Nat) (hj : j < ps.length) (p : Pt) (hp : p = ps[j]) :
    ∃ b off, a = some ⟨b, off, none⟩ ∧ w.cell? ⟨b, off + j * 5, none⟩ = some (.int .i64 p.k) ∧ w.cell? ⟨b, off + j * 5 + 1, none⟩ = some (.int .u64 p.num) ∧ w.cell? ⟨b, off + j * 5 + 2, none⟩ = some (.string p.text) ∧ w.cell? ⟨b, off + j * 5 + 3, none⟩ = some (.int .i64 p.ext) ∧ w.cell? ⟨b, off + j * 5 + 4, none⟩ = some (.slice none 0 0) := by
  subst hp
  have hl := ptCells_length ps
  have g := fun i hi => ptCells_get ps j hj i hi
  rcases h with h | ⟨b, off, ha, hx⟩
  · rw [h] at hl; simp at hl; omega
  · refine ⟨b, off, ha, ?_, ?_, ?_, ?_, ?_⟩
    · exact hx (j * 5 + 0) _ (g 0 (by omega))
    · rw [Nat.add_assoc]; exact hx (j * 5 + 1) _ (g 1 (by omega))
    · rw [Nat.add_assoc]; exact hx (j * 5 + 2) _ (g 2 (by omega))
    · rw [Nat.add_assoc]; exact hx (j * 5 + 3) _ (g 3 (by omega))
    · rw [Nat.add_assoc]; exact hx (j * 5 + 4) _ (g 4 (by omega))

/-- These bytes are read as a value that is the same as this one. -/
def RdAs (p : Pt) (enc : List Int) : Prop := ∃ q : Pt, Reads enc q.k q.num q.text q.ext ∧ ∀ w', Calls Try.prog 18 #[p.val, q.val] w' fun e w'' => e = .returned (.bool true) ∧ Below w'.heap.size w' w''

set_option maxRecDepth 100000 in
set_option maxHeartbeats 2000000 in
theorem inOrder_ok (ps : List Pt) (es : List (List Int)) (a : Option Addr) (n c : Nat) (wa : Option Addr) (wc : Nat) (w : World) (hl : es.length = ps.length) (hn : ps.length ≤ 1000) (hv : Vw w a n c (flatE es)) (hr : Rd w wa (ptCells ps))
    (h : ∀ i (hi : i < ps.length) (hj : i < es.length), RdAs ps[i] es[i]) :
    Calls Try.prog 9 #[.slice a n c, .bool true, .slice wa ps.length wc] w fun e w' => e = .returned (.bool true) ∧ Below w.heap.size w w' := by
  obtain ⟨m, hm⟩ : ∃ m, m = ps.length := ⟨_, rfl⟩
  rw [← hm] at hl hn ⊢
  have HL := Lib.hid hl
  have HM := Lib.hid hm
  have HH := Lib.hid h
  have HR := Lib.hid hr
  have HV := Lib.hid hv
  clear hl hm h hr hv
  go_enter Try.func9, Try.ntmps9
  go_wp2_with fail
  go_loopw [0, 14] (fun d i wr => ∃ k : Nat, k ≤ m ∧ i = .int .i64 k ∧ ∃ ak nk ck, d = .slice ak nk ck ∧ Hid (Vw w ak nk ck (flatE (es.drop k))) ∧ Hid (Below w.heap.size w wr)) (fun _ i _ => m - (intOf i).toNat)
  case atStart => exact ⟨0, Nat.zero_le _, rfl, a, n, c, rfl, HV, Lib.hid (Below.refl _ _)⟩
  case round =>
    obtain ⟨k, hk, rfl, ak, nk, ck, rfl, hvk, hbr⟩ := hrel
    by_cases hlt : k < m
    · have hli : (k : Int) < m := by omega
      have hke : k < es.length := by have := HL.out; omega
      have hkp : k < ps.length := by have := HM.out; omega
      obtain ⟨q, hq, hS⟩ := HH.out k hkp hke
      have hvk2 := hvk.out
      rw [flatE_drop es k hke] at hvk2
      obtain ⟨a', n', c', hn', hv', hT⟩ := hq w ak nk ck _ 2 (by omega) hvk2
      obtain ⟨p, hp⟩ : ∃ p, p = ps[k] := ⟨_, rfl⟩
      rw [← hp] at hS
      obtain ⟨b, off, rfl, p0, p1, p2, p3, p4⟩ := (HR.out.below hbr.out (Nat.le_refl _)).pt_at k hkp p hp
      have hbl := World.block_lt_of_cell? wr _ p0
      have HT := Lib.hid hT
      have HS := Lib.hid hS
      have HV' := Lib.hid hv'
      have HP := Lib.hid hp
      have HN' := Lib.hid hn'
      clear hT hS hv' hp hn' hvk2 hq
      have hBw := hbr.out.size
      go_wp2_with fail
      refine (HT.out _ ?_).mono ?_
      · refine hbr.out.trans ?_
        refine Below.mono (B := wr.heap.size) ?_ hBw
        (repeat (first | with_reducible exact Below.refl _ _ | with_reducible assumption | with_reducible refine below_drewN ?_ _ | with_reducible refine Below.drew ?_ | with_reducible refine below_row ?_ (by first | omega | (simp; done) | (simp; omega)) _ | with_reducible refine Below.alloc ?_ (by first | omega | (simp; done) | (simp; omega)) _ | with_reducible refine Below.setCell ?_ (by first | omega | (simp; done) | (simp; omega)) _))
      rintro e w2 ⟨rfl, hb2⟩
      have hB : Blk w2 wr.heap.size 30 #[.int .i64 p.k, .int .u64 p.num, .string p.text, .int .i64 p.ext, .slice none 0 0] := Blk.below (by (repeat (first | with_reducible exact Blk.new _ _ _ | with_reducible assumption | with_reducible refine Blk.alloc ?_ _ | with_reducible refine Blk.drewN ?_ _ | with_reducible refine Blk.drew ?_ | with_reducible refine Blk.other ?_ (by first | omega | (simp; done) | (simp; omega)) _))) hb2 (by simp <;> omega)
      have hb3 : Below w.heap.size w w2 := hbr.out.trans (Below.trans (b := _) (Below.mono (B := wr.heap.size) (by (repeat (first | with_reducible exact Below.refl _ _ | with_reducible assumption | with_reducible refine below_drewN ?_ _ | with_reducible refine Below.drew ?_ | with_reducible refine below_row ?_ (by first | omega | (simp; done) | (simp; omega)) _ | with_reducible refine Below.alloc ?_ (by first | omega | (simp; done) | (simp; omega)) _ | with_reducible refine Below.setCell ?_ (by first | omega | (simp; done) | (simp; omega)) _))) hBw) (hb2.mono (by simp <;> omega)))
      have r0 := hB.cell (i := 0) rfl
      have r1 := hB.cell (i := 1) rfl
      have r2 := hB.cell (i := 2) rfl
      have r3 := hB.cell (i := 3) rfl
      have r4 := hB.cell (i := 4) rfl
      have hBl := hB.lt
      have hne : wr.heap.size ≠ w2.heap.size := by omega
      unfold pk
      go_wp2_with fail
      refine (HS.out _).mono ?_
      rintro e w3 ⟨rfl, hb4⟩
      go_wp2_with fail
      go_roundw
      case rel => exact ⟨k + 1, by omega, by go_num, a', n', c', rfl, Lib.hid HV'.out, Lib.hid (hb3.trans (Below.trans (b := _) (Below.mono (B := w2.heap.size) (by (repeat (first | with_reducible exact Below.refl _ _ | with_reducible assumption | with_reducible refine below_drewN ?_ _ | with_reducible refine Below.drew ?_ | with_reducible refine below_row ?_ (by first | omega | (simp; done) | (simp; omega)) _ | with_reducible refine Below.alloc ?_ (by first | omega | (simp; done) | (simp; omega)) _ | with_reducible refine Below.setCell ?_ (by first | omega | (simp; done) | (simp; omega)) _))) hb3.size) (hb4.mono (by have := hb3.size; simp; omega))))⟩
      case measure => simp [intOf]; omega
    · have hli : ¬ (k : Int) < m := by omega
      obtain rfl : k = m := by omega
      have hn0 : nk = 0 := by
        have h1 := hvk.out.len
        rw [List.drop_of_length_le (by have := HL.out; omega)] at h1
        simpa [flatE] using h1.symm
      have hnz : ((nk : Int) == 0) = true := by simp [hn0]
      go_wp2_with fail
      go_ret
      exact ⟨rfl, hbr.out⟩
end Go.Proofs.Ytliaiaefhbgblaa
