/- msgp.ensure. -/
import Derived.Test.YtbngkfdfjpbajaaPuts
import Derived.Laws.MakeOwn
import Derived.Laws.CopyOwn
namespace Go.Proofs.Ytbngkfdfjpbajaa
open Go.RowKit
set_option linter.unusedVariables false

/-- Room behind a row: a block that begins with the bytes l and has at least m cells more. -/
def Room (w : World) (g c : Nat) (l : List Int) (m : Nat) : Prop :=
  ∃ cur : Array Value, Blk w g 5 cur ∧ cur.size = c ∧ l.length + m ≤ c ∧ c ≤ 9223372036854775807 ∧ cur.toList.take l.length = bytesV l ∧ ∀ x ∈ l, 0 ≤ x ∧ x ≤ 255

def zrow (n : Nat) : Array Value := madeCells (Value.int .u8 0).cells n
theorem zrow_size (n : Nat) : (zrow n).size = n := size_madeCells _ _

theorem make8 (w : World) (n : Nat) (i : Int) (hi : i = n) (hn : n ≤ 140737488355328) :
    (Instr.makeSlice 22 (.int .i64 i) (.int .i64 i)).run Try.prog w = .ok (.slice (some ⟨w.heap.size, 0, none⟩) n n) (w.alloc (.cells (zrow n) 5)) := by
  subst hi
  obtain ⟨j, hj, hz, h1, h2⟩ := info8
  have h := run_make (P := Try.prog) w 22 5 j (.int .u8 0) Try.underlying22 hj hz .i64 .i64 n n (by omega) (by omega) (by rw [h2]; omega) (by omega)
  rw [h1] at h
  simpa [zrow] using h

theorem one8 : (Try.prog.info? 5).map (·.size) = some 1 := by
  obtain ⟨j, hj, hz, h1, h2⟩ := info8
  rw [hj]; simp [h1]

set_option maxHeartbeats 1000000 in
theorem ensure_any (B : Nat) (a : Option Addr) (n c : Nat) (l : List Int) (m : Nat) (i : Int) (hi : i = m) (w : World) (hv : O8 w B a n c l) (hB : B ≤ w.heap.size) (hn : n ≤ 1099511627776) (hm : 1 ≤ m) (hm2 : m ≤ 1099511627776) :
    Calls Try.prog 31 #[.slice a n c, .int .i64 i] w fun e w' => ∃ g c', e = .returned (.tuple #[.slice (some ⟨g, 0, none⟩) (n + m) c', .int .i64 n]) ∧ B ≤ g ∧ Room w' g c' l m ∧ Below B w w' := by
  subst hi
  have hcn := hv.vw.cap
  have hcb := hv.vw.big
  have hl := hv.vw.len
  by_cases hroom : c < n + m
  · have h1 : ((c : Int) - n < m) := by omega
    have hmk := make8 w (2 * c + m) (2 * (c : Int) + (m : Int)) (by omega) (by omega)
    have hmin : Nat.min n (2 * c + m) = n := Nat.min_eq_left (by omega)
    have hle : n + m ≤ 2 * c + m := by omega
    have hbl : (bytesV l).length = n := by simp [bytesV, hl]
    go_enter Try.func31, Try.ntmps31
    go_wp2_with (refine wpList_copy_splice (by rfl) (.tmp 24) (.tmp 25) 22 22 (by rfl) 5 Try.underlying22 one8 _ _ _ _ _ _ (by rfl) (by rfl) w.heap.size 0 (zrow (2 * c + m)).toList 5 (show _ = _ from Blk.new w 5 _) (bytesV l) (by simp [bytesV, hl]; omega) (fun h0 => ⟨rfl, (hv.vw.alloc _).src h0⟩) (by simp [bytesV, hl, zrow_size]; omega) (by simp [bytesV, Value.oneCell']) B w ((Below.refl _ _).alloc hB _) hB ?_; intro w1 hh hb1)
    go_ret2
    refine ⟨w.heap.size, 2 * c + m, rfl, hB, ⟨_, hh.out, ?_, by omega, by omega, ?_, hv.vw.byt⟩, hb1⟩
    · simp only [List.size_toArray]
      rw [length_splice _ _ _ (by simp [bytesV, hl, zrow_size]; omega)]
      simp [zrow_size]
    · simp only [splice, List.take_zero, List.nil_append]
      rw [← show (bytesV l).length = l.length by simp [bytesV]]
      simp
  · have h1 : ¬ ((c : Int) - n < m) := by omega
    rcases hv.row with ⟨rfl, rfl, rfl⟩ | ⟨g, cur, rfl, hg, hb, hc⟩
    · omega
    · have h2 : n + m ≤ c := by omega
      have ht := hv.owns
      go_enter Try.func31, Try.ntmps31
      go_wp2_with fail
      go_ret2
      refine ⟨g, c, rfl, hg, ⟨cur, hb, hc, by omega, hcb, ?_, hv.vw.byt⟩, Below.refl _ _⟩
      rcases ht.2 with ⟨h3, _⟩ | ⟨g', cap, cur', h3, _, hh, _, _, _, htk⟩
      · cases h3
      · injection h3 with h4 h5 h6
        injection h4 with h4; injection h4 with h4
        subst h4
        have : cur' = cur := by have e := hb; unfold Blk at e; rw [hh] at e; injection e with e; injection e with e
        subst this
        rw [hl]; simpa using htk

theorem room_own {w : World} {g c : Nat} {l : List Int} {m : Nat} (h : Room w g c l m) (B : Nat) (hg : B ≤ g) (bs : List Int) (hb : bs.length = m) (hby : ∀ x ∈ bs, 0 ≤ x ∧ x ≤ 255) :
    O8 (puts w g l.length bs) B (some ⟨g, 0, none⟩) (l.length + m) c (l ++ bs) := by
  obtain ⟨cur, hB, hc, hlm, hcb, ht, hl⟩ := h
  obtain ⟨cs', h1, h2, h3⟩ := puts_blk bs w l.length cur hB (by omega)
  refine ⟨⟨by simp; omega, hlm, hcb, fun x hx => ?_, fun e => (by cases e), .inr ⟨g, 0, rfl, fun i hi => ?_⟩⟩, .inr ⟨g, cs', rfl, hg, h1, by omega⟩⟩
  · rcases List.mem_append.1 hx with h4 | h4
    · exact hl x h4
    · exact hby x h4
  · rw [Nat.zero_add]
    refine h1.cell ?_
    have e : (cs'.toList.take (l.length + bs.length))[i]? = some (.int .u8 ((l ++ bs).getD i 0)) := by
      rw [h3, ht, show bytesV l ++ bytesV bs = bytesV (l ++ bs) by simp [bytesV]]
      have hil : i < (l ++ bs).length := by simp; omega
      simp only [bytesV, List.getElem?_map, List.getElem?_eq_getElem hil, List.getD, Option.map_some, Option.getD_some]
    rw [List.getElem?_take, if_pos (by omega)] at e
    simpa using e

theorem Room.blk {w : World} {g c : Nat} {l : List Int} {m : Nat} (h : Room w g c l m) : ∃ cur : Array Value, Blk w g 5 cur ∧ cur.size = c ∧ l.length + m ≤ c ∧ c ≤ 9223372036854775807 := by
  obtain ⟨cur, h1, h2, h3, h4, _⟩ := h
  exact ⟨cur, h1, h2, h3, h4⟩
end Go.Proofs.Ytbngkfdfjpbajaa
