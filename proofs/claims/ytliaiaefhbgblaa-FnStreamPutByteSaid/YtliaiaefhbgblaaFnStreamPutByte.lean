/- The walk of laws.FnStreamPutByte. -/
import Derived.Test.YtliaiaefhbgblaaSPut
namespace Go.Proofs.Ytliaiaefhbgblaa
open Go.RowKit
set_option linter.unusedVariables false
set_option linter.unusedSimpArgs false

abbrev ptByte (x : Int) : Pt := ⟨3, x, ⟨#[]⟩, 0⟩
theorem encByte (x : Int) (h : 0 ≤ x ∧ x < 256) : ∃ enc : List Int, 1 ≤ enc.length ∧ enc.length ≤ 1000000 ∧ RdAs (ptByte x) enc ∧ Wrts 20 (.int .u8 x) enc := by
  obtain ⟨enc, l1, l2, h1, h2⟩ := wrts_uint64 x (by omega) (by omega)
  exact ⟨enc, l1, by omega, ⟨⟨3, x, ⟨#[]⟩, 0⟩, h1, fun w' => samePack_eq 3 x 0 ⟨#[]⟩ w' rfl⟩, clo_u8 x (by omega) (by omega) enc h2⟩

set_option maxRecDepth 100000 in
set_option maxHeartbeats 4000000 in
theorem fnStreamPutByte_walk (bf : Int) (a : Option Addr) (c : Nat) (ls : List Int) (w : World) (hr : Rd w a (ls.map (Value.int .u8))) (hls : ∀ x ∈ ls, 0 ≤ x ∧ x < 256) :
    Calls Try.prog 4 #[.int .i64 bf, .slice a ls.length c] w fun e w' => e = .returned (.bool true) ∧ Below w.heap.size w w' := by
  by_cases hbig : 2147483647 < ls.length
  · have hb : (2147483647 : Int) < ls.length := by omega
    go_enter Try.func4, Try.ntmps4
    go_wp2_with fail
    go_ret
    exact ⟨rfl, Below.refl _ _⟩
  have hb : ¬ ((2147483647 : Int) < ls.length) := by omega
  obtain ⟨enc5, l51, l5m, _, wr5⟩ := encByte 5 (by omega)
  have H5 := fun (w0 : World) (a0 : Option Addr) (hr0 : Rd w0 a0 [.int .u8 5]) => Lib.hid (put_u8 100 (by omega) (by omega) [.int .u8 5] [enc5] a0 1 w0 rfl (by simp) hr0 (by intro i hi; simp at hi; subst hi; exact wr5) (by intro i hi; simp at hi; subst hi; exact l5m))
  have hf5 : (flatE [enc5]).length = enc5.length := by simp [flatE]
  have HF5 := Lib.hid hf5
  clear hf5 wr5
  have HB := fun w0 => Lib.hid (buffers_any bf 1 (by omega) w0)
  obtain ⟨n, hn⟩ : ∃ n, n = ls.length := ⟨_, rfl⟩
  rw [← hn] at hb hbig ⊢
  have HNL := Lib.hid hn
  by_cases hgo : (18 ≤ bf ∧ bf ≤ 65536) ∧ n ≤ 100
  · obtain ⟨⟨hg1, hg2⟩, hg3⟩ := hgo
    have hd : decide (18 ≤ bf ∧ bf ≤ 65536) = true := by simp; omega
    rw [hd] at HB
    have hd3 : decide ((100 : Int) < n) = false := by simp; omega
    obtain ⟨es, hel, hes⟩ := list_ex ls (fun x hx => encByte x (hls x hx))
    obtain ⟨sz, rfl⟩ : ∃ sz : Nat, bf = sz := ⟨bf.toNat, by omega⟩
    have HP := fun (w0 : World) (hr0 : Rd w0 a (ls.map (Value.int .u8))) => Lib.hid (put_u8 sz (by omega) (by omega) (ls.map (Value.int .u8)) es a c w0 (by simp [hel]) (by simp; omega) hr0 (by
      intro i hi
      have h := (hes i (by omega) hi).2.2.2
      simpa [List.getD, List.getElem?_eq_getElem (show i < ls.length by omega)] using h) (by intro i hi; exact (hes i (by omega) hi).2.1))
    rw [List.length_map, ← hn] at HP
    have HO := fun (w0 : World) (a0 : Option Addr) (n0 c0 : Nat) (wa : Option Addr) (wc : Nat) (hv : Vw w0 a0 n0 c0 (flatE es)) (hr0 : Rd w0 wa (ptCells (ls.map ptByte))) => Lib.hid (inOrder_ok (ls.map ptByte) es a0 n0 c0 wa wc w0 (by simp [hel]) (by simp; omega) hv hr0 (by
      intro i hi hj
      have h := (hes i (by simpa using hi) hj).2.2.1
      simpa using h))
    rw [List.length_map, ← hn] at HO
    have HE := Lib.hid hes
    have HEL := Lib.hid hel
    have HR := Lib.hid hr
    have HLS := Lib.hid hls
    clear hes hel hr hls hn hd
    go_enter Try.func4, Try.ntmps4
    go_wp2_with fail
    refine (H5 _ _ (Rd.lit w 5 [.int .u8 5])).out.mono ?_
    rintro e w1 ⟨a1, n1, c1, rfl, hv1, hb1⟩
    have hn1 : n1 = enc5.length := by rw [← hv1.len]; exact HF5.out
    have hpos : (0 : Int) < n1 := by omega
    have hpos2 : decide (0 < n1) = true := by simp; omega
    have hb1w : Below w.heap.size w w1 := Below.trans (b := w.alloc _) ((Below.refl _ _).alloc (Nat.le_refl _) _) (hb1.mono (by simp))
    have HB1 := Lib.hid hb1w
    clear hb1 hv1 hn1 hb1w
    go_wp2_with fail
    refine (HB _).out.mono ?_
    rintro e w1 ⟨rfl, rfl⟩
    go_wp2_with fail
    go_loopw [8, 38] (fun s i wr => ∃ k : Nat, k ≤ n ∧ i = .int .i64 k ∧ ∃ wa wc, s = .slice wa k wc ∧ Hid (wr.ownsRow w.heap.size 30 5 (.slice wa k wc) k (ptCells ((ls.map ptByte).take k))) ∧ Hid (Below w.heap.size w wr)) (fun _ i _ => n - (intOf i).toNat)
    case atStart => exact ⟨0, Nat.zero_le _, rfl, none, 0, rfl, Lib.hid (World.ownsRow_nil _ _ _ _), HB1⟩
    case round =>
      obtain ⟨k, hk, rfl, wa, wc, rfl, how, hbr⟩ := hrel
      by_cases hlt : k < n
      · have hli : (k : Int) < n := by omega
        have hkl : k < ls.length := by have := HNL.out; omega
        obtain ⟨b, off, rfl, hc⟩ := (HR.out.below hbr.out (Nat.le_refl _)).at_ (by simp; omega)
        have hck := hc k (by simp; omega)
        obtain ⟨x, hx⟩ : ∃ x, x = ls[k] := ⟨_, rfl⟩
        have hck2 : wr.cell? ⟨b, off + k, none⟩ = some (.int .u8 x) := by rw [hck, hx]; simp [List.getD, List.getElem?_eq_getElem hkl]
        clear hc hck
        have hbl := World.block_lt_of_cell? wr _ hck2
        have hxb := HLS.out x (by rw [hx]; exact List.getElem_mem _)
        have HX := Lib.hid hx
        have hsn := ptCells_snoc (ls.map ptByte) k (by simpa using hkl)
        rw [List.getElem_map, ← hx] at hsn
        have HSN := Lib.hid hsn
        clear hsn hx
        have hBs := hbr.out.size
        go_wp2_with (at_builtin; refine appN (by rfl) _ _ 28 30 5 64 (by rfl) Try.underlying28 infoPk (by omega) (by omega) w.heap.size wa k wc _ (by rfl) (how.out.alloc _) wr.heap.size (by rfl) (ptByte x).cells rfl (by intro u hu; simp [Pt.cells] at hu; rcases hu with rfl | rfl | rfl | rfl | rfl <;> rfl) (Blk.new _ _ _) (by omega) (by simp <;> omega) ?_; intro wa2 wc2 w2 ho2 hg2)
        have hb2 : Below w.heap.size wr w2 := Below.trans (b := wr.alloc _) ((Below.refl _ _).alloc hBs _) (below_of_grown hg2 (by simp; omega) (ge_of_owns how.out))
        rw [← HSN.out] at ho2
        go_roundw
        case rel => exact ⟨k + 1, by omega, by go_num, wa2, wc2, rfl, Lib.hid ho2, Lib.hid (hbr.out.trans hb2)⟩
        case measure => simp [intOf]; omega
      · have hli : ¬ (k : Int) < n := by omega
        obtain rfl : k = n := by omega
        have how2 := how.out
        rw [List.take_of_length_le (by have := HNL.out; simp; omega)] at how2
        have HW := Lib.hid (Rd.of_owns how2)
        clear how2
        go_wp2_with fail
        refine (HP _ (HR.out.below hbr.out (Nat.le_refl _))).out.mono ?_
        rintro e w2 ⟨a2, n2, c2, rfl, hv2, hb2⟩
        have hbs := hbr.out.size
        go_wp2_with fail
        refine (HO w2 a2 n2 c2 wa wc hv2 (HW.out.below hb2 (Nat.le_refl _))).out.mono ?_
        rintro e w3 ⟨rfl, hb3⟩
        go_wp2_with fail
        go_ret
        exact ⟨rfl, hbr.out.trans ((hb2.mono hbs).trans (hb3.mono (by have := hb2.size; omega)))⟩
  · clear hr hls
    obtain ⟨bb, hbb⟩ : ∃ bb, bb = decide (18 ≤ bf ∧ bf ≤ 65536) := ⟨_, rfl⟩
    rw [← hbb] at HB
    cases bb with
    | true =>
      have h2 : 18 ≤ bf ∧ bf ≤ 65536 := by simpa using hbb.symm
      have hd3 : decide ((100 : Int) < n) = true := by simp; omega
      clear hbb
      go_enter Try.func4, Try.ntmps4
      go_wp2_with fail
      refine (H5 _ _ (Rd.lit w 5 [.int .u8 5])).out.mono ?_
      rintro e w1 ⟨a1, n1, c1, rfl, hv1, hb1⟩
      have hn1 : n1 = enc5.length := by rw [← hv1.len]; exact HF5.out
      have hpos : (0 : Int) < n1 := by omega
      have hpos2 : decide (0 < n1) = true := by simp; omega
      have hb1w : Below w.heap.size w w1 := Below.trans (b := w.alloc _) ((Below.refl _ _).alloc (Nat.le_refl _) _) (hb1.mono (by simp))
      clear hb1 hv1 hn1
      go_wp2_with fail
      refine (HB _).out.mono ?_
      rintro e w1 ⟨rfl, rfl⟩
      go_wp2_with fail
      go_ret
      exact ⟨rfl, hb1w⟩
    | false =>
      clear hbb
      go_enter Try.func4, Try.ntmps4
      go_wp2_with fail
      refine (H5 _ _ (Rd.lit w 5 [.int .u8 5])).out.mono ?_
      rintro e w1 ⟨a1, n1, c1, rfl, hv1, hb1⟩
      have hn1 : n1 = enc5.length := by rw [← hv1.len]; exact HF5.out
      have hpos : (0 : Int) < n1 := by omega
      have hpos2 : decide (0 < n1) = true := by simp; omega
      have hb1w : Below w.heap.size w w1 := Below.trans (b := w.alloc _) ((Below.refl _ _).alloc (Nat.le_refl _) _) (hb1.mono (by simp))
      clear hb1 hv1 hn1
      go_wp2_with fail
      refine (HB _).out.mono ?_
      rintro e w1 ⟨rfl, rfl⟩
      go_wp2_with fail
      go_ret
      exact ⟨rfl, hb1w⟩
#print axioms fnStreamPutByte_walk
end Go.Proofs.Ytliaiaefhbgblaa
