/- The walk of laws.FnStreamPutTextBytes. -/
import Derived.Test.YtliaiaefhbgblaaDoorSPut
import Derived.Test.YtliaiaefhbgblaaDoorWrS
import Derived.LoopTactic
namespace Go.Proofs.YtliaiaefhbgblaaDoor
open Go.RowKit
set_option linter.unusedVariables false
set_option linter.unusedSimpArgs false

theorem rd_strs {w : World} {x : Addr} {len : Nat} {ss : List ByteArray} (hl : len ≤ ss.length) (hc : ∀ i, i < ss.length → w.cell? (x.add i) = some (.string (ss.getD i ByteArray.empty))) : Rd w (some x) ((ss.take len).map Value.string) := by
  by_cases h0 : len = 0
  · subst h0; exact .inl (by simp)
  · obtain ⟨b, off, spot⟩ := x
    have h1 := hc 0 (by omega)
    have hsp : spot = none := by simpa [Addr.add] using World.cell?_spot h1
    subst hsp
    refine .inr ⟨b, off, rfl, fun i v hi => ?_⟩
    have hil : i < len := by
      have := (List.getElem?_eq_some_iff.1 hi).1
      simp at this; omega
    have e : (⟨b, off, none⟩ : Addr).add i = ⟨b, off + i, none⟩ := by unfold Addr.add; split <;> simp_all
    rw [← e, hc i (by omega)]
    simp [List.getElem?_take, hil] at hi
    obtain ⟨y, hy, rfl⟩ := hi
    simp [List.getD, hy]

def AllSm (ls : List ByteArray) : Prop := ∀ i (h : i < ls.length), ls[i].size ≤ 65536
def BoolRes (w : World) (e : Ending) (w' : World) : Prop := (∃ b : Bool, e = .returned (.bool b)) ∧ w = w'
set_option maxHeartbeats 1000000 in
theorem zzFits2_any (ts : List ByteArray) (a : Option Addr) (c : Nat) (w : World) (hr : Rd w a (ts.map Value.string)) (hm : ts.length ≤ 9223372036854775807) (hs : ∀ t ∈ ts, t.size ≤ 9223372036854775807) :
    Calls Tryd.prog 9 #[.slice a ts.length c] w (BoolRes w) := by
  obtain ⟨n, hn⟩ : ∃ n, n = ts.length := ⟨_, rfl⟩
  rw [← hn] at hm ⊢
  have HN := Lib.hid hn
  have HR := Lib.hid hr
  have HS := Lib.hid hs
  clear hn hr hs
  by_cases hb : 2147483647 < n
  · have hb2 : (2147483647 : Int) < n := by omega
    go_enter Tryd.func9, Tryd.ntmps9
    go_wp2
    go_ret
    exact ⟨⟨false, rfl⟩, rfl⟩
  · have hb2 : ¬ (2147483647 : Int) < n := by omega
    go_enter Tryd.func9, Tryd.ntmps9
    go_wp2
    go_loop [10] (fun i => ∃ k : Nat, k ≤ n ∧ i = .int .i64 k) (fun i => n - (intOf i).toNat)
    case atStart => exact ⟨0, Nat.zero_le _, rfl⟩
    case round =>
      obtain ⟨k, hk, rfl⟩ := hrel
      by_cases hlt : k < n
      · have hli : (k : Int) < n := by omega
        have hkl : k < ts.length := by have := HN.out; omega
        obtain ⟨b, off, rfl, hc⟩ := HR.out.at_ (by simp; omega)
        have hck := hc k (by simp; omega)
        obtain ⟨x, hx⟩ : ∃ x, x = ts[k] := ⟨_, rfl⟩
        have hck2 : w.cell? ⟨b, off + k, none⟩ = some (.string x) := by rw [hck, hx]; simp [List.getD, List.getElem?_eq_getElem hkl]
        have HX := Lib.hid hx
        clear hc hck hx
        by_cases hbx : 2147483647 < x.size
        · have hbx2 : (2147483647 : Int) < x.size := by omega
          go_wp2
          go_ret
          exact ⟨⟨false, rfl⟩, rfl⟩
        · have hbx2 : ¬ (2147483647 : Int) < x.size := by omega
          go_wp2
          go_round
          case rel => exact ⟨k + 1, by omega, by go_num⟩
          case measure => simp [intOf]; omega
      · have hli : ¬ (k : Int) < n := by omega
        go_wp2
        go_ret
        exact ⟨⟨true, rfl⟩, rfl⟩

abbrev ptTextBytes (x : ByteArray) : Pt := ⟨6, 0, x, 0⟩
theorem encTextBytes (x : ByteArray) (h : x.size ≤ 65536) : ∃ enc : List Int, 1 ≤ enc.length ∧ enc.length ≤ 1000000 ∧ RdAs (ptTextBytes x) enc ∧ Wrts 18 (.string x) enc := by
  obtain ⟨enc, l1, l2, h1, h2⟩ := wstr_any x h
  exact ⟨enc, l1, l2, ⟨⟨6, 0, x, 0⟩, h1, fun w' => samePack_eq 6 0 0 x w' rfl⟩, clo_str x h enc h2⟩
theorem encTextBytes2 (x : ByteArray) : ∃ enc : List Int, x.size ≤ 65536 → 1 ≤ enc.length ∧ enc.length ≤ 1000000 ∧ RdAs (ptTextBytes x) enc ∧ Wrts 18 (.string x) enc := by
  by_cases h : x.size ≤ 65536
  · obtain ⟨enc, he⟩ := encTextBytes x h
    exact ⟨enc, fun _ => he⟩
  · exact ⟨[], fun h2 => absurd h2 h⟩

set_option maxRecDepth 100000 in
set_option maxHeartbeats 4000000 in
theorem fnStreamPutTextBytes_walk (bf : Int) (a : Option Addr) (c : Nat) (ls : List ByteArray) (w : World) (hr : Rd w a (ls.map (Value.string))) (hls : ∀ x ∈ ls, x.size ≤ 9223372036854775807) (hlm : ls.length ≤ 9223372036854775807) :
    Calls Tryd.prog 4 #[.int .i64 bf, .slice a ls.length c] w fun e w' => e = .returned (.bool true) ∧ Below w.heap.size w w' := by
  have HZ := Lib.hid (zzFits2_any ls a c w hr hlm hls)
  obtain ⟨enc5, l51, l5m, _, wr5⟩ := encTextBytes ⟨#[97]⟩ (by decide)
  have H5 := fun (w0 : World) (a0 : Option Addr) (hr0 : Rd w0 a0 [.string ⟨#[97]⟩]) => Lib.hid (put_str 100 (by omega) (by omega) [.string ⟨#[97]⟩] [enc5] a0 1 w0 rfl (by simp) hr0 (by intro i hi; simp at hi; subst hi; exact wr5) (by intro i hi; simp at hi; subst hi; exact l5m))
  have hf5 : (flatE [enc5]).length = enc5.length := by simp [flatE]
  have HF5 := Lib.hid hf5
  clear hf5 wr5
  have HB := fun w0 => Lib.hid (buffers_any bf 1 (by omega) w0)
  obtain ⟨n, hn⟩ : ∃ n, n = ls.length := ⟨_, rfl⟩
  rw [← hn] at HZ hlm ⊢
  have HNL := Lib.hid hn
  by_cases hgo : (18 ≤ bf ∧ bf ≤ 65536) ∧ n ≤ 100
  · obtain ⟨⟨hg1, hg2⟩, hg3⟩ := hgo
    have hd : decide (18 ≤ bf ∧ bf ≤ 65536) = true := by simp; omega
    rw [hd] at HB
    have hd3 : decide ((100 : Int) < n) = false := by simp; omega
    obtain ⟨es, hel, hes⟩ := list_ex ls (fun x _ => encTextBytes2 x)
    obtain ⟨sz, rfl⟩ : ∃ sz : Nat, bf = sz := ⟨bf.toNat, by omega⟩
    have HP := fun (hall : AllSm ls) (w0 : World) (hr0 : Rd w0 a (ls.map (Value.string))) => Lib.hid (put_str sz (by omega) (by omega) (ls.map (Value.string)) es a c w0 (by simp [hel]) (by simp; omega) hr0 (by
      intro i hi
      have h := (hes i (by omega) hi (hall i (by omega))).2.2.2
      simpa [List.getD, List.getElem?_eq_getElem (show i < ls.length by omega)] using h) (by intro i hi; exact (hes i (by omega) hi (hall i (by omega))).2.1))
    rw [List.length_map, ← hn] at HP
    have HO := fun (hall : AllSm ls) (w0 : World) (a0 : Option Addr) (n0 c0 : Nat) (wa : Option Addr) (wc : Nat) (hv : Vw w0 a0 n0 c0 (flatE es)) (hr0 : Rd w0 wa (ptCells (ls.map ptTextBytes))) => Lib.hid (inOrder_ok (ls.map ptTextBytes) es a0 n0 c0 wa wc w0 (by simp [hel]) (by simp; omega) hv hr0 (by
      intro i hi hj
      have h := (hes i (by simpa using hi) hj (hall i (by simpa using hi))).2.2.1
      simpa using h))
    rw [List.length_map, ← hn] at HO
    have HE := Lib.hid hes
    have HEL := Lib.hid hel
    have HR := Lib.hid hr
    have HLS := Lib.hid hls
    clear hes hel hr hls hn hd
    go_enter Tryd.func4, Tryd.ntmps4
    go_wp2_with fail
    refine HZ.out.mono ?_
    rintro e w9 ⟨⟨zb, rfl⟩, rfl⟩
    cases zb with
    | false =>
      go_wp2_with fail
      go_ret
      exact ⟨rfl, Below.refl _ _⟩
    | true =>
      go_wp2_with fail
      refine (H5 _ _ (Rd.lit w 9 [.string ⟨#[97]⟩])).out.mono ?_
      rintro e w1 ⟨a1, n1, c1, rfl, hv1, hb1⟩
      have hn1 : n1 = enc5.length := by rw [← hv1.len]; exact HF5.out
      have hpos : (0 : Int) < n1 := by omega
      have hpos2 : decide (0 < n1) = true := by simp; omega
      have hb1w : Below w.heap.size w w1 := Below.trans (b := w.alloc _) ((Below.refl _ _).alloc (Nat.le_refl _) _) (hb1.mono (by simp))
      have HB1 := Lib.hid hb1w
      clear hb1 hv1 hn1 hb1w
      go_wp2_with fail
      refine (HB _).out.mono ?_
      rintro e w1 ⟨rfl, rfl⟩
      go_wp2_with fail
      go_loopw [8, 38] (fun s i wr => ∃ k : Nat, k ≤ n ∧ i = .int .i64 k ∧ ∃ wa wc, s = .slice wa k wc ∧ Hid (wr.ownsRow w.heap.size 27 5 (.slice wa k wc) k (ptCells ((ls.map ptTextBytes).take k))) ∧ Hid (Below w.heap.size w wr) ∧ Hid (∀ i (h : i < ls.length), i < k → ls[i].size ≤ 65536)) (fun _ i _ => n - (intOf i).toNat)
      case atStart => exact ⟨0, Nat.zero_le _, rfl, none, 0, rfl, Lib.hid (World.ownsRow_nil _ _ _ _), HB1, Lib.hid (fun i h h2 => absurd h2 (Nat.not_lt_zero _))⟩
      case round =>
        obtain ⟨k, hk, rfl, wa, wc, rfl, how, hbr, hup⟩ := hrel
        by_cases hlt : k < n
        · have hli : (k : Int) < n := by omega
          have hkl : k < ls.length := by have := HNL.out; omega
          obtain ⟨b, off, rfl, hc⟩ := (HR.out.below hbr.out (Nat.le_refl _)).at_ (by simp; omega)
          have hck := hc k (by simp; omega)
          obtain ⟨x, hx⟩ : ∃ x, x = ls[k] := ⟨_, rfl⟩
          have hck2 : wr.cell? ⟨b, off + k, none⟩ = some (.string x) := by rw [hck, hx]; simp [List.getD, List.getElem?_eq_getElem hkl]
          clear hc hck
          have hbl := World.block_lt_of_cell? wr _ hck2
          have hxb := HLS.out x (by rw [hx]; exact List.getElem_mem _)
          have HX := Lib.hid hx
          have hsn := ptCells_snoc (ls.map ptTextBytes) k (by simpa using hkl)
          rw [List.getElem_map, ← hx] at hsn
          have HSN := Lib.hid hsn
          clear hsn hx
          by_cases hxs : 65536 < x.size
          · have hxs2 : (65536 : Int) < x.size := by omega
            go_wp2_with fail
            go_ret
            exact ⟨rfl, hbr.out⟩
          have hxs2 : ¬ (65536 : Int) < x.size := by omega
          have hBs := hbr.out.size
          go_wp2_with (at_builtin; refine appN (by rfl) _ _ 25 27 5 64 (by rfl) Tryd.underlying25 infoPk (by omega) (by omega) w.heap.size wa k wc _ (by rfl) (how.out.alloc _) wr.heap.size (by rfl) (ptTextBytes x).cells rfl (by intro u hu; simp [Pt.cells] at hu; rcases hu with rfl | rfl | rfl | rfl | rfl <;> rfl) (Blk.new _ _ _) (by omega) (by simp <;> omega) ?_; intro wa2 wc2 w2 ho2 hg2)
          have hb2 : Below w.heap.size wr w2 := Below.trans (b := wr.alloc _) ((Below.refl _ _).alloc hBs _) (below_of_grown hg2 (by simp; omega) (ge_of_owns how.out))
          rw [← HSN.out] at ho2
          go_roundw
          case rel => exact ⟨k + 1, by omega, by go_num, wa2, wc2, rfl, Lib.hid ho2, Lib.hid (hbr.out.trans hb2), Lib.hid (fun i h h2 => by
            by_cases e : i < k
            · exact hup.out i h e
            · obtain rfl : i = k := by omega
              have := HX.out; rw [← this]; omega)⟩
          case measure => simp [intOf]; omega
        · have hli : ¬ (k : Int) < n := by omega
          obtain rfl : k = n := by omega
          have how2 := how.out
          rw [List.take_of_length_le (by have := HNL.out; simp; omega)] at how2
          have HW := Lib.hid (Rd.of_owns how2)
          clear how2
          go_wp2_with fail
          refine (HP (fun i h => hup.out i h (by have := HNL.out; omega)) _ (HR.out.below hbr.out (Nat.le_refl _))).out.mono ?_
          rintro e w2 ⟨a2, n2, c2, rfl, hv2, hb2⟩
          have hbs := hbr.out.size
          go_wp2_with fail
          refine (HO (fun i h => hup.out i h (by have := HNL.out; omega)) w2 a2 n2 c2 wa wc hv2 (HW.out.below hb2 (Nat.le_refl _))).out.mono ?_
          rintro e w3 ⟨rfl, hb3⟩
          go_wp2_with fail
          go_ret
          exact ⟨rfl, hbr.out.trans ((hb2.mono hbs).trans (hb3.mono (by have := hb2.size; omega)))⟩
  · clear hr hls hn
    obtain ⟨bb, hbb⟩ : ∃ bb, bb = decide (18 ≤ bf ∧ bf ≤ 65536) := ⟨_, rfl⟩
    rw [← hbb] at HB
    cases bb with
    | true =>
      have h2 : 18 ≤ bf ∧ bf ≤ 65536 := by simpa using hbb.symm
      have hd3 : decide ((100 : Int) < n) = true := by simp; omega
      clear hbb
      go_enter Tryd.func4, Tryd.ntmps4
      go_wp2_with fail
      refine HZ.out.mono ?_
      rintro e w9 ⟨⟨zb, rfl⟩, rfl⟩
      cases zb with
      | false =>
        go_wp2_with fail
        go_ret
        exact ⟨rfl, Below.refl _ _⟩
      | true =>
        go_wp2_with fail
        refine (H5 _ _ (Rd.lit w 9 [.string ⟨#[97]⟩])).out.mono ?_
        rintro e w1 ⟨a1, n1, c1, rfl, hv1, hb1⟩
        have hn1 : n1 = enc5.length := by rw [← hv1.len]; exact HF5.out
        have hpos : (0 : Int) < n1 := by omega
        have hpos2 : decide (0 < n1) = true := by simp; omega
        have hb1w : Below w.heap.size w w1 := Below.trans (b := w.alloc _) ((Below.refl _ _).alloc (Nat.le_refl _) _) (hb1.mono (by simp))
        clear hb1 hv1 hn1
        go_wp2_with fail
        refine (HB _).out.mono ?_
        rintro e w1 ⟨rfl, rfl⟩
        go_wp2_with fail
        go_ret
        exact ⟨rfl, hb1w⟩
    | false =>
      clear hbb
      go_enter Tryd.func4, Tryd.ntmps4
      go_wp2_with fail
      refine HZ.out.mono ?_
      rintro e w9 ⟨⟨zb, rfl⟩, rfl⟩
      cases zb with
      | false =>
        go_wp2_with fail
        go_ret
        exact ⟨rfl, Below.refl _ _⟩
      | true =>
        go_wp2_with fail
        refine (H5 _ _ (Rd.lit w 9 [.string ⟨#[97]⟩])).out.mono ?_
        rintro e w1 ⟨a1, n1, c1, rfl, hv1, hb1⟩
        have hn1 : n1 = enc5.length := by rw [← hv1.len]; exact HF5.out
        have hpos : (0 : Int) < n1 := by omega
        have hpos2 : decide (0 < n1) = true := by simp; omega
        have hb1w : Below w.heap.size w w1 := Below.trans (b := w.alloc _) ((Below.refl _ _).alloc (Nat.le_refl _) _) (hb1.mono (by simp))
        clear hb1 hv1 hn1
        go_wp2_with fail
        refine (HB _).out.mono ?_
        rintro e w1 ⟨rfl, rfl⟩
        go_wp2_with fail
        go_ret
        exact ⟨rfl, hb1w⟩
#print axioms fnStreamPutTextBytes_walk
end Go.Proofs.YtliaiaefhbgblaaDoor
