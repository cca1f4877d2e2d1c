/- spec.PackFits of an extension; an argument []impl.Pack, opened. -/
import Derived.Test.YtliaiaefhbgblaaFew
import Derived.Test.YtliaiaefhbgblaaOpen
import Derived.Test.YtliaiaefhbgblaaOrdX
namespace Go.Proofs.Ytliaiaefhbgblaa
open Go.ChangeShapes Go.WideShapes Go.RowKit
set_option linter.unusedVariables false
set_option linter.unusedSimpArgs false

/-- What is told: yes only where this holds. -/
def TellRes (P : Prop) (w : World) (e : Ending) (w' : World) : Prop := ∃ b : Bool, e = .returned (.bool b) ∧ (b = true → P) ∧ Below w.heap.size w w'

set_option maxRecDepth 100000 in
set_option maxHeartbeats 8000000 in
theorem fitE_any (num ext : Int) (t : ByteArray) (a : Option Addr) (n c : Nat) (w : World) :
    Calls Try.prog 29 #[pkV 10 num t ext a n c, .int .i64 1] w (TellRes (num = 0 ∧ n = 0 ∧ -128 ≤ ext ∧ ext ≤ 127) w) := by
  unfold pkV
  by_cases h1 : 0 < n
  · have h1' : (0 : Int) < n := by omega
    go_enter Try.func29, Try.ntmps29
    go_wp2_with fail
    all_goals (go_ret; exact ⟨false, rfl, (fun h => by cases h), by (repeat (first | with_reducible exact Below.refl _ _ | with_reducible assumption | with_reducible refine below_drewN ?_ _ | with_reducible refine Below.drew ?_ | with_reducible refine below_row ?_ (by first | omega | (simp; done) | (simp; omega)) _ | with_reducible refine Below.alloc ?_ (by first | omega | (simp; done) | (simp; omega)) _ | with_reducible refine Below.setCell ?_ (by first | omega | (simp; done) | (simp; omega)) _))⟩)
  obtain rfl : n = 0 := by omega
  by_cases h2 : num = 0
  · subst h2
    by_cases h3 : ext < -128
    · go_enter Try.func29, Try.ntmps29
      go_wp2_with fail
      all_goals (go_ret; exact ⟨false, rfl, (fun h => by cases h), by (repeat (first | with_reducible exact Below.refl _ _ | with_reducible assumption | with_reducible refine below_drewN ?_ _ | with_reducible refine Below.drew ?_ | with_reducible refine below_row ?_ (by first | omega | (simp; done) | (simp; omega)) _ | with_reducible refine Below.alloc ?_ (by first | omega | (simp; done) | (simp; omega)) _ | with_reducible refine Below.setCell ?_ (by first | omega | (simp; done) | (simp; omega)) _))⟩)
    by_cases h4 : 127 < ext
    · go_enter Try.func29, Try.ntmps29
      go_wp2_with fail
      all_goals (go_ret; exact ⟨false, rfl, (fun h => by cases h), by (repeat (first | with_reducible exact Below.refl _ _ | with_reducible assumption | with_reducible refine below_drewN ?_ _ | with_reducible refine Below.drew ?_ | with_reducible refine below_row ?_ (by first | omega | (simp; done) | (simp; omega)) _ | with_reducible refine Below.alloc ?_ (by first | omega | (simp; done) | (simp; omega)) _ | with_reducible refine Below.setCell ?_ (by first | omega | (simp; done) | (simp; omega)) _))⟩)
    by_cases h5 : 131072 < t.size
    · have h5' : (131072 : Int) < t.size := by omega
      go_enter Try.func29, Try.ntmps29
      go_wp2_with fail
      all_goals (go_ret; exact ⟨false, rfl, (fun h => by cases h), by (repeat (first | with_reducible exact Below.refl _ _ | with_reducible assumption | with_reducible refine below_drewN ?_ _ | with_reducible refine Below.drew ?_ | with_reducible refine below_row ?_ (by first | omega | (simp; done) | (simp; omega)) _ | with_reducible refine Below.alloc ?_ (by first | omega | (simp; done) | (simp; omega)) _ | with_reducible refine Below.setCell ?_ (by first | omega | (simp; done) | (simp; omega)) _))⟩)
    have h5' : ¬ (131072 : Int) < t.size := by omega
    go_enter Try.func29, Try.ntmps29
    go_wp2_with fail
    refine wp_loop_once ?_
    go_wp2_with fail
    go_ret
    exact ⟨true, rfl, fun _ => (by simp; omega), by (repeat (first | with_reducible exact Below.refl _ _ | with_reducible assumption | with_reducible refine below_drewN ?_ _ | with_reducible refine Below.drew ?_ | with_reducible refine below_row ?_ (by first | omega | (simp; done) | (simp; omega)) _ | with_reducible refine Below.alloc ?_ (by first | omega | (simp; done) | (simp; omega)) _ | with_reducible refine Below.setCell ?_ (by first | omega | (simp; done) | (simp; omega)) _))⟩
  · have h2' : (num == 0) = false := by simpa using h2
    have h2'' : (num != 0) = true := by simpa using h2
    go_enter Try.func29, Try.ntmps29
    go_wp2_with fail
    all_goals (go_ret; exact ⟨false, rfl, (fun h => by cases h), by (repeat (first | with_reducible exact Below.refl _ _ | with_reducible assumption | with_reducible refine below_drewN ?_ _ | with_reducible refine Below.drew ?_ | with_reducible refine below_row ?_ (by first | omega | (simp; done) | (simp; omega)) _ | with_reducible refine Below.alloc ?_ (by first | omega | (simp; done) | (simp; omega)) _ | with_reducible refine Below.setCell ?_ (by first | omega | (simp; done) | (simp; omega)) _))⟩)

set_option maxRecDepth 100000 in
set_option maxHeartbeats 4000000 in
theorem packFitE_any {w0 : World} {t : Pk} {num ext : Int} {tx : ByteArray} {a : Option Addr} {n c : Nat} (h : PkAt w0 t (pkV 10 num tx ext a n c)) (w : World) (hx : Below w0.heap.size w0 w) :
    Calls Try.prog 13 #[pkV 10 num tx ext a n c, .int .i64 1] w (TellRes (num = 0 ∧ n = 0 ∧ -128 ≤ ext ∧ ext ≤ 127) w) := by
  have HX := Lib.hid hx
  have hxs := hx.size
  have HW := Lib.hid h
  have HE := fun w1 => Lib.hid (fitE_any num ext tx a n c w1)
  clear h hx
  unfold pkV at *
  go_enter Try.func13, Try.ntmps13
  go_wp2_with fail
  refine (few_any HW.out (w.heap.size + 1) 2000 _ (by omega) ((HX.out.alloc hxs _).alloc (by simp; omega) _) (by omega) (by omega) (Blk.newAt (by simp) _ _)).mono ?_
  rintro e w1 ⟨b, s', rfl, hB, hb, hk⟩
  have hb1 : Below w.heap.size w w1 := Below.trans (b := _) (by (repeat (first | with_reducible exact Below.refl _ _ | with_reducible assumption | with_reducible refine below_drewN ?_ _ | with_reducible refine Below.drew ?_ | with_reducible refine below_row ?_ (by first | omega | (simp; done) | (simp; omega)) _ | with_reducible refine Below.alloc ?_ (by first | omega | (simp; done) | (simp; omega)) _ | with_reducible refine Below.setCell ?_ (by first | omega | (simp; done) | (simp; omega)) _))) (hk.below (by (first | omega | (simp; done) | (simp; omega))) (by omega))
  have hBv := ((Blk.new w 30 #[.int .i64 10, .int .u64 num, .string tx, .int .i64 ext, .slice a n c]).alloc (.cells #[.int .i64 2000] 3)).kp hk (by simp; omega) (by omega)
  have q0 := hBv.cell (i := 0) rfl
  have q1 := hBv.cell (i := 1) rfl
  have q2 := hBv.cell (i := 2) rfl
  have q3 := hBv.cell (i := 3) rfl
  have q4 := hBv.cell (i := 4) rfl
  clear hb
  cases b with
  | false =>
    go_wp2_with fail
    go_ret
    exact ⟨false, rfl, (fun h => by cases h), hb1⟩
  | true =>
    go_wp2_with fail
    refine (HE _).out.mono ?_
    rintro e w2 ⟨b2, rfl, hc, hb3⟩
    have HC := Lib.hid hc
    clear hc
    go_wp2_with fail
    go_ret
    exact ⟨b2, rfl, HC.out, hb1.trans (hb3.mono hb1.size)⟩

section
variable {H : Type} {enc : TypeId × Value → H} {W : World} {base : Nat} {sp : Nat → Bool} {held : Bool}
theorem packs_open {fuel : Nat} {v : Value} {x : DataW H × List MemPlace} (h : DataW.trod enc Try.prog W base sp held fuel 28 [v] = some x) :
    ∃ (a : Option Addr) (c : Nat) (ps : List Px) (ts : List Pk), v = .slice a ps.length c ∧ ts.length = ps.length ∧ Rd W a (pxCells ps) ∧ (∀ i (h1 : i < ps.length) (h2 : i < ts.length), PkAt W ts[i] ps[i].val) ∧ (∀ p ∈ ps, p.text.size ≤ 9223372036854775807) ∧ ps.length ≤ c ∧ c ≤ 9223372036854775807 := by
  rcases DataW.trod_slice Try.underlying28 h with ⟨hs, _⟩ | ⟨ad, len, cap, elems, rest, m', hm', hs, _, hb, hlc, hcm, hel, hee, _, _⟩
  · injection hs with hs
    subst hs
    exact ⟨none, 0, [], [], rfl, rfl, .inl rfl, fun i h => absurd h (by simp), by simp, Nat.le_refl _, by omega⟩
  · injection hs with hs
    subst hs
    simp only [maxLen] at hcm
    rw [cellsPack] at hee
    have each : ∀ i, ∃ y : Pk × Px, i < len → PkAt W y.1 y.2.val ∧ y.2.text.size ≤ 9223372036854775807 ∧ ∀ q v, y.2.cells[q]? = some v → W.cell? ((ad.add (i * 5)).add q) = some v := by
      intro i
      by_cases hi : i < len
      · have hh := hee i hi
        rw [List.getElem?_eq_getElem (by omega), Option.bind_eq_some_iff] at hh
        obtain ⟨cs', hcs, hy⟩ := hh
        obtain ⟨p, k', num', t', ext', a', n', c', rfl, hp⟩ := pk_of_trod m' m' (Nat.le_refl _) cs' _ hy
        obtain ⟨_, _, hcc⟩ := World.cells?_some hcs
        have ht : t'.size ≤ 9223372036854775807 := by
          have hp2 := hp
          generalize hvv : pkV k' num' t' ext' a' n' c' = vv at hp2
          cases hp2 with
          | mk k num ext t kids a c vs hr hc hk => unfold pkV at hvv; injection hvv with hvv; simp at hvv; obtain ⟨_, _, rfl, _⟩ := hvv; exact hr.2.2.2.1
        refine ⟨(p, ⟨k', num', t', ext', a', n', c'⟩), fun _ => ⟨hp, ht, fun q v hv => ?_⟩⟩
        have hq : q < 5 := by
          have := (List.getElem?_eq_some_iff.1 hv).1
          simpa [Px.cells] using this
        rw [hcc q hq]
        exact hv
      · exact ⟨(.mk 0 0 ⟨#[]⟩ 0 [], ⟨0, 0, ⟨#[]⟩, 0, none, 0, 0⟩), fun h => absurd h hi⟩
    obtain ⟨f, hf'⟩ := Classical.skolem.1 each
    have hkl : ((List.range len).map fun i => (f i).2).length = len := by simp
    refine ⟨some ad, cap, (List.range len).map fun i => (f i).2, (List.range len).map fun i => (f i).1, by rw [hkl], by simp, ?_, ?_, ?_, by rw [hkl]; exact hlc, by omega⟩
    · by_cases h0 : len = 0
      · exact .inl (by rw [h0]; rfl)
      · obtain ⟨_, _, hc0⟩ := hf' 0 (by omega)
        obtain ⟨b, off, spot⟩ := ad
        have hsp : spot = none := by
          have := hc0 0 _ rfl
          have h := World.cell?_spot this
          simpa [Addr.add] using h
        subst hsp
        refine .inr ⟨b, off, rfl, fun i v hi => ?_⟩
        have hlen : i < len * 5 := by
          have := (List.getElem?_eq_some_iff.1 hi).1
          rw [pxCells_length, hkl] at this; exact this
        have hj : i / 5 < len := by omega
        have hq : i % 5 < 5 := by omega
        have hg := pxCells_get ((List.range len).map fun i => (f i).2) (i / 5) (by rw [hkl]; exact hj) (i % 5) hq
        rw [show i / 5 * 5 + i % 5 = i by omega, hi] at hg
        have hcell := (hf' (i / 5) hj).2.2 (i % 5) v (by rw [hg]; simp)
        have e : ((⟨b, off, none⟩ : Addr).add (i / 5 * 5)).add (i % 5) = ⟨b, off + i, none⟩ := by
          have h1 : ∀ j o, (⟨b, o, none⟩ : Addr).add j = ⟨b, o + j, none⟩ := fun j o => by unfold Addr.add; split <;> simp_all
          rw [h1, h1, Nat.add_assoc, show i / 5 * 5 + i % 5 = i by omega]
        rw [← e]; exact hcell
    · intro i h1 h2
      rw [List.getElem_map, List.getElem_map, List.getElem_range]
      exact (hf' i (by rw [hkl] at h1; exact h1)).1
    · intro p hp
      simp at hp
      obtain ⟨i, hi, rfl⟩ := hp
      exact (hf' i hi).2.1
end
end Go.Proofs.Ytliaiaefhbgblaa
