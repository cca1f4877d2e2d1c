/- An argument that reads as data: a Pack is a tree of packs, a Given its parts. -/
import Derived.Test.YtliaiaefhbgblaaPack
import Derived.RowKit
import Derived.WideShapes
import Derived.ChangeSlices
import Derived.ChangeOld
namespace Go.Proofs.Ytliaiaefhbgblaa
open Go.ChangeShapes Go.WideShapes Go.RowKit
set_option linter.unusedVariables false
set_option linter.unusedSimpArgs false

theorem wf_i64b (n : Int) (h : (Lit.int .i64 n).wf = true) : -9223372036854775808 ≤ n ∧ n < 9223372036854775808 := by
  have h2 : IntKind.i64.min ≤ n ∧ n ≤ IntKind.i64.max := by simpa [Lit.wf] using h
  have h3 : -9223372036854775808 ≤ n ∧ n ≤ 9223372036854775807 := h2
  omega
theorem wf_u64b (n : Int) (h : (Lit.int .u64 n).wf = true) : 0 ≤ n ∧ n < 18446744073709551616 := by
  have h2 : IntKind.u64.min ≤ n ∧ n ≤ IntKind.u64.max := by simpa [Lit.wf] using h
  have h3 : 0 ≤ n ∧ n ≤ 18446744073709551615 := h2
  omega
theorem cellsPack : Try.prog.cellsOf 30 = 5 := by kernel_rfl
theorem cellsInt : Try.prog.cellsOf 3 = 1 := by kernel_rfl
theorem cellsU64 : Try.prog.cellsOf 26 = 1 := by kernel_rfl
theorem cellsStr : Try.prog.cellsOf 9 = 1 := by kernel_rfl
theorem cellsPacks : Try.prog.cellsOf 28 = 1 := by kernel_rfl
theorem list5 {α : Type} {cs : List α} (h : cs.length = 5) : ∃ a b c d e, cs = [a, b, c, d, e] := by
  rcases cs with _ | ⟨a, _ | ⟨b, _ | ⟨c, _ | ⟨d, _ | ⟨e, _ | ⟨f, l⟩⟩⟩⟩⟩⟩ <;> simp at h
  exact ⟨a, b, c, d, e, rfl⟩

section
variable {H : Type} {enc : TypeId × Value → H} {W : World} {base : Nat} {sp : Nat → Bool} {held : Bool}

theorem pk_of_trod : ∀ (N fuel : Nat), fuel ≤ N → ∀ (cs : List Value) (x : DataW H × List MemPlace), DataW.trod enc Try.prog W base sp held fuel 30 cs = some x →
    ∃ p k num t ext a n c, cs = [.int .i64 k, .int .u64 num, .string t, .int .i64 ext, .slice a n c] ∧ PkAt W p (pkV k num t ext a n c) := by
  intro N
  induction N with
  | zero =>
    intro fuel hN cs x h
    obtain rfl : fuel = 0 := by omega
    simp [DataW.trod] at h
  | succ N ih =>
    intro fuel hN cs x h
    obtain ⟨xs, m, hfu, rfl, hl, hlen, hf⟩ := DataW.trod_struct Try.underlying30 h
    rw [cellsPack] at hl
    obtain ⟨v0, v1, v2, v3, v4, rfl⟩ := list5 hl
    have get : ∀ i, i < 5 → ∃ y, xs[i]? = some y := fun i hi => by
      have : i < xs.length := by rw [hlen]; exact hi
      exact ⟨xs[i], List.getElem?_eq_getElem this⟩
    obtain ⟨y0, e0⟩ := get 0 (by omega)
    obtain ⟨y1, e1⟩ := get 1 (by omega)
    obtain ⟨y2, e2⟩ := get 2 (by omega)
    obtain ⟨y3, e3⟩ := get 3 (by omega)
    obtain ⟨y4, e4⟩ := get 4 (by omega)
    have h0 : DataW.trod enc Try.prog W base sp held m 3 (([v0, v1, v2, v3, v4].drop 0).take (Try.prog.cellsOf 3)) = xs[0]? := hf 0 _ rfl
    rw [cellsInt, e0] at h0
    have h0 : DataW.trod enc Try.prog W base sp held m 3 [v0] = some y0 := h0
    have h1 : DataW.trod enc Try.prog W base sp held m 26 (([v0, v1, v2, v3, v4].drop 1).take (Try.prog.cellsOf 26)) = xs[1]? := hf 1 _ rfl
    rw [cellsU64, e1] at h1
    have h1 : DataW.trod enc Try.prog W base sp held m 26 [v1] = some y1 := h1
    have h2 : DataW.trod enc Try.prog W base sp held m 9 (([v0, v1, v2, v3, v4].drop 2).take (Try.prog.cellsOf 9)) = xs[2]? := hf 2 _ rfl
    rw [cellsStr, e2] at h2
    have h2 : DataW.trod enc Try.prog W base sp held m 9 [v2] = some y2 := h2
    have h3 : DataW.trod enc Try.prog W base sp held m 3 (([v0, v1, v2, v3, v4].drop 3).take (Try.prog.cellsOf 3)) = xs[3]? := hf 3 _ rfl
    rw [cellsInt, e3] at h3
    have h3 : DataW.trod enc Try.prog W base sp held m 3 [v3] = some y3 := h3
    have h4 : DataW.trod enc Try.prog W base sp held m 28 (([v0, v1, v2, v3, v4].drop 4).take (Try.prog.cellsOf 28)) = xs[4]? := hf 4 _ rfl
    rw [cellsPacks, e4] at h4
    have h4 : DataW.trod enc Try.prog W base sp held m 28 [v4] = some y4 := h4
    obtain ⟨k, hk, _, hk2⟩ := DataW.trod_int Try.underlying3 h0
    obtain ⟨num, hn, _, hn2⟩ := DataW.trod_int Try.underlying26 h1
    obtain ⟨t, ht, _, ht2⟩ := DataW.trod_string Try.underlying9 h2
    obtain ⟨ext, hx, _, hx2⟩ := DataW.trod_int Try.underlying3 h3
    injection hk with hk
    injection hn with hn
    injection ht with ht
    injection hx with hx
    subst hk; subst hn; subst ht; subst hx
    have bk := wf_i64b k hk2
    have bn := wf_u64b num hn2
    have bx := wf_i64b ext hx2
    simp only [maxLen] at ht2
    rcases DataW.trod_slice Try.underlying28 h4 with ⟨hs, _⟩ | ⟨ad, len, cap, elems, rest, m', hm', hs, _, hb, hlc, hcm, hel, hee, _, _⟩
    · injection hs with hs
      subst hs
      exact ⟨.mk k num t ext [], k, num, t, ext, none, 0, 0, rfl, PkAt.mk k num ext t [] none 0 (fun _ => undef) ⟨bk, bn, bx, by omega, Nat.le_refl _, by omega⟩ (.inl rfl) (fun i h => absurd h (by simp))⟩
    · injection hs with hs
      subst hs
      simp only [maxLen] at hcm
      rw [cellsPack] at hee
      have each : ∀ i, ∃ y : Pk × Value, i < len → PkAt W y.1 y.2 ∧ ∀ q v, y.2.cells[q]? = some v → W.cell? ((ad.add (i * 5)).add q) = some v := by
        intro i
        by_cases hi : i < len
        · have hh := hee i hi
          rw [List.getElem?_eq_getElem (by omega), Option.bind_eq_some_iff] at hh
          obtain ⟨cs', hcs, hy⟩ := hh
          obtain ⟨p, k', num', t', ext', a', n', c', rfl, hp⟩ := ih m' (by omega) cs' _ hy
          obtain ⟨_, _, hcc⟩ := World.cells?_some hcs
          refine ⟨(p, pkV k' num' t' ext' a' n' c'), fun _ => ⟨hp, fun q v hv => ?_⟩⟩
          have hq : q < 5 := by
            have hv' : [Value.int .i64 k', Value.int .u64 num', Value.string t', Value.int .i64 ext', Value.slice a' n' c'][q]? = some v := by simpa [Value.cells] using hv
            have := (List.getElem?_eq_some_iff.1 hv').1
            simpa using this
          rw [hcc q hq]
          simpa [Value.cells] using hv
        · exact ⟨(.mk 0 0 ⟨#[]⟩ 0 [], undef), fun h => absurd h hi⟩
      obtain ⟨f, hf'⟩ := Classical.skolem.1 each
      refine ⟨.mk k num t ext ((List.range len).map fun i => (f i).1), k, num, t, ext, some ad, len, cap, rfl, ?_⟩
      have hkl : ((List.range len).map fun i => (f i).1).length = len := by simp
      have hmk := PkAt.mk (w := W) k num ext t ((List.range len).map fun i => (f i).1) (some ad) cap (fun i => (f i).2) ⟨bk, bn, bx, by omega, by rw [hkl]; exact hlc, by omega⟩ ?_ ?_
      · rw [hkl] at hmk; exact hmk
      · by_cases h0 : len = 0
        · exact .inl (by rw [hkl, h0])
        · obtain ⟨hp0, hc0⟩ := hf' 0 (by omega)
          obtain ⟨b, off, spot⟩ := ad
          have hsp : spot = none := by
            generalize (f 0).2 = v0 at hp0 hc0
            generalize (f 0).1 = p0 at hp0
            cases hp0 with
            | mk k num ext t kids a c vs hr hc hk =>
              have := hc0 0 _ rfl
              have h := World.cell?_spot this
              simpa [Addr.add] using h
          subst hsp
          refine .inr ⟨b, off, rfl, fun i hi q v hv => ?_⟩
          have := (hf' i (by rw [hkl] at hi; exact hi)).2 q v hv
          have e : ((⟨b, off, none⟩ : Addr).add (i * 5)).add q = ⟨b, off + i * 5 + q, none⟩ := by
            have h1 : ∀ j o, (⟨b, o, none⟩ : Addr).add j = ⟨b, o + j, none⟩ := fun j o => by unfold Addr.add; split <;> simp_all
            rw [h1, h1]
          rw [← e]; exact this
      · intro i hi
        rw [List.getElem_map, List.getElem_range]
        exact (hf' i (by rw [hkl] at hi; exact hi)).1
end
end Go.Proofs.Ytliaiaefhbgblaa
