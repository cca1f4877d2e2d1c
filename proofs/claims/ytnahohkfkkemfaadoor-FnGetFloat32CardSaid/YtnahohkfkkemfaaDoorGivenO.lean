/- An argument of the type Given, opened. -/
import Derived.Test.YtnahohkfkkemfaaDoorOpen
import Derived.Test.YtnahohkfkkemfaaDoorGiven
namespace Go.Proofs.YtnahohkfkkemfaaDoor
open Go.ChangeShapes Go.WideShapes Go.RowKit
set_option linter.unusedVariables false
set_option linter.unusedSimpArgs false

theorem cellsGiven : Tryd.prog.cellsOf 28 = 9 := by kernel_rfl
theorem cellsBool : Tryd.prog.cellsOf 4 = 1 := by kernel_rfl
theorem cellsBytes : Tryd.prog.cellsOf 26 = 1 := by kernel_rfl
theorem arr9 {α : Type} {cs : Array α} (h : cs.size = 9) : ∃ a b c d e f g i j, cs = #[a, b, c, d, e, f, g, i, j] := by
  rcases cs with ⟨l⟩
  rcases l with _ | ⟨a, _ | ⟨b, _ | ⟨c, _ | ⟨d, _ | ⟨e, _ | ⟨f, _ | ⟨g, _ | ⟨i, _ | ⟨j, _ | ⟨k, l⟩⟩⟩⟩⟩⟩⟩⟩⟩⟩ <;> simp at h
  exact ⟨a, b, c, d, e, f, g, i, j, rfl⟩
section
variable {H : Type} {enc : TypeId × Value → H} {W : World} {base : Nat} {held : Bool}
theorem vw_of_trod {fuel : Nat} {v : Value} {x : DataW H × List MemPlace} (h : DataW.trod enc Tryd.prog W base (fun _ => true) held fuel 26 [v] = some x) : ∃ a n c l, v = .slice a n c ∧ Vw W a n c l := by
  rcases open_ints Tryd.underlying26 Tryd.underlying5 (by kernel_rfl) h with ⟨hcs, _⟩ | ⟨x, l, c, zs, hcs, _, hl, hm, hz, _, hcell, hwz⟩
  · injection hcs with hcs
    exact ⟨none, 0, 0, [], hcs, Vw.nil W⟩
  · injection hcs with hcs
    exact ⟨some x, l, c, _, hcs, vw_of_row (.inr ⟨_, rfl, hl, hm, by simpa using hz, hcell, hwz⟩)⟩
set_option maxRecDepth 100000 in
theorem given_open {r : Reach} {b0 : Nat} {v : Value} {d : DataW H} {ps : List MemPlace} (hval : Value.okWide Tryd.prog W r b0 28 v) (h : DataW.Trod enc Tryd.prog W base (fun _ => true) held 28 v d ps) :
    ∃ p k num t ext a n c s sh a0 m0 c0 l cut, v = gvV k num t ext a n c s sh a0 m0 c0 cut ∧ PkAt W p (pkV k num t ext a n c) ∧ (0 ≤ s ∧ s < 18446744073709551616) ∧ Vw W a0 m0 c0 l ∧ -9223372036854775808 ≤ cut ∧ cut < 9223372036854775808 := by
  obtain ⟨cs, rfl, hsz⟩ := okWide_struct Tryd.underlying28 hval
  rw [cellsGiven] at hsz
  obtain ⟨v0, v1, v2, v3, v4, v5, v6, v7, v8, rfl⟩ := arr9 hsz
  obtain ⟨fuel, hh⟩ := h
  obtain ⟨xs, m, hfu, _, hl, hlen, hf⟩ := DataW.trod_struct Tryd.underlying28 hh
  have get : ∀ i, i < 5 → ∃ y, xs[i]? = some y := fun i hi => by
    have : i < xs.length := by rw [hlen]; exact hi
    exact ⟨xs[i], List.getElem?_eq_getElem this⟩
  obtain ⟨y0, e0⟩ := get 0 (by omega)
  have h0 : DataW.trod enc Tryd.prog W base (fun _ => true) held m 25 (([v0, v1, v2, v3, v4, v5, v6, v7, v8].drop 0).take (Tryd.prog.cellsOf 25)) = xs[0]? := hf 0 _ rfl
  rw [cellsPack, e0] at h0
  have h0 : DataW.trod enc Tryd.prog W base (fun _ => true) held m 25 [v0, v1, v2, v3, v4] = some y0 := h0
  obtain ⟨y1, e1⟩ := get 1 (by omega)
  have h1 : DataW.trod enc Tryd.prog W base (fun _ => true) held m 22 (([v0, v1, v2, v3, v4, v5, v6, v7, v8].drop 5).take (Tryd.prog.cellsOf 22)) = xs[1]? := hf 1 _ rfl
  rw [cellsU64, e1] at h1
  have h1 : DataW.trod enc Tryd.prog W base (fun _ => true) held m 22 [v5] = some y1 := h1
  obtain ⟨y2, e2⟩ := get 2 (by omega)
  have h2 : DataW.trod enc Tryd.prog W base (fun _ => true) held m 4 (([v0, v1, v2, v3, v4, v5, v6, v7, v8].drop 6).take (Tryd.prog.cellsOf 4)) = xs[2]? := hf 2 _ rfl
  rw [cellsBool, e2] at h2
  have h2 : DataW.trod enc Tryd.prog W base (fun _ => true) held m 4 [v6] = some y2 := h2
  obtain ⟨y3, e3⟩ := get 3 (by omega)
  have h3 : DataW.trod enc Tryd.prog W base (fun _ => true) held m 26 (([v0, v1, v2, v3, v4, v5, v6, v7, v8].drop 7).take (Tryd.prog.cellsOf 26)) = xs[3]? := hf 3 _ rfl
  rw [cellsBytes, e3] at h3
  have h3 : DataW.trod enc Tryd.prog W base (fun _ => true) held m 26 [v7] = some y3 := h3
  obtain ⟨y4, e4⟩ := get 4 (by omega)
  have h4 : DataW.trod enc Tryd.prog W base (fun _ => true) held m 3 (([v0, v1, v2, v3, v4, v5, v6, v7, v8].drop 8).take (Tryd.prog.cellsOf 3)) = xs[4]? := hf 4 _ rfl
  rw [cellsInt, e4] at h4
  have h4 : DataW.trod enc Tryd.prog W base (fun _ => true) held m 3 [v8] = some y4 := h4
  obtain ⟨p, k, num, t, ext, a, n, c, hc, hp⟩ := pk_of_trod m m (Nat.le_refl _) _ _ h0
  obtain ⟨s, hs, _, hs2⟩ := DataW.trod_int Tryd.underlying22 h1
  obtain ⟨sh, hsh, _⟩ := DataW.trod_bool Tryd.underlying4 h2
  obtain ⟨a0, m0, c0, l, hb, hv⟩ := vw_of_trod h3
  obtain ⟨cut, hcut, _, hcut2⟩ := DataW.trod_int Tryd.underlying3 h4
  injection hs with hs
  injection hsh with hsh
  injection hcut with hcut
  obtain ⟨rfl, rfl, rfl, rfl, rfl⟩ : v0 = _ ∧ v1 = _ ∧ v2 = _ ∧ v3 = _ ∧ v4 = _ := by
    injection hc with c0 hc; injection hc with c1 hc; injection hc with c2 hc; injection hc with c3 hc; injection hc with c4 hc
    exact ⟨c0, c1, c2, c3, c4⟩
  subst hs; subst hsh; subst hb; subst hcut
  exact ⟨p, k, num, t, ext, a, n, c, s, sh, a0, m0, c0, l, cut, rfl, hp, wf_u64b s hs2, hv, wf_i64b cut hcut2⟩
end
end Go.Proofs.YtnahohkfkkemfaaDoor
