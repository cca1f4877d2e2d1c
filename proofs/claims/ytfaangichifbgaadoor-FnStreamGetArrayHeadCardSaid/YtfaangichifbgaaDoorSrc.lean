/- A Reader's source over bytes in memory that are given a few at a time: impl.drops.Read; the source's state. -/
import Derived.Test.YtfaangichifbgaaDoorFrm
namespace Go.Proofs.YtfaangichifbgaaDoor
open Go.RowKit
set_option linter.unusedVariables false
set_option linter.unusedSimpArgs false

/-- s[k:], with the block it lies in. -/
theorem Vw.fromB {w : World} {a : Option Addr} {n c : Nat} {l : List Int} (h : Vw w a n c l) (k : Nat) (hk : k ≤ n) :
    ∃ a', (∀ w', (Instr.slice 26 (.slice a n c) (some (.int .i64 (k : Int))) none none).run Tryd.prog w' = .ok (.slice a' (n - k) (c - k)) w') ∧ Vw w a' (n - k) (c - k) (l.drop k) ∧ ∀ x, a' = some x → ∃ y, a = some y ∧ y.block = x.block := by
  have hcn := h.cap
  have e : ∃ a', a' = (if c = k then a else a.map (·.add k)) := ⟨_, rfl⟩
  obtain ⟨a', ha'⟩ := e
  refine ⟨a', fun w' => ?_, ⟨by rw [List.length_drop, h.len], by omega, by have := h.big; omega, fun x hx => h.byt x (List.mem_of_mem_drop hx), fun e => ?_, ?_⟩, fun x hx => ?_⟩
  · have h0 := size8 w'
    have h1 := run_sliceBound (P := Tryd.prog) w' .i64 (k : Int) n .sliceB (by omega) (by omega)
    rw [ha']
    simp [Instr.slice, Instr.sliceBounds, run_underlying Tryd.underlying26, h1, h0, Sem.run_bind, Result.andThen]
  · have hn : a = none := by
      rw [ha'] at e
      by_cases hck : c = k
      · rwa [if_pos hck] at e
      · rw [if_neg hck] at e; simpa using e
    have := h.nul hn
    omega
  · rcases h.cells with h0 | ⟨b, off, ha, hx⟩
    · exact .inl (by omega)
    · by_cases hkc : c = k
      · exact .inl (by omega)
      · refine .inr ⟨b, off + k, ?_, fun j hj => ?_⟩
        · rw [ha', if_neg hkc, ha]; simp [Addr.add]
        · have := hx (k + j) (by omega)
          rw [show off + k + j = off + (k + j) by omega, this]
          simp [List.getD]
  · rw [ha'] at hx
    by_cases hck : c = k
    · rw [if_pos hck] at hx; exact ⟨x, hx, rfl⟩
    · rw [if_neg hck] at hx
      cases a with
      | none => cases hx
      | some y => simp at hx; subst hx; exact ⟨y, rfl, by simp [Addr.add]; split <;> rfl⟩

/-- What a reading gives: some bytes, at least one, at a place in a block; they are taken away. -/
def ReadRes (D : Nat) (da : Option Addr) (dn dc : Nat) (rest : List Int) (ch Q k sz : Nat) (cs : Array Value) (w : World) (e : Ending) (w' : World) : Prop :=
  ∃ (m : Nat) (da' : Option Addr), 1 ≤ m ∧ m ≤ sz ∧ m ≤ dn ∧ e = .returned (.tuple #[.int .i64 m, Value.nilIface]) ∧ Blk w' D 127 #[.slice da' (dn - m) (dc - m), .int .i64 ch] ∧ Vw w' da' (dn - m) (dc - m) (rest.drop m) ∧ (∀ x, da' = some x → ∃ y, da = some y ∧ y.block = x.block) ∧
    (∃ cs', Blk w' Q 5 cs' ∧ cs'.size = cs.size ∧ cs'.toList.take (k + m) = cs.toList.take k ++ bytesV (rest.take m)) ∧ Frm w w' (fun b => b = D ∨ b = Q) ∧ ∀ B, B ≤ D → B ≤ Q → Below B w w'

set_option maxRecDepth 100000 in
set_option maxHeartbeats 4000000 in
theorem read_any (D : Nat) (da : Option Addr) (dn dc : Nat) (rest : List Int) (ch Q k sz pc : Nat) (cs : Array Value) (w : World) (hD : Blk w D 127 #[.slice da dn dc, .int .i64 ch]) (hv : Vw w da dn dc rest) (hQ : Blk w Q 5 cs)
    (hdn : 1 ≤ dn) (hch : 1 ≤ ch) (hsz : 1 ≤ sz) (hfit : k + sz ≤ cs.size) (hne : ∀ x, da = some x → x.block ≠ D ∧ x.block ≠ Q) :
    Calls Tryd.prog 110 #[.pointer (some ⟨D, 0, none⟩), .slice (some ⟨Q, k, none⟩) sz pc] w (ReadRes D da dn dc rest ch Q k sz cs w) := by
  have c0 := hD.cell (i := 0) rfl
  have c1 := hD.cell (i := 1) rfl
  have hDl := hD.lt
  have hDQ := hD.ne hQ (by decide)
  have hcap := hv.cap
  have hbig := hv.big
  obtain ⟨m0, hm01, hm02, hm03⟩ : ∃ m0, 1 ≤ m0 ∧ m0 ≤ dn ∧ m0 = min dn ch := ⟨min dn ch, by omega, by omega, rfl⟩
  obtain ⟨m, hm⟩ : ∃ m, m = min m0 sz := ⟨_, rfl⟩
  obtain ⟨da', hsl, hv', hbk⟩ := hv.fromB m (by omega)
  have hn0 : ((dn : Int) == 0) = false := by simp; omega
  have x1 : ¬ ((ch : Int) < 1) := by omega
  have x2 : decide ((ch : Int) < 1) = false := by simpa using x1
  have hlt := hv.take hm02
  have hsrc : ∀ W, Below w.heap.size w W → 0 < (bytesV ((rest.take m0).take m)).length → ∃ ad, da = some ad ∧ ∀ j v, (bytesV ((rest.take m0).take m))[j]? = some v → W.cell? (ad.add j) = some v := fun W hW h0 =>
    ((hlt.take (k := m) (by omega)).below hW (Nat.le_refl _)).src h0
  have HD := Lib.hid hD
  have HQ := Lib.hid hQ
  have HV := Lib.hid hv
  have HM := Lib.hid hm
  have HS := Lib.hid hsrc
  have hmle : m ≤ m0 ∧ m ≤ sz ∧ 1 ≤ m := by omega
  have HML := Lib.hid hmle
  clear hm hsrc hmle hD hv hQ hlt
  have hif1 : (if (ch : Int) < 1 then (1 : Int) else (ch : Int)) = ch := by rw [if_neg x1]
  have hif2 : (if ch < dn then (ch : Int) else (dn : Int)) = m0 := by split <;> omega
  have hmc : (m0 : Int) ≤ dc := by omega
  have hmc2 : m0 ≤ dc := by omega
  have HX := Lib.hid (And.intro hm02 (And.intro hfit (And.intro hsz hDQ)))
  clear hm03 hm02 hcap hbig hdn hch hsz hfit hDQ hm01
  go_enter Tryd.func110, Tryd.ntmps110
  go_wp2_with fail
  have hQ2 : Blk w.drew Q 5 cs.toList.toArray := by simpa using HQ.out.drew
  have HQ2 := Lib.hid hQ2
  have hlen : (bytesV ((rest.take m0).take m)).length = m := by have := HX.out.1; have := HML.out.1; have := HV.out.len; simp [bytesV]; omega
  have HLN := Lib.hid hlen
  have hone : ∀ v ∈ bytesV ((rest.take m0).take m), v.oneCell' = true := by unfold bytesV; intro v hv; obtain ⟨q, _, rfl⟩ := List.mem_map.1 hv; rfl
  have HON := Lib.hid hone
  clear hQ2 hlen hone
  go_region_law (first | (with_reducible refine step_copyF (o := ⟨some 31, _, _, _, _, _⟩) (by rfl) (.tmp 14) (.tmp 30) 26 26 (by rfl) 5 Tryd.underlying26 one8 (some ⟨Q, k, none⟩) da sz pc m0 dc (by simp [Act.eval, Act.put]) (by simp [Act.eval, Act.put]) Q k cs.toList 5 HQ2.out (bytesV ((rest.take m0).take m)) (by rw [HLN.out]; exact HM.out) (fun h => ⟨rfl, HS.out _ ((Below.refl _ _).drew) h⟩) (by rw [HLN.out]; have := HX.out.2.1; have := HML.out; simp; omega) HON.out ?_; intro w1 hc1 hf1 hb1; rw [HLN.out]))
  all_goals
    have hD1 := hf1.blk HD.out.drew HX.out.2.2.2
    have p0 := hD1.cell (i := 0) rfl
    have pf := fun i => hD1.frozen i
    have hDl1 := hD1.lt
    have HD1 := Lib.hid hD1
    clear hD1 c0 c1
    go_wp2_with fail
    go_ret2
    have hml := HML.out
    have hx := HX.out
    have hD1 := HD1.out.set 0 (.slice da' (dn - m) (dc - m))
    have hv1 : Vw (w1.setCell ⟨D, 0, none⟩ (.slice da' (dn - m) (dc - m))) da' (dn - m) (dc - m) (rest.drop m) := by
      refine vw_live (w := w) hv' (fun x hx2 h0 => ?_)
      obtain ⟨y, hy, hyb⟩ := hbk x hx2
      obtain ⟨n1, n2⟩ := hne y hy
      rw [← hyb]
      rw [Below.heap_setCell _ _ _ _ (by simpa using n1)]
      exact hf1.2 _ (by have := HV.out.lt_of y hy (by omega); simpa using this) n2
    refine ⟨m, da', hml.2.2, hml.2.1, by omega, rfl, by simpa using hD1, hv1, hbk, ⟨_, hc1.other (p := ⟨D, 0, none⟩) (by simpa using Ne.symm hx.2.2.2) _, ?_, ?_⟩, ?_, fun B hB1 hB2 => ?_⟩
    · have := length_splice cs.toList k (bytesV ((rest.take m0).take m)) (by rw [HLN.out]; simp; omega)
      simpa using this
    · have := take_splice cs.toList k (bytesV ((rest.take m0).take m)) (by simp; omega)
      rw [HLN.out] at this
      rw [List.take_take, Nat.min_eq_left hml.1] at this
      simpa [List.take_take, Nat.min_eq_left hml.1] using this
    · exact Frm.set (p := fun b => b = D ∨ b = Q) ((Frm.trans (b := w.drew) (Frm.refl w _) (hf1.imp (fun x _ e => .inr e)))) (x := ⟨D, 0, none⟩) (.inl rfl) _
    · exact (Below.trans (b := w.drew) (Below.refl _ _).drew (hb1 B hB2)).setCell (p := ⟨D, 0, none⟩) hB1 _
end Go.Proofs.YtfaangichifbgaaDoor
