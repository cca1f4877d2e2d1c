/- (*msgp.Writer).Write: bytes behind what a Writer holds, through its buffer or around it. -/
import Derived.Test.YtliaiaefhbgblaaWrI
import Derived.Laws.CopyOwn
namespace Go.Proofs.Ytliaiaefhbgblaa
open Go.RowKit
set_option linter.unusedVariables false
set_option linter.unusedSimpArgs false

theorem run_from' {T E : TypeId} (hT : Try.prog.underlying T = some (.slice E)) (hE : ∀ w : World, (sizeOf E).run Try.prog w = .ok 1 w) (G sz wl : Nat) (hlt : wl ≤ sz) (hb : sz ≤ 1099511627776) :
    ∃ a', (∀ w', (Instr.slice T (.slice (some ⟨G, 0, none⟩) sz sz) (some (.int .i64 (wl : Int))) none none).run Try.prog w' = .ok (.slice a' (sz - wl) (sz - wl)) w') ∧ (wl < sz → a' = some ⟨G, wl, none⟩) := by
  by_cases h : wl < sz
  · exact ⟨_, run_from hT hE G sz wl h hb, fun _ => rfl⟩
  · obtain rfl : wl = sz := by omega
    refine ⟨some ⟨G, 0, none⟩, fun w' => ?_, fun h2 => absurd h2 h⟩
    have h0 := hE w'
    have h1 := run_sliceBound (P := Try.prog) w' .i64 (wl : Int) wl .sliceB (by omega) (by omega)
    simp [Instr.slice, Instr.sliceBounds, run_underlying hT, h1, h0, Sem.run_bind, Result.andThen]

theorem step_copyF {ops : Array Oper} {o : Oper} {a : Act} {w : World} {K : Act → World → Prop} {Q : Exit → Act → World → Prop} {E : Prop} (hgd : o.guard = none) (d s : Operand) (dT sT : TypeId)
    (ho : o.op = .call { callee := .builtin .copy, args := #[d, s], argTypes := #[dT, sT] }) (elem : TypeId) (hu : Try.prog.underlying dT = some (.slice elem)) (hsz : (Try.prog.info? elem).map (·.size) = some 1)
    (dp sp : Option Addr) (dLen dCap sLen sCap : Nat) (hd : a.eval d = .slice dp dLen dCap) (hs : a.eval s = .slice sp sLen sCap)
    (g off : Nat) (cur : List Value) (t : TypeId) (hg : Blk w g t cur.toArray) (cs : List Value) (hn : cs.length = Nat.min sLen dLen)
    (hpos : 0 < cs.length → dp = some ⟨g, off, none⟩ ∧ ∃ ad, sp = some ad ∧ ∀ j v, cs[j]? = some v → w.cell? (ad.add j) = some v)
    (hfit : off + cs.length ≤ cur.length) (h1 : ∀ v ∈ cs, v.oneCell' = true)
    (h : ∀ w', Blk w' g t (splice cur off cs).toArray → Frm w w' (fun b => b = g) → (∀ B, B ≤ g → Below B w w') → K (a.put o.dst (.int .i64 cs.length)) w') :
    if Region.wanted o (yielded ops a.tmps) = true then Oper.wp Try.prog o a w K Q else E := by
  have hw : Region.wanted o (yielded ops a.tmps) = true := by simp [Region.wanted, hgd]
  rw [if_pos hw]
  by_cases h0 : cs.length = 0
  · obtain rfl : cs = [] := List.eq_nil_of_length_eq_zero h0
    have hrun := run_copy_none (P := Try.prog) w dT sT o.type elem dp sp dLen dCap sLen sCap hu hsz (by simpa using hn.symm)
    unfold Oper.wp
    simp [execOp, ho, resolve, invoke, builtin, hd, hs, hrun, Result.andThen]
    exact h w (by simpa [splice] using hg) (Frm.refl _ _) (fun B _ => Below.refl _ _)
  · obtain ⟨rfl, ad, rfl, hsrc⟩ := hpos (by omega)
    have hrun := run_copy_row (P := Try.prog) w dT sT o.type elem g off dLen dCap ad sLen sCap cur.toArray t cs hu hsz hg hn hsrc (by simpa using hfit) h1
    unfold Oper.wp
    simp [execOp, ho, resolve, invoke, builtin, hd, hs, hrun, Result.andThen]
    exact h _ (by have := setRow_heap w g cur.toArray (splice cur off cs).toArray t _ hg; simpa [splice, Blk] using this) ⟨by simp [World.setRow], fun b hb hne => setRow_other w g b _ hne⟩ (fun B hB => below_setRow (Below.refl _ _) hB _)

theorem take_splice {α : Type} (L : List α) (off : Nat) (cs : List α) (h : off ≤ L.length) : (splice L off cs).take (off + cs.length) = L.take off ++ cs := by
  unfold splice
  rw [← List.append_assoc, List.take_append_of_le_length (by simp; omega), List.take_of_length_le (by simp; omega)]
theorem one8 : (Try.prog.info? 5).map (·.size) = some 1 := by kernel_rfl

set_option maxHeartbeats 1000000 in
theorem avail_any (B : Nat) (K : Nat → Prop) (W T G : Nat) (ta : Option Addr) (tn tc : Nat) (out : List Int) (cs : Array Value) (sz wl : Nat) (pre : List Int) (w : World) (hw : Wrs w B K W T G ta tn tc out cs sz wl pre) :
    Calls Try.prog 73 #[.pointer (some ⟨W, 0, none⟩)] w fun e w' => e = .returned (.int .i64 ((sz : Int) - (wl : Int))) ∧ Below w.heap.size w w' := by
  obtain ⟨q0, q1, q2, qf, qz⟩ := hw.cells
  have sz0 := hw.sz0
  have hwl := hw.hwl
  go_enter Try.func73, Try.ntmps73
  go_wp2_with fail
  go_quiet (fail)
  go_wp2_with fail
  go_ret
  exact ⟨rfl, by (repeat (first | with_reducible exact Below.refl _ _ | with_reducible assumption | with_reducible refine below_drewN ?_ _ | with_reducible refine Below.drew ?_ | with_reducible refine below_row ?_ (by first | omega | (simp; done) | (simp; omega)) _ | with_reducible refine Below.alloc ?_ (by first | omega | (simp; done) | (simp; omega)) _ | with_reducible refine Below.setCell ?_ (by first | omega | (simp; done) | (simp; omega)) _))⟩

def WrRes2 (B : Nat) (K : Nat → Prop) (W sz : Nat) (tot : List Int) (m : Nat) (w : World) (e : Ending) (w' : World) : Prop :=
  e = .returned (.tuple #[.int .i64 m, Value.nilIface]) ∧ (∃ wl, Wr w' B (fun b => K b ∨ w.heap.size ≤ b) W sz wl tot) ∧ Frm w w' K ∧ Below B w w'

set_option maxRecDepth 100000 in
set_option maxHeartbeats 2000000 in
theorem write_any (B : Nat) (K : Nat → Prop) (W sz wl : Nat) (tot : List Int) (pa : Option Addr) (pn pc : Nat) (pl : List Int) (w : World) (h : Wr w B K W sz wl tot) (hn : tot.length ≤ 1099511627776) (hp : Vw w pa pn pc pl) (hpn : pn ≤ 1099511627776) (hpk : ∀ x, pa = some x → ¬ K x.block) :
    Calls Try.prog 72 #[.pointer (some ⟨W, 0, none⟩), .slice pa pn pc] w (WrRes2 B K W sz (tot ++ pl) pn w) := by
  obtain ⟨G0, ta0, tn0, tc0, out0, cs0, pre0, hw, ht⟩ := h
  obtain ⟨q0, q1, q2, qf, qz⟩ := hw.cells
  have s18 := hw.s18
  have sz0 := hw.sz0
  have hwl := hw.hwl
  have hBW := hw.bW
  have hKW := hw.kW
  have hBG := hw.bG
  have hKG := hw.kG
  have hBw : B ≤ w.heap.size := by omega
  have HF := Lib.hid (flush_any B K W B G0 ta0 tn0 tc0 out0 cs0 sz wl pre0)
  rw [ht] at hn
  have HT := Lib.hid ht
  clear ht
  have HN := Lib.hid hn
  clear hn
  by_cases hfull : sz - wl < pn
  · have hd : decide ((sz : Int) - (wl : Int) < pn) = true := by simp; omega
    have hd2 : (sz : Int) - (wl : Int) < pn := by omega
    go_enter Try.func72, Try.ntmps72
    go_wp2_with fail
    refine (avail_any _ _ _ _ _ _ _ _ _ _ _ _ _ w hw).mono ?_
    rintro e w1 ⟨rfl, hb1⟩
    have hw1 := hw.below hb1
    go_wp2_with fail
    refine (HF.out _ hw1 HN.out).mono ?_
    rintro e w2 ⟨rfl, ⟨ta, tn, tc, hw2⟩, hf2, hb2⟩
    clear q0 q1 q2 qf qz
    obtain ⟨q0, q1, q2, qf, qz⟩ := hw2.cells
    by_cases hgt : sz < pn
    · have hg2 : (sz : Int) < pn := by omega
      have hg3 : decide (sz < pn) = true := by simpa using hgt
      have hp2 : Vw w2 pa pn pc pl := hf2.vw (hp.below hb1 (Nat.le_refl _)) hpk
      have hlen : tn + pn ≤ 140737488355328 := by
        have e1 := hw2.hO.vw.len
        have := HN.out
        omega
      have H := Lib.hid (textWrite_any B B ta tn tc (out0 ++ pre0) pa pn pc pl w2 hw2.hT hw2.hO hp2 hlen (Nat.le_refl _))
      have hm1 := nilW ⟨B, 0, none⟩
      have hm2 := methW ⟨B, 0, none⟩
      go_wp2_with fail
      refine H.out.mono ?_
      rintro e w3 ⟨rfl, ta', tn', tc', hT3, hO3, hw3, hf3, hb3⟩
      have hq := hw2.wrote hT3 hO3 hw3 hf3 hb3
      go_wp2_with fail
      go_ret2
      have hfr : Frm w w3 K := by
        have h12 := Frm.trans (Frm.below hb1 _) hf2
        refine ⟨Nat.le_trans h12.1 hf3.1, fun b hb hnb => ?_⟩
        rw [hf3.2 b (Nat.lt_of_lt_of_le hb h12.1) (by
          rintro (e | e)
          · subst e; exact hnb hw.kT
          · rcases hw2.kO b e with h | h
            · exact hnb h
            · have := hb1.size; omega)]
        exact h12.2 b hb hnb
      have hfin := wrRes_fin (w := w) (w' := w3) (K := K) (tot := tot ++ pl) hq (by rw [HT.out]; simp) (fun b h => by rcases h with (h | h) | h; exact .inl h; exact .inr (Nat.le_trans hb1.size h); exact .inr (Nat.le_trans (Nat.le_trans hb1.size hb2.size) h)) hfr (Below.trans (Below.trans (hb1.mono hBw) hb2) hb3) (by have := hf3.1; omega) (Below.refl _ _)
      exact ⟨rfl, hfin.2⟩
    · have hg2 : ¬ (sz : Int) < pn := by omega
      have hg3 : decide (sz < pn) = false := by simpa using hgt
      go_wp2_with fail
      have hp2 : Vw w2 pa pn pc pl := hf2.vw (hp.below hb1 (Nat.le_refl _)) hpk
      have hpl := hp2.len
      have HG : Hid (Blk w2.drew G0 5 cs0.toList.toArray) := Lib.hid (by simpa using hw2.hG.drew)
      have HSR := Lib.hid (hp2.drew.src)
      have HA : Hid (0 < pn → (some (⟨G0, 0, none⟩ : Addr)) = some ⟨G0, 0, none⟩) := Lib.hid (fun _ => rfl)
      have HPL := Lib.hid hpl
      have HS2 := Lib.hid hw2.hs
      have HW2 := Lib.hid hw2
      have HP2 := Lib.hid hp2
      have hWG := hw2.wG
      have hmin : (bytesV pl).length = Nat.min pn (sz) := by rw [show (bytesV pl).length = pn by simp [bytesV, hpl]]; exact (Nat.min_eq_left (by omega)).symm
      have HMN := Lib.hid hmin
      have hfit : 0 + (bytesV pl).length ≤ cs0.toList.length := by have := hw2.hs; simp [bytesV, hpl]; omega
      have HFT := Lib.hid hfit
      have hln : (bytesV pl).length = pn := by simp [bytesV, hpl]
      have HLN := Lib.hid hln
      have hone : ∀ v ∈ bytesV pl, v.oneCell' = true := by intro v hv; simp [bytesV] at hv; obtain ⟨q, _, rfl⟩ := hv; rfl
      have HON := Lib.hid hone
      clear hpl hw2 hp2 hmin hfit hln hone
      go_region_law (refine step_copyF (by rfl) (.tmp 46) (.tmp 47) 23 23 (by rfl) 5 Try.underlying23 one8 (some ⟨G0, 0, none⟩) pa (sz) (sz) pn pc (by simp [Act.eval, Act.put]) (by simp [Act.eval, Act.put]) G0 0 cs0.toList 5 HG.out (bytesV pl) HMN.out (fun h => ⟨HA.out (by have := HLN.out; omega), HSR.out h⟩) HFT.out HON.out ?_; intro w3 hc3 hf3 hb3; rw [HLN.out]; have hW3 := hf3.blk HW2.out.hW.drew hWG; have p2 := hW3.cell (i := 2) rfl; have pf := hW3.frozen 2; have pz := hW3.lt)
      all_goals
        have hq := (HW2.out.below (Below.refl _ _).drew).laid (w' := w3) pl (HP2.out.byt) (by have := HPL.out; omega) (by simpa using hc3) (by have h := length_splice cs0.toList 0 (bytesV pl) HFT.out; have := HS2.out; simp at h ⊢; omega) (by rw [← HW2.out.hc, ← take_splice cs0.toList _ (bytesV pl) (by have := HFT.out; omega)]; simp [bytesV]) hf3 (IntKind.i64.wrap (pn : Int)) (by have := HPL.out; rw [IntKind.wrap_i64]; omega)
        have HQ := Lib.hid hq
        clear hq hc3
        go_wp2_with fail
        go_ret2
        have hfin := wrRes_fin (tot := tot ++ pl) HQ.out (by rw [HT.out]; simp) (fun b h => by rcases h with h | h; exact .inl h; exact .inr (Nat.le_trans hb1.size h)) (Frm.set (p := K) ((Frm.trans (Frm.below hb1 _) hf2).trans (hf3.imp (by rintro x _ rfl; exact hKG))) (x := ⟨W, 2, none⟩) hKW _) (Below.setCell (Below.trans (b := w2.drew) (Below.drew (Below.trans (hb1.mono hBw) hb2)) (hb3 B hBG)) (p := ⟨W, 2, none⟩) hBW _) (by have := hf3.1; simp at *; omega) (Below.refl _ _)
        exact ⟨rfl, hfin.2⟩
  · have hd : decide ((sz : Int) - (wl : Int) < pn) = false := by simp; omega
    have hd2 : ¬ (sz : Int) - (wl : Int) < pn := by omega
    obtain ⟨ac, hsl, hac⟩ := run_from' (T := 23) (E := 5) Try.underlying23 size8 G0 sz wl (by omega) sz0
    go_enter Try.func72, Try.ntmps72
    go_wp2_with fail
    refine (avail_any _ _ _ _ _ _ _ _ _ _ _ _ _ w hw).mono ?_
    rintro e w2 ⟨rfl, hb1⟩
    have hw2 := hw.below hb1
    clear q0 q1 q2 qf qz
    obtain ⟨q0, q1, q2, qf, qz⟩ := hw2.cells
    go_wp2_with fail
    have hp2 : Vw w2 pa pn pc pl := hp.below hb1 (Nat.le_refl _)
    have hpl := hp2.len
    have HG : Hid (Blk w2.drew G0 5 cs0.toList.toArray) := Lib.hid (by simpa using hw2.hG.drew)
    have HSR := Lib.hid (hp2.drew.src)
    have HA : Hid (0 < pn → ac = some ⟨G0, wl, none⟩) := Lib.hid (fun h => hac (by omega))
    have HPL := Lib.hid hpl
    have HS2 := Lib.hid hw2.hs
    have HW2 := Lib.hid hw2
    have HP2 := Lib.hid hp2
    have hWG := hw2.wG
    have hmin : (bytesV pl).length = Nat.min pn (sz - wl) := by rw [show (bytesV pl).length = pn by simp [bytesV, hpl]]; exact (Nat.min_eq_left (by omega)).symm
    have HMN := Lib.hid hmin
    have hfit : wl + (bytesV pl).length ≤ cs0.toList.length := by have := hw2.hs; simp [bytesV, hpl]; omega
    have HFT := Lib.hid hfit
    have hln : (bytesV pl).length = pn := by simp [bytesV, hpl]
    have HLN := Lib.hid hln
    have hone : ∀ v ∈ bytesV pl, v.oneCell' = true := by intro v hv; simp [bytesV] at hv; obtain ⟨q, _, rfl⟩ := hv; rfl
    have HON := Lib.hid hone
    clear hpl hw2 hp2 hmin hfit hln hone
    go_region_law (refine step_copyF (by rfl) (.tmp 46) (.tmp 47) 23 23 (by rfl) 5 Try.underlying23 one8 ac pa (sz - wl) (sz - wl) pn pc (by simp [Act.eval, Act.put]) (by simp [Act.eval, Act.put]) G0 wl cs0.toList 5 HG.out (bytesV pl) HMN.out (fun h => ⟨HA.out (by have := HLN.out; omega), HSR.out h⟩) HFT.out HON.out ?_; intro w3 hc3 hf3 hb3; rw [HLN.out]; have hW3 := hf3.blk HW2.out.hW.drew hWG; have p2 := hW3.cell (i := 2) rfl; have pf := hW3.frozen 2; have pz := hW3.lt)
    all_goals
      have hq := (HW2.out.below (Below.refl _ _).drew).laid (w' := w3) pl (HP2.out.byt) (by have := HPL.out; omega) (by simpa using hc3) (by have h := length_splice cs0.toList wl (bytesV pl) HFT.out; have := HS2.out; simp at h ⊢; omega) (by rw [← HW2.out.hc, ← take_splice cs0.toList _ (bytesV pl) (by have := HFT.out; omega)]; simp [bytesV]) hf3 (IntKind.i64.wrap ((wl : Int) + (pn : Int))) (by have := HPL.out; rw [IntKind.wrap_i64]; omega)
      have HQ := Lib.hid hq
      clear hq hc3
      go_wp2_with fail
      go_ret2
      have hfin := wrRes_fin (tot := tot ++ pl) HQ.out (by rw [HT.out]; simp) (fun _ h => .inl h) (Frm.set (p := K) ((Frm.below hb1 _).trans (hf3.imp (by rintro x _ rfl; exact hKG))) (x := ⟨W, 2, none⟩) hKW _) (Below.setCell (Below.trans (b := w2.drew) (Below.drew (hb1.mono hBw)) (hb3 B hBG)) (p := ⟨W, 2, none⟩) hBW _) (by have := hf3.1; simp at *; omega) (Below.refl _ _)
      exact ⟨rfl, hfin.2⟩
#print axioms write_any
end Go.Proofs.Ytliaiaefhbgblaa
