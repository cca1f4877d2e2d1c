/- (*msgp.source).more: bytes looked at ahead. -/
import Derived.Test.YtfaangichifbgaaDoorSrc
import Derived.Deep.DeepCutAuto
import Derived.Deep.RegionHeld3
namespace Go.Proofs.YtfaangichifbgaaDoor
open Go.RowKit
set_option linter.unusedVariables false
set_option linter.unusedSimpArgs false

/-- A source at block S, its giver at block D, the room of what is looked at ahead. -/
structure SrcS (w : World) (B : Nat) (K : Nat → Prop) (S D : Nat) (ra : Option Addr) (rn rc p sz : Nat) (room : List Int) (da : Option Addr) (dn dc : Nat) (rest : List Int) (ch : Nat) : Prop where
  hS : Blk w S 134 #[.iface 124 (.pointer (some ⟨D, 0, none⟩)), .slice ra rn rc, .int .i64 p, .int .i64 sz, Value.nilIface]
  hD : Blk w D 127 #[.slice da dn dc, .int .i64 ch]
  hv : Vw w da dn dc rest
  hO : O8 w B ra rn rc room
  hp : p ≤ rn
  s16 : 16 ≤ sz
  szm : sz ≤ 65536
  rcm : rc ≤ 262144
  dnm : dn ≤ 1099511627776
  ch1 : 1 ≤ ch
  dne : ∀ x, da = some x → x.block ≠ S ∧ x.block ≠ D ∧ blkOf ra ≠ some x.block ∧ x.block < w.heap.size
  bS : B ≤ S
  bD : B ≤ D
  kS : K S
  kD : K D
  kO : ∀ b, blkOf ra = some b → K b
  kA : ∀ x, da = some x → K x.block

/-- A source from which these bytes come yet; so many of them lie there. -/
def Src (w : World) (B : Nat) (K : Nat → Prop) (S n : Nat) (tot : List Int) : Prop :=
  ∃ D ra rn rc p sz room da dn dc rest ch, SrcS w B K S D ra rn rc p sz room da dn dc rest ch ∧ tot = room.drop p ++ rest ∧ n + p ≤ rn

section
variable {w : World} {B : Nat} {K : Nat → Prop} {S D : Nat} {ra : Option Addr} {rn rc p sz : Nat} {room : List Int} {da : Option Addr} {dn dc : Nat} {rest : List Int} {ch : Nat}
theorem SrcS.sD (h : SrcS w B K S D ra rn rc p sz room da dn dc rest ch) : S ≠ D := h.hS.ne h.hD (by decide)
theorem SrcS.mono {K' : Nat → Prop} (h : SrcS w B K S D ra rn rc p sz room da dn dc rest ch) (hk : ∀ b, K b → K' b) : SrcS w B K' S D ra rn rc p sz room da dn dc rest ch :=
  { h with kS := hk _ h.kS, kD := hk _ h.kD, kO := fun b hb => hk _ (h.kO b hb), kA := fun x hx => hk _ (h.kA x hx) }
theorem SrcS.within (h : SrcS w B K S D ra rn rc p sz room da dn dc rest ch) : SrcS w B (fun b => K b ∧ b < w.heap.size) S D ra rn rc p sz room da dn dc rest ch :=
  { h with kS := ⟨h.kS, h.hS.lt⟩, kD := ⟨h.kD, h.hD.lt⟩, kO := fun b hb => ⟨h.kO b hb, h.hO.lt8 b hb⟩, kA := fun x hx => ⟨h.kA x hx, (h.dne x hx).2.2.2⟩ }
theorem SrcS.below {w' : World} (h : SrcS w B K S D ra rn rc p sz room da dn dc rest ch) (hb : Below w.heap.size w w') : SrcS w' B K S D ra rn rc p sz room da dn dc rest ch :=
  { h with hS := h.hS.below hb h.hS.lt, hD := h.hD.below hb h.hD.lt, hv := h.hv.below hb (Nat.le_refl _), hO := Own.below hb (Nat.le_refl _) h.hO, dne := fun x hx => by have h1 := h.dne x hx; have := hb.size; exact ⟨h1.1, h1.2.1, h1.2.2.1, by omega⟩ }
theorem SrcS.neS (h : SrcS w B K S D ra rn rc p sz room da dn dc rest ch) : blkOf ra ≠ some S := h.hO.neT h.hS (by decide)
theorem SrcS.neD (h : SrcS w B K S D ra rn rc p sz room da dn dc rest ch) : blkOf ra ≠ some D := h.hO.neT h.hD (by decide)
/-- What a walk reads. -/
theorem SrcS.cells (h : SrcS w B K S D ra rn rc p sz room da dn dc rest ch) : w.cell? ⟨S, 0, none⟩ = some (.iface 124 (.pointer (some ⟨D, 0, none⟩))) ∧ w.cell? ⟨S, 1, none⟩ = some (.slice ra rn rc) ∧ w.cell? ⟨S, 2, none⟩ = some (.int .i64 p) ∧ w.cell? ⟨S, 3, none⟩ = some (.int .i64 sz) ∧ w.cell? ⟨S, 4, none⟩ = some Value.nilIface ∧ (∀ i, w.frozen? ⟨S, i, none⟩ = false) ∧ S < w.heap.size :=
  ⟨h.hS.cell rfl, h.hS.cell rfl, h.hS.cell rfl, h.hS.cell rfl, h.hS.cell rfl, fun i => h.hS.frozen i, h.hS.lt⟩
/-- The place moved. -/
theorem SrcS.moved (h : SrcS w B K S D ra rn rc p sz room da dn dc rest ch) (q : Nat) (hq : q ≤ rn) : SrcS (w.setCell ⟨S, 2, none⟩ (.int .i64 q)) B K S D ra rn rc q sz room da dn dc rest ch :=
  { h with hS := by simpa using h.hS.set 2 (.int .i64 q), hD := h.hD.other (p := ⟨S, 2, none⟩) (by simpa using Ne.symm h.sD) _, hv := h.hv.setCell _ (fun x hx => (h.dne x hx).1), hO := h.hO.setLt (p := ⟨S, 2, none⟩) (fun x hx e => h.neS (by rw [hx]; simp at e; simp [blkOf, e])) _, hp := hq, dne := fun x hx => by have := h.dne x hx; simpa using this }
end

/-- A row of bytes: its block. -/
theorem own_blk {w : World} {B : Nat} {a : Option Addr} {n c : Nat} {l : List Int} (h : O8 w B a n c l) : (a = none ∧ n = 0 ∧ c = 0) ∨ ∃ Q cs, a = some ⟨Q, 0, none⟩ ∧ B ≤ Q ∧ Blk w Q 5 cs ∧ cs.size = c ∧ cs.toList.take n = bytesV l := by
  rcases h.row with h0 | ⟨g, cur, ha, hg, hB, hc⟩
  · exact .inl h0
  · refine .inr ⟨g, cur, ha, hg, hB, hc, ?_⟩
    have ho := h.owns
    rcases ho.2 with ⟨h1, _⟩ | ⟨g2, cap2, cur2, hv, _, hB2, _, _, _, ht⟩
    · rw [ha] at h1; cases h1
    · rw [ha] at hv
      injection hv with h1 h2 h3
      injection h1 with h1
      injection h1 with h1 _
      subst h1
      unfold Blk at hB
      rw [hB] at hB2
      injection hB2 with hB2
      injection hB2 with hB2 _
      subst hB2
      simpa using ht
theorem own_of {w : World} {B Q n : Nat} {cs : Array Value} {l : List Int} (hQ : B ≤ Q) (h : Blk w Q 5 cs) (hl : l.length = n) (hn : n ≤ cs.size) (hm : cs.size ≤ 9223372036854775807) (hc : cs.toList.take n = bytesV l) (hb : ∀ x ∈ l, 0 ≤ x ∧ x ≤ 255) : O8 w B (some ⟨Q, 0, none⟩) n cs.size l := by
  refine ⟨⟨hl, hn, hm, hb, fun e => (by cases e), .inr ⟨Q, 0, rfl, fun i hi => ?_⟩⟩, .inr ⟨Q, cs, rfl, hQ, h, rfl⟩⟩
  rw [Nat.zero_add]
  refine h.cell ?_
  have e : (cs.toList.take n)[i]? = (bytesV l)[i]? := by rw [hc]
  rw [List.getElem?_take, if_pos hi] at e
  rw [show cs[i]? = cs.toList[i]? by simp, e]
  have hil : i < l.length := by omega
  simp [bytesV, List.getElem?_eq_getElem hil, List.getD]

section
variable {w : World} {B : Nat} {K : Nat → Prop} {S D : Nat} {ra : Option Addr} {rn rc p sz : Nat} {room : List Int} {da : Option Addr} {dn dc : Nat} {rest : List Int} {ch : Nat}
/-- Copying what lies there down to the room's beginning. -/
theorem SrcS.down (h : SrcS w B K S D ra rn rc p sz room da dn dc rest ch) : ∃ (sa : Option Addr) (g : Nat) (t : TypeId) (cur : List Value), (∀ w', (Instr.slice 26 (.slice ra rn rc) (some (.int .i64 (p : Int))) none none).run Tryd.prog w' = .ok (.slice sa (rn - p) (rc - p)) w') ∧ Blk w g t cur.toArray ∧
    (0 < (bytesV (room.drop p)).length → ra = some ⟨g, 0, none⟩ ∧ ∃ ad, sa = some ad ∧ ∀ j v, (bytesV (room.drop p))[j]? = some v → w.cell? (ad.add j) = some v) ∧ 0 + (bytesV (room.drop p)).length ≤ cur.length ∧
    ∀ w', Blk w' g t (splice cur 0 (bytesV (room.drop p))).toArray → Frm w w' (fun b => b = g) → (∀ B', B' ≤ g → Below B' w w') →
      Blk w' S 134 #[.iface 124 (.pointer (some ⟨D, 0, none⟩)), .slice ra rn rc, .int .i64 p, .int .i64 sz, Value.nilIface] ∧ Blk w' D 127 #[.slice da dn dc, .int .i64 ch] ∧ Vw w' da dn dc rest ∧ O8 w' B ra (rn - p) rc (room.drop p) ∧ Frm w w' K ∧ Below B w w' := by
  obtain ⟨sa, hsl, hv', _⟩ := h.hO.vw.fromB p h.hp
  have hln : (bytesV (room.drop p)).length = rn - p := by simp [bytesV, h.hO.vw.len]
  have hcap := h.hO.vw.cap
  have hpl := h.hp
  rcases own_blk h.hO with ⟨h1, h2, h3⟩ | ⟨Q, cs, h1, hQ, hB, hcs, htk⟩
  · have hr : room = [] := List.eq_nil_of_length_eq_zero (by rw [h.hO.vw.len, h2])
    subst hr
    refine ⟨sa, S, 134, [.iface 124 (.pointer (some ⟨D, 0, none⟩)), .slice ra rn rc, .int .i64 p, .int .i64 sz, Value.nilIface], hsl, h.hS, fun h0 => absurd h0 (by simp [bytesV]), by simp [bytesV], fun w' hc hf hbl => ?_⟩
    have hc' : Blk w' S 134 #[.iface 124 (.pointer (some ⟨D, 0, none⟩)), .slice ra rn rc, .int .i64 p, .int .i64 sz, Value.nilIface] := by simpa [bytesV, splice] using hc
    refine ⟨hc', hf.blk h.hD (Ne.symm h.sD), hf.vw h.hv (fun x hx => (h.dne x hx).1), ?_, hf.imp (fun b _ e => by rw [e]; exact h.kS), hbl B h.bS⟩
    subst h1; subst h2; subst h3
    simpa using Own.nil 5 w' B
  · have hQS : S ≠ Q := by rintro rfl; exact h.neS (by rw [h1]; rfl)
    have hQD : D ≠ Q := by rintro rfl; exact h.neD (by rw [h1]; rfl)
    refine ⟨sa, Q, 5, cs.toList, hsl, by simpa using hB, fun h0 => ⟨h1, hv'.src h0⟩, by rw [hln]; simp; omega, fun w' hc hf hbl => ?_⟩
    refine ⟨hf.blk h.hS hQS, hf.blk h.hD hQD, hf.vw h.hv (fun x hx => by have := (h.dne x hx).2.2.1; rw [h1] at this; simp [blkOf] at this; exact fun e => this e.symm), ?_, hf.imp (fun b _ e => by rw [e]; exact h.kO Q (by rw [h1]; rfl)), hbl B hQ⟩
    have hsp := length_splice cs.toList 0 (bytesV (room.drop p)) (by rw [hln]; simp; omega)
    have htk2 := take_splice cs.toList 0 (bytesV (room.drop p)) (by simp)
    have := own_of (n := rn - p) hQ hc (by rw [List.length_drop, h.hO.vw.len]) (by simp at hsp ⊢; omega) (by simp at hsp ⊢; have := h.rcm; omega) (by rw [hln] at htk2; simpa using htk2) (fun x hx => h.hO.vw.byt x (List.mem_of_mem_drop hx))
    rw [h1]
    have e2 : (splice cs.toList 0 (bytesV (room.drop p))).toArray.size = rc := by simp at hsp ⊢; omega
    rw [e2] at this
    exact this
end

theorem mid8 (Q rn rc sz : Nat) (h : rn + sz ≤ rc) (h1 : 1 ≤ sz) (w' : World) : (Instr.slice 26 (.slice (some ⟨Q, 0, none⟩) rn rc) (some (.int .i64 (rn : Int))) (some (.int .i64 ((rn : Int) + (sz : Int)))) none).run Tryd.prog w' = .ok (.slice (some ⟨Q, rn, none⟩) sz (rc - rn)) w' := by
  have h0 := size8 w'
  have hk : ¬ rc = rn := by omega
  have h2 := run_sliceBound (P := Tryd.prog) w' .i64 ((rn : Int) + (sz : Int)) rc .sliceAcap (by omega) (by omega)
  have h3 := run_sliceBound (P := Tryd.prog) w' .i64 (rn : Int) (rn + sz) .sliceB (by omega) (by omega)
  have e : ((rn : Int) + (sz : Int)).toNat = rn + sz := by omega
  rw [e] at h2
  simp [Instr.slice, Instr.sliceBounds, run_underlying Tryd.underlying26, h0, h2, h3, Sem.run_bind, Result.andThen, hk, Addr.add]
  exact fun e => e.symm

section
variable {w : World} {B : Nat} {K : Nat → Prop} {S D : Nat} {ra : Option Addr} {rn rc sz : Nat} {room : List Int} {da : Option Addr} {dn dc : Nat} {rest : List Int} {ch : Nat}
/-- The room is a new one, larger. -/
theorem SrcS.grown (h : SrcS w B K S D ra rn rc 0 sz room da dn dc rest ch) (c2 : Nat) (hc2 : rn ≤ c2) (hcm : c2 ≤ 262144) {w3 : World} {cs3 : Array Value} (hb : Blk w3 w.heap.size 5 cs3) (hs : cs3.size = c2) (ht : cs3.toList.take rn = bytesV room) (hf : Frm w w3 (fun b => b = w.heap.size)) :
    SrcS (w3.setCell ⟨S, 1, none⟩ (.slice (some ⟨w.heap.size, 0, none⟩) rn c2)) B (fun b => K b ∨ b = w.heap.size) S D (some ⟨w.heap.size, 0, none⟩) rn c2 0 sz room da dn dc rest ch := by
  have hSl := h.hS.lt
  have hDl := h.hD.lt
  have hS3 := hf.blk h.hS (by omega)
  have hD3 := hf.blk h.hD (by omega)
  have hv3 := vw_live h.hv (w' := w3) (fun x hx _ => hf.2 _ (h.dne x hx).2.2.2 (by have := (h.dne x hx).2.2.2; omega))
  have hO3 := own_of (B := B) (n := rn) (by have := h.bS; omega) hb h.hO.vw.len (by omega) (by omega) ht h.hO.vw.byt
  rw [hs] at hO3
  exact { h with hS := (by simpa using hS3.set 1 (.slice (some ⟨w.heap.size, 0, none⟩) rn c2)), hD := hD3.other (p := ⟨S, 1, none⟩) (Ne.symm h.sD) _, hv := hv3.setCell (p := ⟨S, 1, none⟩) _ (fun x hx => (h.dne x hx).1), hO := hO3.setLt (p := ⟨S, 1, none⟩) (fun x hx e => by injection hx with hx; subst hx; simp at e; omega) _, hp := Nat.zero_le _, rcm := hcm, dne := (fun x hx => by have h1 := h.dne x hx; have := hf.1; simp; exact ⟨h1.1, h1.2.1, by simp [blkOf]; omega, by omega⟩), kS := .inl h.kS, kD := .inl h.kD, kO := (fun b hb => .inr (by simpa [blkOf] using hb.symm)), kA := fun x hx => .inl (h.kA x hx) }
/-- Bytes are read into the room. -/
theorem SrcS.got {Q : Nat} (h : SrcS w B K S D (some ⟨Q, 0, none⟩) rn rc 0 sz room da dn dc rest ch) (m : Nat) (hm : rn + m ≤ rc) (hmd : m ≤ dn) {w5 : World} {da' : Option Addr} {cs cs' : Array Value} (hQ : Blk w Q 5 cs) (hcs : cs.size = rc) (htk : cs.toList.take rn = bytesV room)
    (hD : Blk w5 D 127 #[.slice da' (dn - m) (dc - m), .int .i64 ch]) (hv : Vw w5 da' (dn - m) (dc - m) (rest.drop m)) (hbk : ∀ x, da' = some x → ∃ y, da = some y ∧ y.block = x.block)
    (hc : Blk w5 Q 5 cs') (hs : cs'.size = cs.size) (ht : cs'.toList.take (rn + m) = cs.toList.take rn ++ bytesV (rest.take m)) (hf : Frm w w5 (fun b => b = D ∨ b = Q)) :
    SrcS ((w5.setCell ⟨S, 1, none⟩ (.slice (some ⟨Q, 0, none⟩) (rn + m) rc)).setCell ⟨S, 4, none⟩ Value.nilIface) B K S D (some ⟨Q, 0, none⟩) (rn + m) rc 0 sz (room ++ rest.take m) da' (dn - m) (dc - m) (rest.drop m) ch ∧
      Frm w ((w5.setCell ⟨S, 1, none⟩ (.slice (some ⟨Q, 0, none⟩) (rn + m) rc)).setCell ⟨S, 4, none⟩ Value.nilIface) K := by
  have hSQ : S ≠ Q := by rintro rfl; exact h.neS rfl
  have hBQ : B ≤ Q := by
    rcases h.hO.row with ⟨h1, _⟩ | ⟨g, cur, h1, hg, _⟩
    · cases h1
    · injection h1 with h1; injection h1 with h1 _; omega
  have hS5 := hf.blk h.hS (by rintro (e | e); exact h.sD e; exact hSQ e)
  have hcap := h.hO.vw.cap
  have hrcm := h.rcm
  have hdl := h.hv.len
  have hO5 := own_of (B := B) (n := rn + m) (l := room ++ rest.take m) hBQ hc (by rw [List.length_append, List.length_take, h.hO.vw.len]; omega) (by omega) (by omega) (by rw [ht, htk]; simp [bytesV]) (fun x hx => by
    rcases List.mem_append.1 hx with h1 | h1
    · exact h.hO.vw.byt x h1
    · exact h.hv.byt x (List.mem_of_mem_take h1))
  rw [hs, hcs] at hO5
  have hne : ∀ x, da' = some x → x.block ≠ S ∧ x.block ≠ D ∧ Q ≠ x.block ∧ x.block < w.heap.size := fun x hx => by
    obtain ⟨y, hy, hyb⟩ := hbk x hx
    have := h.dne y hy
    rw [hyb] at this
    exact ⟨this.1, this.2.1, by have := this.2.2.1; simpa [blkOf] using this, this.2.2.2⟩
  have hDS := Ne.symm h.sD
  have hOS : ∀ x, (some (⟨Q, 0, none⟩ : Addr)) = some x → x.block ≠ S := fun x hx e => by injection hx with hx; subst hx; exact hSQ e.symm
  refine ⟨{ h with hS := (by simpa using (hS5.set 1 (.slice (some ⟨Q, 0, none⟩) (rn + m) rc)).set 4 Value.nilIface), hD := (hD.other (p := ⟨S, 1, none⟩) hDS _).other (p := ⟨S, 4, none⟩) hDS _, hv := (hv.setCell (p := ⟨S, 1, none⟩) _ (fun x hx => (hne x hx).1)).setCell (p := ⟨S, 4, none⟩) _ (fun x hx => (hne x hx).1), hO := (hO5.setLt (p := ⟨S, 1, none⟩) hOS _).setLt (p := ⟨S, 4, none⟩) hOS _, hp := Nat.zero_le _, dnm := (by have := h.dnm; omega), dne := (fun x hx => by have h1 := hne x hx; have := hf.1; simp; exact ⟨h1.1, h1.2.1, by simpa [blkOf] using h1.2.2.1, by omega⟩), kA := (fun x hx => by obtain ⟨y, hy, hyb⟩ := hbk x hx; rw [← hyb]; exact h.kA y hy) }, ?_⟩
  exact Frm.set (p := K) (Frm.set (p := K) (hf.imp (fun b _ e => by rcases e with e | e; rw [e]; exact h.kD; rw [e]; exact h.kO Q rfl)) (x := ⟨S, 1, none⟩) h.kS _) (x := ⟨S, 4, none⟩) h.kS _
end

theorem make8c (n c : Nat) (hnc : n ≤ c) (hn : c ≤ 1099511627776) (w : World) : (Instr.makeSlice 26 (.int .i64 (n : Int)) (.int .i64 (c : Int))).run Tryd.prog w = .ok (.slice (some ⟨w.heap.size, 0, none⟩) n c) (w.alloc (.cells (madeCells #[.int .u8 0] c) 5)) := by
  obtain ⟨i, hi, hz, hs1, hs2⟩ := info8
  have h := run_make (P := Tryd.prog) w 26 5 i (.int .u8 0) Tryd.underlying26 hi hz .i64 .i64 (n : Int) (c : Int) (by omega) (by omega) (by rw [hs2]; omega) (by omega)
  rw [hs1] at h
  simpa [Value.cells] using h

theorem nilR (a : Addr) (w : World) : (nilAhead 292 124 (.pointer (some a)) "Read").run Tryd.prog w = .ok (some false) w := by kernel_rfl
theorem methR (a : Addr) (w : World) : (method 292 124 (.pointer (some a)) "Read").run Tryd.prog w = .ok (110, .pointer (some a)) w := by kernel_rfl

def roomLen (w : World) (S : Nat) : Nat := match w.cell? ⟨S, 1, none⟩ with | some (.slice _ n _) => n | _ => 0

/-- What 'more' leaves: so many bytes lie there. -/
def MoreRes (B : Nat) (K : Nat → Prop) (S n : Nat) (tot : List Int) (w : World) (e : Ending) (w' : World) : Prop :=
  e = .returned (.tuple #[]) ∧ Src w' B (fun b => K b ∨ w.heap.size ≤ b) S n tot ∧ Frm w w' K ∧ Below B w w'

set_option maxRecDepth 100000 in
set_option maxHeartbeats 8000000 in
theorem more_any (B : Nat) (K : Nat → Prop) (S n : Nat) (hn16 : n ≤ 16) (tot : List Int) (w : World) (h : Src w B K S 0 tot) (hn : n ≤ tot.length) :
    Calls Tryd.prog 62 #[.pointer (some ⟨S, 0, none⟩), .int .i64 (n : Int)] w (MoreRes B K S n tot w) := by
  obtain ⟨D, ra, rn, rc, p, sz, room, da, dn, dc, rest, ch, hs, ht, hp⟩ := h
  obtain ⟨q0, q1, q2, q3, q4, qf, qz⟩ := hs.cells
  have hpr := hs.hp
  have hcap := hs.hO.vw.cap
  have hrcm := hs.rcm
  have hBw : B ≤ w.heap.size := by have := hs.bS; omega
  have hwr : IntKind.i64.wrap ((rn : Int) - (p : Int)) = (rn : Int) - (p : Int) := by rw [IntKind.wrap_i64]; omega
  by_cases hen : n + p ≤ rn
  · have e1 : (n : Int) ≤ (rn : Int) - (p : Int) := by omega
    have e2 : decide ((n : Int) ≤ (rn : Int) - (p : Int)) = true := by simpa using e1
    have HS := Lib.hid hs
    have HT := Lib.hid ht
    clear hs ht
    go_enter Tryd.func62, Tryd.ntmps62
    go_wp2_with fail
    go_quiet (fail)
    go_wp2_with fail
    refine bodyPost_ret (results_none rfl _ _ _) rfl ?_
    exact ⟨rfl, ⟨D, ra, rn, rc, p, sz, room, da, dn, dc, rest, ch, (HS.out.below (below_drewN (Below.refl _ _) _)).mono (fun b => .inl), HT.out, hen⟩, Frm.refl _ _, below_drewN (Below.refl _ _) _⟩
  · have e1 : ¬ (n : Int) ≤ (rn : Int) - (p : Int) := by omega
    have e2 : decide ((n : Int) ≤ (rn : Int) - (p : Int)) = false := by simpa using e1
    have HS := Lib.hid hs
    have HT := Lib.hid ht
    have HP := Lib.hid (And.intro hpr (And.intro hcap hrcm))
    clear hs ht
    go_enter Tryd.func62, Tryd.ntmps62
    go_wp2_with fail
    go_quiet (fail)
    go_wp2_with fail
    have hbV : Below w.heap.size w (w.drewN nq) := below_drewN (Below.refl _ _) _
    generalize w.drewN nq = V at hbV ⊢
    have hsV := HS.out.below hbV
    clear q0 q1 q2 q3 q4 qf qz e1 e2
    obtain ⟨q0, q1, q2, q3, q4, qf, qz⟩ := hsV.cells
    have hsD := hsV.below (Below.refl _ _).drew
    obtain ⟨sa, g, t, cur, hsl, hB, hpos, hfit, haft⟩ := hsD.down
    have hlen : (bytesV (room.drop p)).length = rn - p := by simp [bytesV, HS.out.hO.vw.len]
    have hone : ∀ v ∈ bytesV (room.drop p), v.oneCell' = true := by unfold bytesV; intro v hv; obtain ⟨q, _, rfl⟩ := List.mem_map.1 hv; rfl
    have HB := Lib.hid hB
    have HPO := Lib.hid hpos
    have HFI := Lib.hid hfit
    have HAF := Lib.hid haft
    have HLN := Lib.hid hlen
    have HON := Lib.hid hone
    have HSV := Lib.hid hsV
    have hrcp : rn ≤ rc + p := by omega
    clear hsV hsD hB hpos hfit haft hlen hone hwr
    go_cut [] (fun wx => Hid (Blk wx S 134 #[.iface 124 (.pointer (some ⟨D, 0, none⟩)), .slice ra (rn - p) rc, .int .i64 p, .int .i64 sz, Value.nilIface] ∧ Blk wx D 127 #[.slice da dn dc, .int .i64 ch] ∧ Vw wx da dn dc rest ∧ O8 wx B ra (rn - p) rc (room.drop p) ∧ Frm w wx K ∧ Below B w wx))
    case first =>
      go_region_law (first | (with_reducible refine step_copyF (o := ⟨some 45, _, _, _, _, _⟩) (by rfl) (.tmp 35) (.tmp 44) 26 26 (by rfl) 5 Tryd.underlying26 one8 ra sa rn rc (rn - p) (rc - p) (by simp [Act.eval, Act.put]) (by simp [Act.eval, Act.put]) g 0 cur t HB.out (bytesV (room.drop p)) (by rw [HLN.out]; exact (Nat.min_eq_left (by omega)).symm) HPO.out HFI.out HON.out ?_; intro w1 hc1 hf1 hb1; rw [HLN.out]; obtain ⟨hS1, hD1, hv1, hO1, hfr1, hbl1⟩ := HAF.out w1 hc1 hf1 hb1; have p0 := hS1.cell (i := 0) rfl; have p1 := hS1.cell (i := 1) rfl; have p2 := hS1.cell (i := 2) rfl; have pf := fun i => hS1.frozen i; have hSl := hS1.lt))
      all_goals
        have h0 := HSV.out
        have hDS : D ≠ S := Ne.symm h0.sD
        have hOS : ∀ x, ra = some x → x.block ≠ S := fun x hx e => h0.neS (by rw [hx]; simp [blkOf, e])
        have hrel := Lib.hid (And.intro (hS1.set 1 (.slice ra (rn - p) rc)) (And.intro (hD1.other (p := ⟨S, 1, none⟩) hDS (.slice ra (rn - p) rc)) (And.intro (hv1.setCell (p := ⟨S, 1, none⟩) (.slice ra (rn - p) rc) (fun x hx => (h0.dne x hx).1)) (And.intro (hO1.setLt (p := ⟨S, 1, none⟩) hOS (.slice ra (rn - p) rc)) (And.intro (Frm.set (p := K) (Frm.trans (Frm.below hbV _) (Frm.trans (b := V.drew) (Frm.refl V _) hfr1)) (x := ⟨S, 1, none⟩) h0.kS (.slice ra (rn - p) rc)) (Below.setCell (Below.trans (hbV.mono hBw) (Below.trans (b := V.drew) (Below.refl _ _).drew hbl1)) (p := ⟨S, 1, none⟩) h0.bS (.slice ra (rn - p) rc)))))))
        clear hS1 hD1 hv1 hO1 hfr1 hbl1 hc1 hf1 hb1 h0 hDS hOS
        go_wp2_with fail
        go_meet
        simpa using hrel
    case rest =>
      have HX1 := hcut
      obtain ⟨p0, p1, p2, pf, hSl⟩ : wc.cell? ⟨S, 0, none⟩ = some (.iface 124 (.pointer (some ⟨D, 0, none⟩))) ∧ wc.cell? ⟨S, 1, none⟩ = some (.slice ra (rn - p) rc) ∧ wc.cell? ⟨S, 2, none⟩ = some (.int .i64 p) ∧ (∀ i, wc.frozen? ⟨S, i, none⟩ = false) ∧ S < wc.heap.size := ⟨hcut.out.1.cell rfl, hcut.out.1.cell rfl, hcut.out.1.cell rfl, fun i => hcut.out.1.frozen i, hcut.out.1.lt⟩
      clear hcut q0 q1 q2 q3 q4 qf
      go_wp2_with fail
      have hst : SrcS (wc.setCell ⟨S, 2, none⟩ (.int .i64 0)) B K S D ra (rn - p) rc 0 sz (room.drop p) da dn dc rest ch := by
        obtain ⟨hS1, hD1, hv1, hO1, hfr1, hbl1⟩ := HX1.out
        have h0 := HSV.out
        have hDS : D ≠ S := Ne.symm h0.sD
        have hOS : ∀ x, ra = some x → x.block ≠ S := fun x hx e => h0.neS (by rw [hx]; simp [blkOf, e])
        exact { h0 with hS := (by simpa using hS1.set 2 (.int .i64 0)), hD := hD1.other (p := ⟨S, 2, none⟩) hDS _, hv := hv1.setCell (p := ⟨S, 2, none⟩) _ (fun x hx => (h0.dne x hx).1), hO := hO1.setLt (p := ⟨S, 2, none⟩) hOS _, hp := Nat.zero_le _, dne := fun x hx => by have h1 := HS.out.dne x hx; have := hfr1.1; simp at this ⊢; exact ⟨h1.1, h1.2.1, h1.2.2.1, by omega⟩ }
      have hfb : Hid (Frm w (wc.setCell ⟨S, 2, none⟩ (.int .i64 0)) K ∧ Below B w (wc.setCell ⟨S, 2, none⟩ (.int .i64 0))) := Lib.hid ⟨Frm.set (p := K) HX1.out.2.2.2.2.1 (x := ⟨S, 2, none⟩) HS.out.kS _, HX1.out.2.2.2.2.2.setCell (p := ⟨S, 2, none⟩) HS.out.bS _⟩
      have HST := Lib.hid hst
      clear hst p0 p1 p2 pf HX1
      go_loopw [] (fun wr => ∃ (ra : Option Addr) (rn rc : Nat) (room : List Int) (da : Option Addr) (dn dc : Nat) (rest : List Int), Hid (SrcS wr B (fun b => K b ∨ w.heap.size ≤ b) S D ra rn rc 0 sz room da dn dc rest ch) ∧ Hid (tot = room ++ rest) ∧ Hid (Frm w wr K ∧ Below B w wr)) (fun wr => n - roomLen wr S)
      case atStart => exact ⟨ra, rn - p, rc, room.drop p, da, dn, dc, rest, Lib.hid (HST.out.mono (fun b => .inl)), HT, hfb⟩
      case round =>
        obtain ⟨ra1, rn1, rc1, room1, da1, dn1, dc1, rest1, hs1, ht1, hfb1⟩ := hrel
        have hsv := hs1.out
        have hcap1 := hsv.hO.vw.cap
        have hrc1 := hsv.rcm
        have hrl1 := hsv.hO.vw.len
        have hdl1 := hsv.hv.len
        have s16 := hsv.s16
        have szm := hsv.szm
        have htl : tot.length = rn1 + dn1 := by rw [ht1.out, List.length_append, hrl1, hdl1]
        obtain ⟨q0, q1, q2, q3, q4, qf, qz⟩ := hsv.cells
        have HDL := Lib.hid (And.intro hrl1 (And.intro hdl1 htl))
        clear hrl1 hdl1 htl
        have hrl : roomLen wr S = rn1 := by unfold roomLen; rw [q1]
        have HRL := Lib.hid hrl
        clear hsv hrl
        by_cases hlt : rn1 < n
        · have hli : (rn1 : Int) < n := by omega
          have hd1 : 1 ≤ dn1 := by have := HDL.out; omega
          have hws : IntKind.i64.wrap ((rc1 : Int) - (rn1 : Int)) = (rc1 : Int) - (rn1 : Int) := by rw [IntKind.wrap_i64]; omega
          by_cases hgrow : rc1 < rn1 + sz
          · have hg1 : (rc1 : Int) - (rn1 : Int) < sz := by omega
            have hg2 : decide ((rc1 : Int) - (rn1 : Int) < sz) = true := by simpa using hg1
            go_wp2_with fail
            go_quiet (fail)
            go_wp2_with fail
            obtain ⟨c2, hc2⟩ : ∃ c2, c2 = 2 * rc1 + sz := ⟨_, rfl⟩
            have hc2m : c2 ≤ 262144 := by omega
            have hmk := make8c rn1 c2 (by omega) (by omega)
            have e2 : ((c2 : Nat) : Int) = 2 * (rc1 : Int) + (sz : Int) := by omega
            rw [e2] at hmk
            have hw2 : IntKind.i64.wrap (2 * (rc1 : Int)) = 2 * (rc1 : Int) := by rw [IntKind.wrap_i64]; omega
            have hw3 : IntKind.i64.wrap (2 * (rc1 : Int) + (sz : Int)) = 2 * (rc1 : Int) + (sz : Int) := by rw [IntKind.wrap_i64]; omega
            have HC2 := Lib.hid hc2
            clear hc2 e2
            have hbV1 : Below wr.heap.size wr (wr.drewN nq) := below_drewN (Below.refl _ _) _
            generalize wr.drewN nq = V1 at hbV1 ⊢
            have hsV1 := hs1.out.below hbV1
            clear q0 q1 q2 q3 q4 qf
            obtain ⟨q0, q1, q2, q3, q4, qf, qz1⟩ := hsV1.cells
            go_still_tail 12, (by kernel_rfl)
            change wpList _ _ _ _ _ V1.drew
            have hQn : Blk (V1.alloc (.cells (madeCells #[.int .u8 0] c2) 5)).drew V1.heap.size 5 (madeCells #[.int .u8 0] c2).toList.toArray := by simpa using (Blk.new V1 5 (madeCells #[.int .u8 0] c2)).drew
            have hbA : Below V1.heap.size V1 (V1.alloc (.cells (madeCells #[.int .u8 0] c2) 5)).drew := ((Below.refl _ _).alloc (Nat.le_refl _) _).drew
            have hsA := hsV1.below hbA
            have hlen1 : (bytesV room1).length = rn1 := by simp [bytesV, HDL.out.1]
            have hone1 : ∀ v ∈ bytesV room1, v.oneCell' = true := by unfold bytesV; intro v hv; obtain ⟨q, _, rfl⟩ := List.mem_map.1 hv; rfl
            have hfit1 : 0 + (bytesV room1).length ≤ (madeCells #[.int .u8 0] c2).toList.length := by rw [hlen1]; simp [madeCells]; have := HC2.out; omega
            have HQN := Lib.hid hQn
            have HSA := Lib.hid hsA
            have HSV1 := Lib.hid hsV1
            have HLN1 := Lib.hid hlen1
            have HON1 := Lib.hid hone1
            have HFT1 := Lib.hid hfit1
            have HBA := Lib.hid (And.intro hbV1 hbA)
            clear hQn hsA hsV1 hlen1 hone1 hfit1 hbA hbV1
            go_wp2_with (refine copyF (o := ⟨some 101, _, _, _, _, _⟩) (by rfl) (.tmp 96) (.tmp 100) 26 26 (by rfl) 5 Tryd.underlying26 one8 (some ⟨V1.heap.size, 0, none⟩) ra1 rn1 c2 rn1 rc1 (by simp [Act.eval]) (by simp [Act.eval]) V1.heap.size 0 (madeCells #[.int .u8 0] c2).toList 5 HQN.out (bytesV room1) (by rw [HLN1.out]; exact (Nat.min_self _).symm) (fun h => ⟨rfl, HSA.out.hO.vw.src h⟩) HFT1.out HON1.out ?_; intro w3 hc3 hf3 hb3; rw [HLN1.out]; have hS3 := hf3.blk HSA.out.hS (by omega); have r0 := hS3.cell (i := 0) rfl; have r1 := hS3.cell (i := 1) rfl; have r3 := hS3.cell (i := 3) rfl; have rf := fun i => hS3.frozen i; have hSl3 := hS3.lt)
            obtain ⟨QQ, hQQ⟩ : ∃ Q, Q = V1.heap.size := ⟨_, rfl⟩
            rw [← hQQ]
            have hsp := length_splice (madeCells #[.int .u8 0] c2).toList 0 (bytesV room1) (by have := HFT1.out; omega)
            have hszq : ((splice (madeCells #[.int .u8 0] c2).toList 0 (bytesV room1)).toArray).size = c2 := by simp at hsp ⊢; rw [hsp]; simp [madeCells]
            have htkq : ((splice (madeCells #[.int .u8 0] c2).toList 0 (bytesV room1)).toArray).toList.take rn1 = bytesV room1 := by
              have := take_splice (madeCells #[.int .u8 0] c2).toList 0 (bytesV room1) (by simp)
              rw [HLN1.out] at this
              simpa using this
            have hfV : Frm V1 w3 (fun b => b = V1.heap.size) := Frm.trans (b := (V1.alloc (.cells (madeCells #[.int .u8 0] c2) 5)).drew) (Frm.below HBA.out.2 _) hf3
            have hs4 := HSV1.out.grown c2 (by have := HC2.out; omega) hc2m hc3 hszq htkq hfV
            have hwV : w.heap.size ≤ V1.heap.size := Nat.le_trans hfb1.out.1.1 HBA.out.1.size
            have hs4 := hs4.mono (K' := fun b => K b ∨ w.heap.size ≤ b) (fun b h => by rcases h with h | h; exact h; exact .inr (by omega))
            have hSne : S ≠ V1.heap.size := by omega
            have hbQ : Blk (w3.setCell ⟨S, 1, none⟩ (.slice (some ⟨V1.heap.size, 0, none⟩) rn1 c2)) V1.heap.size 5 _ := hc3.other (p := ⟨S, 1, none⟩) (Ne.symm hSne) _
            obtain ⟨cs4, hcs4⟩ : ∃ cs, cs = (splice (madeCells #[.int .u8 0] c2).toList 0 (bytesV room1)).toArray := ⟨_, rfl⟩
            rw [← hcs4] at hbQ hszq htkq
            have hfw : Frm w (w3.setCell ⟨S, 1, none⟩ (.slice (some ⟨V1.heap.size, 0, none⟩) rn1 c2)) K := Frm.set (p := K) (hfb1.out.1.trans ((Frm.below HBA.out.1 _).trans ⟨hfV.1, fun b hb hn => hfV.2 b hb (by omega)⟩)) (x := ⟨S, 1, none⟩) HS.out.kS _
            have hbw : Below B w (w3.setCell ⟨S, 1, none⟩ (.slice (some ⟨V1.heap.size, 0, none⟩) rn1 c2)) := (hfb1.out.2.trans ((HBA.out.1.mono (by have := hfb1.out.1.1; omega)).trans ((HBA.out.2.mono (by omega)).trans (hb3 B (by omega))))).setCell (p := ⟨S, 1, none⟩) HS.out.bS _
            rw [← hQQ] at hs4 hbQ hfw hbw hSne
            have HB4 := Lib.hid (And.intro hbQ (And.intro hszq htkq))
            have HNE := Lib.hid hSne
            have HBQ : Hid (B ≤ QQ) := Lib.hid (by omega)
            have hfb4 := And.intro hfw hbw
            have hcap4 : rn1 + sz ≤ c2 := by have := HC2.out; omega
            have hcm4 := hc2m
            clear hc3 hf3 hb3 hS3 r0 r1 r3 rf hsp hszq htkq hfV hbQ hcs4 hfw hbw hmk hw2 hw3 hSne
            have HQQ := Lib.hid hQQ
            clear hQQ
            generalize w3.setCell ⟨S, 1, none⟩ (.slice (some ⟨QQ, 0, none⟩) rn1 c2) = W4 at *
            have HS4 := Lib.hid hs4
            have HFB4 := Lib.hid hfb4
            obtain ⟨q0, q1, q2, q3, q4, qf, qz4⟩ := HS4.out.cells
            have ht1' : ((rn1 : Int) + (sz : Int)).toNat = rn1 + sz := by omega
            have ht2' : (rn1 : Int) + (sz : Int) ≤ c2 := by omega
            have ht3' : (0 : Int) ≤ (rn1 : Int) + (sz : Int) := by omega
            have ht4' : ¬ c2 = rn1 := by omega
            have hm1 := nilR ⟨D, 0, none⟩
            have hm2 := methR ⟨D, 0, none⟩
            have hws2 : IntKind.i64.wrap ((rn1 : Int) + (sz : Int)) = (rn1 : Int) + (sz : Int) := by rw [IntKind.wrap_i64]; omega
            have HRD := fun (U : World) (hU : Below W4.heap.size W4 U) => Lib.hid (read_any D da1 dn1 dc1 rest1 ch QQ rn1 sz (c2 - rn1) cs4 U (HS4.out.hD.below hU HS4.out.hD.lt) (HS4.out.hv.below hU (Nat.le_refl _)) (HB4.out.1.below hU HB4.out.1.lt) hd1 HS4.out.ch1 (by omega) (by have := HB4.out.2.1; omega) (fun x hx => by have h1 := HS4.out.dne x hx; exact ⟨h1.2.1, by have := h1.2.2.1; simp [blkOf] at this; exact fun e => this e.symm⟩))
            have q0d : W4.drew.cell? ⟨S, 0, none⟩ = some (.iface 124 (.pointer (some ⟨D, 0, none⟩))) := q0
            have q1d : W4.drew.cell? ⟨S, 1, none⟩ = some (.slice (some ⟨QQ, 0, none⟩) rn1 c2) := q1
            have q3d : W4.drew.cell? ⟨S, 3, none⟩ = some (.int .i64 sz) := q3
            go_region_held3 (fun U => U.cell? ⟨S, 0, none⟩ = some (.iface 124 (.pointer (some ⟨D, 0, none⟩))) ∧ U.cell? ⟨S, 1, none⟩ = some (.slice (some ⟨QQ, 0, none⟩) rn1 c2) ∧ U.cell? ⟨S, 3, none⟩ = some (.int .i64 sz)) (first | exact ⟨q0d, q1d, q3d⟩ | exact ⟨hS5.cell rfl, hS5.cell rfl, hS5.cell rfl⟩) (first | (go_at_call 110; refine ((HRD _ (Below.refl _ _).drew).out).mono ?_; rintro e w5 ⟨m, da', g1, g2, g3, rfl, g4, g5, g6, ⟨cs5, g7, g8, g9⟩, g10, g11⟩; have hS5 := g10.blk HS4.out.hS.drew (by rintro (e | e); exact HS4.out.sD e; exact HNE.out e)))
            have hgot := HS4.out.got m (by omega) g3 HB4.out.1 HB4.out.2.1 HB4.out.2.2 g4 g5 g6 g7 g8 g9 (Frm.trans (b := W4.drew) (Frm.refl W4 _) g10)
            have hbel := (Below.setCell (Below.setCell (Below.trans (b := W4.drew) (Below.refl B W4).drew (g11 B HS4.out.bD HBQ.out)) (p := ⟨S, 1, none⟩) HS4.out.bS (.slice (some ⟨QQ, 0, none⟩) (rn1 + m) c2)) (p := ⟨S, 4, none⟩) HS4.out.bS Value.nilIface)
            have p0 := hS5.cell (i := 0) rfl
            have p1 := hS5.cell (i := 1) rfl
            have p4 := hS5.cell (i := 4) rfl
            have pf := fun i => hS5.frozen i
            have pz := hS5.lt
            have HG := Lib.hid hgot
            have HBE := Lib.hid hbel
            have HM := Lib.hid (And.intro g1 g3)
            have hmc : (rn1 : Int) + (m : Int) ≤ c2 := by omega
            have hmc2 : rn1 + m ≤ c2 := by omega
            clear hgot hbel g4 g5 g6 g7 g8 g9 g10 g11 hS5 q0 q1 q2 q3 q4 qf q0d q1d q3d ht1' ht2' ht3' ht4' hws2
            go_wp2_with fail
            go_roundw
            case rel => exact ⟨some ⟨QQ, 0, none⟩, rn1 + m, c2, room1 ++ rest1.take m, da', dn1 - m, dc1 - m, rest1.drop m, Lib.hid HG.out.1, Lib.hid (by rw [ht1.out]; simp), Lib.hid ⟨HFB4.out.1.trans2 HG.out.2, HFB4.out.2.trans HBE.out⟩⟩
            case measure =>
              have e1 := HRL.out
              have e2 := HG.out.1.cells.2.1
              have e3 : roomLen ((w5.setCell ⟨S, 1, none⟩ (.slice (some ⟨QQ, 0, none⟩) (rn1 + m) c2)).setCell ⟨S, 4, none⟩ Value.nilIface) S = rn1 + m := by unfold roomLen; rw [e2]
              rw [e1, e3]
              omega
          · have hg1 : ¬ (rc1 : Int) - (rn1 : Int) < sz := by omega
            have hg2 : decide ((rc1 : Int) - (rn1 : Int) < sz) = false := by simpa using hg1
            go_wp2_with fail
            go_quiet (fail)
            go_wp2_with fail
            have hbV1 : Below wr.heap.size wr (wr.drewN nq) := below_drewN (Below.refl _ _) _
            generalize wr.drewN nq = W4 at hbV1 ⊢
            have hs4 := hs1.out.below hbV1
            clear q0 q1 q2 q3 q4 qf
            obtain ⟨QQ, cs4, hra, hBQ4, hbQ, hszq, htkq⟩ : ∃ Q cs, ra1 = some ⟨Q, 0, none⟩ ∧ B ≤ Q ∧ Blk W4 Q 5 cs ∧ cs.size = rc1 ∧ cs.toList.take rn1 = bytesV room1 := by
              rcases own_blk hs4.hO with ⟨_, _, h3⟩ | h3
              · omega
              · exact h3
            subst hra
            have hSne : S ≠ QQ := by rintro rfl; exact hs4.neS rfl
            have HB4 := Lib.hid (And.intro hbQ (And.intro hszq htkq))
            have HNE := Lib.hid hSne
            have HBQ : Hid (B ≤ QQ) := Lib.hid hBQ4
            have hfb4 := And.intro (hfb1.out.1.trans (Frm.below hbV1 K)) (hfb1.out.2.trans (hbV1.mono (by have := hfb1.out.1.1; omega)))
            have hcap4 : rn1 + sz ≤ rc1 := by omega
            clear hbQ hszq htkq hSne hbV1
            have HS4 := Lib.hid hs4
            have HFB4 := Lib.hid hfb4
            obtain ⟨q0, q1, q2, q3, q4, qf, qz4⟩ := HS4.out.cells
            have ht1' : ((rn1 : Int) + (sz : Int)).toNat = rn1 + sz := by omega
            have ht2' : (rn1 : Int) + (sz : Int) ≤ rc1 := by omega
            have ht3' : (0 : Int) ≤ (rn1 : Int) + (sz : Int) := by omega
            have ht4' : ¬ rc1 = rn1 := by omega
            have hm1 := nilR ⟨D, 0, none⟩
            have hm2 := methR ⟨D, 0, none⟩
            have hws2 : IntKind.i64.wrap ((rn1 : Int) + (sz : Int)) = (rn1 : Int) + (sz : Int) := by rw [IntKind.wrap_i64]; omega
            have HRD := fun (U : World) (hU : Below W4.heap.size W4 U) => Lib.hid (read_any D da1 dn1 dc1 rest1 ch QQ rn1 sz (rc1 - rn1) cs4 U (HS4.out.hD.below hU HS4.out.hD.lt) (HS4.out.hv.below hU (Nat.le_refl _)) (HB4.out.1.below hU HB4.out.1.lt) hd1 HS4.out.ch1 (by omega) (by have := HB4.out.2.1; omega) (fun x hx => by have h1 := HS4.out.dne x hx; exact ⟨h1.2.1, by have := h1.2.2.1; simp [blkOf] at this; exact fun e => this e.symm⟩))
            have q0d : W4.drew.cell? ⟨S, 0, none⟩ = some (.iface 124 (.pointer (some ⟨D, 0, none⟩))) := q0
            have q1d : W4.drew.cell? ⟨S, 1, none⟩ = some (.slice (some ⟨QQ, 0, none⟩) rn1 rc1) := q1
            have q3d : W4.drew.cell? ⟨S, 3, none⟩ = some (.int .i64 sz) := q3
            go_region_held3 (fun U => U.cell? ⟨S, 0, none⟩ = some (.iface 124 (.pointer (some ⟨D, 0, none⟩))) ∧ U.cell? ⟨S, 1, none⟩ = some (.slice (some ⟨QQ, 0, none⟩) rn1 rc1) ∧ U.cell? ⟨S, 3, none⟩ = some (.int .i64 sz)) (first | exact ⟨q0d, q1d, q3d⟩ | exact ⟨hS5.cell rfl, hS5.cell rfl, hS5.cell rfl⟩) (first | (go_at_call 110; refine ((HRD _ (Below.refl _ _).drew).out).mono ?_; rintro e w5 ⟨m, da', g1, g2, g3, rfl, g4, g5, g6, ⟨cs5, g7, g8, g9⟩, g10, g11⟩; have hS5 := g10.blk HS4.out.hS.drew (by rintro (e | e); exact HS4.out.sD e; exact HNE.out e)))
            have hgot := HS4.out.got m (by omega) g3 HB4.out.1 HB4.out.2.1 HB4.out.2.2 g4 g5 g6 g7 g8 g9 (Frm.trans (b := W4.drew) (Frm.refl W4 _) g10)
            have hbel := (Below.setCell (Below.setCell (Below.trans (b := W4.drew) (Below.refl B W4).drew (g11 B HS4.out.bD HBQ.out)) (p := ⟨S, 1, none⟩) HS4.out.bS (.slice (some ⟨QQ, 0, none⟩) (rn1 + m) rc1)) (p := ⟨S, 4, none⟩) HS4.out.bS Value.nilIface)
            have p0 := hS5.cell (i := 0) rfl
            have p1 := hS5.cell (i := 1) rfl
            have p4 := hS5.cell (i := 4) rfl
            have pf := fun i => hS5.frozen i
            have pz := hS5.lt
            have HG := Lib.hid hgot
            have HBE := Lib.hid hbel
            have HM := Lib.hid (And.intro g1 g3)
            have hmc : (rn1 : Int) + (m : Int) ≤ rc1 := by omega
            have hmrc1 : rn1 + m ≤ rc1 := by omega
            clear hgot hbel g4 g5 g6 g7 g8 g9 g10 g11 hS5 q0 q1 q2 q3 q4 qf q0d q1d q3d ht1' ht2' ht3' ht4' hws2
            go_wp2_with fail
            go_roundw
            case rel => exact ⟨some ⟨QQ, 0, none⟩, rn1 + m, rc1, room1 ++ rest1.take m, da', dn1 - m, dc1 - m, rest1.drop m, Lib.hid HG.out.1, Lib.hid (by rw [ht1.out]; simp), Lib.hid ⟨HFB4.out.1.trans2 HG.out.2, HFB4.out.2.trans HBE.out⟩⟩
            case measure =>
              have e1 := HRL.out
              have e2 := HG.out.1.cells.2.1
              have e3 : roomLen ((w5.setCell ⟨S, 1, none⟩ (.slice (some ⟨QQ, 0, none⟩) (rn1 + m) rc1)).setCell ⟨S, 4, none⟩ Value.nilIface) S = rn1 + m := by unfold roomLen; rw [e2]
              rw [e1, e3]
              omega
        · have hli : ¬ (rn1 : Int) < n := by omega
          go_wp2_with fail
          go_end0
          exact ⟨rfl, ⟨D, ra1, rn1, rc1, 0, sz, room1, da1, dn1, dc1, rest1, ch, hs1.out, by rw [List.drop_zero]; exact ht1.out, by omega⟩, hfb1.out.1, hfb1.out.2⟩
end Go.Proofs.YtfaangichifbgaaDoor
