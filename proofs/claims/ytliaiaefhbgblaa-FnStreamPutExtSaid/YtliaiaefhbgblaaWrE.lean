/- (*msgp.RawExtension)'s methods; (*msgp.Writer).WriteExtension. -/
import Derived.Test.YtliaiaefhbgblaaWrX
import Derived.Test.YtliaiaefhbgblaaWrS
import Derived.Test.YtliaiaefhbgblaaWrN
import Derived.Test.YtliaiaefhbgblaaTakeExt
namespace Go.Proofs.Ytliaiaefhbgblaa
open Go.RowKit
set_option linter.unusedVariables false
set_option linter.unusedSimpArgs false

theorem copyF {w : World} {ops : Array Oper} {rest : List Oper} {o : Oper} {a : Act} {Q : Exit → Act → World → Prop} (hgd : o.guard = none) (d s : Operand) (dT sT : TypeId)
    (ho : o.op = .call { callee := .builtin .copy, args := #[d, s], argTypes := #[dT, sT] }) (elem : TypeId) (hu : Try.prog.underlying dT = some (.slice elem)) (hsz : (Try.prog.info? elem).map (·.size) = some 1)
    (dp sp : Option Addr) (dLen dCap sLen sCap : Nat) (hd : a.eval d = .slice dp dLen dCap) (hs : a.eval s = .slice sp sLen sCap)
    (g off : Nat) (cur : List Value) (t : TypeId) (hg : Blk w g t cur.toArray) (cs : List Value) (hn : cs.length = Nat.min sLen dLen)
    (hpos : 0 < cs.length → dp = some ⟨g, off, none⟩ ∧ ∃ ad, sp = some ad ∧ ∀ j v, cs[j]? = some v → w.cell? (ad.add j) = some v)
    (hfit : off + cs.length ≤ cur.length) (h1 : ∀ v ∈ cs, v.oneCell' = true)
    (h : ∀ w', Blk w' g t (splice cur off cs).toArray → Frm w w' (fun b => b = g) → (∀ B, B ≤ g → Below B w w') → wpList Try.prog ops Q rest (a.put o.dst (.int .i64 cs.length)) w') : wpList Try.prog ops Q (o :: rest) a w := by
  refine wpList_plain hgd fun K hK => ?_
  by_cases h0 : cs.length = 0
  · obtain rfl : cs = [] := List.eq_nil_of_length_eq_zero h0
    have hrun := run_copy_none (P := Try.prog) w dT sT o.type elem dp sp dLen dCap sLen sCap hu hsz (by simpa using hn.symm)
    unfold Oper.wp
    simp [execOp, ho, resolve, invoke, builtin, hd, hs, hrun, Result.andThen]
    exact hK _ _ (h w (by simpa [splice] using hg) (Frm.refl _ _) (fun B _ => Below.refl _ _))
  · obtain ⟨rfl, ad, rfl, hsrc⟩ := hpos (by omega)
    have hrun := run_copy_row (P := Try.prog) w dT sT o.type elem g off dLen dCap ad sLen sCap cur.toArray t cs hu hsz hg hn hsrc (by simpa using hfit) h1
    unfold Oper.wp
    simp [execOp, ho, resolve, invoke, builtin, hd, hs, hrun, Result.andThen]
    exact hK _ _ (h _ (by have := setRow_heap w g cur.toArray (splice cur off cs).toArray t _ hg; simpa [splice, Blk] using this) ⟨by simp [World.setRow], fun b hb hne => setRow_other w g b _ hne⟩ (fun B hB => below_setRow (Below.refl _ _) hB _))

/-- The bytes of an extension copied to a place in a block. -/
def MarRes (g off dn : Nat) (dl : List Int) (cs : Array Value) (w : World) (e : Ending) (w' : World) : Prop :=
  e = .returned Value.nilIface ∧ (∃ cs', Blk w' g 5 cs' ∧ cs'.size = cs.size ∧ cs'.toList.take (off + dn) = cs.toList.take off ++ bytesV dl) ∧ Frm w w' (fun b => b = g) ∧ ∀ B, B ≤ g → Below B w w'

set_option maxHeartbeats 1000000 in
theorem marshal_any (R : Nat) (da : Option Addr) (dn dc : Nat) (dl : List Int) (t : Int) (dp : Option Addr) (dLen dCap g off : Nat) (cs : Array Value) (w : World) (hR : Blk w R 61 #[.slice da dn dc, .int .i8 t]) (hv : Vw w da dn dc dl)
    (hG : Blk w g 5 cs) (hle : dn ≤ dLen) (hdp : 0 < dn → dp = some ⟨g, off, none⟩) (hfit : off + dn ≤ cs.size) :
    Calls Try.prog 76 #[.pointer (some ⟨R, 0, none⟩), .slice dp dLen dCap] w (MarRes g off dn dl cs w) := by
  have c0 := hR.cell (i := 0) rfl
  have hRl := hR.lt
  have hlen := hv.len
  have hG' : Blk w g 5 cs.toList.toArray := by simpa using hG
  have HG := Lib.hid hG'
  have HV := Lib.hid hv
  have HF := Lib.hid hfit
  have HL := Lib.hid hlen
  have HP := Lib.hid hdp
  have HLE := Lib.hid hle
  clear hR hv hG hG' hlen hdp hfit hle
  go_enter Try.func76, Try.ntmps76
  go_wp2_with (refine copyF (by rfl) (.tmp 5) (.tmp 9) 23 23 (by rfl) 5 Try.underlying23 one8 dp da dLen dCap dn dc (by simp [Act.eval]) (by simp [Act.eval]) g off cs.toList 5 HG.out (bytesV dl) (by rw [show (bytesV dl).length = dn by simp [bytesV, HL.out]]; exact (Nat.min_eq_left HLE.out).symm) (fun h => ⟨HP.out (by simpa [bytesV, HL.out] using h), HV.out.src h⟩) (by have := HF.out; simp [bytesV, HL.out]; omega) (by intro v hv; simp [bytesV] at hv; obtain ⟨q, _, rfl⟩ := hv; rfl) ?_; intro w1 hG1 hf1 hb1)
  go_ret
  have hbl : (bytesV dl).length = dn := by simp [bytesV, HL.out]
  refine ⟨rfl, ⟨_, hG1, ?_, ?_⟩, hf1, hb1⟩
  · have := length_splice cs.toList off (bytesV dl) (by have := HF.out; rw [hbl]; simpa using this)
    simpa using this
  · have := take_splice cs.toList off (bytesV dl) (by have := HF.out; simp; omega)
    rw [hbl] at this
    simpa using this

theorem nilX (m : String) (hm : m = "Len" ∨ m = "ExtensionType" ∨ m = "MarshalBinaryTo") (a : Addr) (w : World) : (nilAhead 223 58 (.pointer (some a)) m).run Try.prog w = .ok (some false) w := by
  rcases hm with rfl | rfl | rfl <;> kernel_rfl
theorem methL (a : Addr) (w : World) : (method 223 58 (.pointer (some a)) "Len").run Try.prog w = .ok (75, .pointer (some a)) w := by kernel_rfl
theorem methE (a : Addr) (w : World) : (method 223 58 (.pointer (some a)) "ExtensionType").run Try.prog w = .ok (74, .pointer (some a)) w := by kernel_rfl
theorem methM (a : Addr) (w : World) : (method 223 58 (.pointer (some a)) "MarshalBinaryTo").run Try.prog w = .ok (76, .pointer (some a)) w := by kernel_rfl

set_option maxHeartbeats 1000000 in
theorem bufsize_any (B : Nat) (K : Nat → Prop) (W T G : Nat) (ta : Option Addr) (tn tc : Nat) (out : List Int) (cs : Array Value) (sz wl : Nat) (pre : List Int) (w : World) (hw : Wrs w B K W T G ta tn tc out cs sz wl pre) :
    Calls Try.prog 44 #[.pointer (some ⟨W, 0, none⟩)] w fun e w' => e = .returned (.int .i64 (sz : Int)) ∧ w = w' := by
  obtain ⟨q0, q1, q2, qf, qz⟩ := hw.cells
  go_enter Try.func44, Try.ntmps44
  go_wp2_with fail
  go_ret
  exact ⟨rfl, rfl⟩

theorem Vw.lt_of {w : World} {a : Option Addr} {n c : Nat} {l : List Int} (h : Vw w a n c l) (x : Addr) (hx : a = some x) (h0 : n ≠ 0) : x.block < w.heap.size := by
  rcases h.cells with e | ⟨b, off, ha, hc⟩
  · exact absurd e h0
  · rw [hx] at ha; injection ha with ha; subst ha
    exact World.block_lt_of_cell? w _ (hc 0 (by omega))
/-- A slice whose block is as it was, where it has bytes. -/
theorem vw_live {w w' : World} {a : Option Addr} {n c : Nat} {l : List Int} (h : Vw w a n c l) (hk : ∀ x, a = some x → n ≠ 0 → w'.heap[x.block]? = w.heap[x.block]?) : Vw w' a n c l := by
  refine ⟨h.len, h.cap, h.big, h.byt, h.nul, ?_⟩
  rcases h.cells with h0 | ⟨g, off, ha, hx⟩
  · exact .inl h0
  · by_cases h0 : n = 0
    · exact .inl h0
    refine .inr ⟨g, off, ha, fun i hi => ?_⟩
    have e : w'.heap[(⟨g, off + i, none⟩ : Addr).block]? = w.heap[(⟨g, off + i, none⟩ : Addr).block]? := hk ⟨g, off, none⟩ ha h0
    rw [World.cell?_of_block e]
    exact hx i hi

/-- What WriteExtension leaves: the Writer's buffer may be another one. -/
def WxRes (B : Nat) (K : Nat → Prop) (W : Nat) (tot : List Int) (w : World) (e : Ending) (w' : World) : Prop :=
  e = .returned Value.nilIface ∧ (∃ sz wl, Wr w' B (fun b => K b ∨ w.heap.size ≤ b) W sz wl tot) ∧ Frm w w' K ∧ Below B w w'

set_option maxRecDepth 100000 in
set_option maxHeartbeats 4000000 in
theorem wext_any (R : Nat) (da : Option Addr) (dn dc : Nat) (dl : List Int) (t : Int) (hdr : List Int) (hhl : hdr.length ≤ 6) (hdn : dn ≤ 1000000)
    (HH : ∀ (B : Nat) (K : Nat → Prop) (W sz wl : Nat) (tot : List Int) (w : World), Wr w B K W sz wl tot → tot.length ≤ 1099511627776 → Calls Try.prog 43 #[.pointer (some ⟨W, 0, none⟩), .int .i64 (dn : Int), .int .i8 t] w (WrRes B K W sz (tot ++ hdr) w))
    (B : Nat) (K : Nat → Prop) (W sz wl : Nat) (tot : List Int) (w : World) (h : Wr w B K W sz wl tot) (hn : tot.length ≤ 1000000000000) (hR : Blk w R 61 #[.slice da dn dc, .int .i8 t]) (hRk : ¬ K R) (hv : Vw w da dn dc dl) (hvk : ∀ x, da = some x → ¬ K x.block) :
    Calls Try.prog 27 #[.pointer (some ⟨W, 0, none⟩), .iface 58 (.pointer (some ⟨R, 0, none⟩))] w (WxRes B K W (tot ++ (hdr ++ dl)) w) := by
  have HC := Lib.hid (HH B K W sz wl tot w h (by omega))
  have c0 := hR.cell (i := 0) rfl
  have c1 := hR.cell (i := 1) rfl
  have hRl := hR.lt
  have m0 := nilX "Len" (by simp) ⟨R, 0, none⟩
  have m1 := nilX "ExtensionType" (by simp) ⟨R, 0, none⟩
  have m2 := nilX "MarshalBinaryTo" (by simp) ⟨R, 0, none⟩
  have m3 := methL ⟨R, 0, none⟩
  have m4 := methE ⟨R, 0, none⟩
  have m5 := methM ⟨R, 0, none⟩
  have HR := Lib.hid hR
  have HV := Lib.hid hv
  have HVK := Lib.hid hvk
  have HRK := Lib.hid hRk
  have HN := Lib.hid (And.intro hn hhl)
  clear HH h hn hR hv hvk hRk hhl
  go_enter Try.func27, Try.ntmps27
  go_wp2_with (first | (go_at_call 75; go_in) | (go_at_call 74; go_in))
  refine HC.out.mono ?_
  rintro e w1 ⟨rfl, ⟨wl1, hw1⟩, hf1, hb1⟩
  have HR1 := Lib.hid (hf1.blk HR.out HRK.out)
  have HV1 := Lib.hid (hf1.vw HV.out HVK.out)
  obtain ⟨G1, ta1, tn1, tc1, out1, cs1, pre1, hws1, ht1⟩ := hw1
  have HW1 := Lib.hid hws1
  have HT1 := Lib.hid ht1
  have HF1 := Lib.hid (And.intro hf1 hb1)
  clear hws1 ht1 hf1 hb1 c0 c1
  go_wp2_with fail
  refine (bufsize_any _ _ _ _ _ _ _ _ _ _ _ _ _ w1 HW1.out).mono ?_
  rintro e w1' ⟨rfl, rfl⟩
  by_cases hle : dn ≤ sz
  · have hle2 : (dn : Int) ≤ sz := by omega
    have HQ := Lib.hid (require_any B _ W sz wl1 (tot ++ hdr) dn hle w1 ⟨G1, ta1, tn1, tc1, out1, cs1, pre1, HW1.out, HT1.out⟩ (by have := HN.out; simp; omega))
    go_wp2_with fail
    refine HQ.out.mono ?_
    rintro e V ⟨w2, G, ta, tn, tc, out, cs, wl2, pre, rfl, hw2, ht2, hfit, hV, hf2, hb2, hBl2⟩
    have hz0 := hw2.sz0
    obtain ⟨ac, hsl, hac⟩ := run_from' (T := 23) (E := 5) Try.underlying23 size8 G sz wl2 (by omega) hz0
    obtain ⟨q1, hG, hWG, hGW, hGl, hWl⟩ := req_cells hw2 (.int .i64 ((wl2 + dn : Nat) : Int))
    have hsz12 := hf2.1
    have hRV : Blk V R 61 #[.slice da dn dc, .int .i8 t] := by
      have h1 := hf2.blk HR1.out (by rintro (e | e); exact HRK.out e; omega)
      rw [hV]
      exact h1.other (fun e => by have := h1.ne hw2.hW (by decide); exact this e) _
    have hvV : Vw V da dn dc dl := by
      refine vw_live HV1.out (fun x hx h0 => ?_)
      have hlt : x.block < w.heap.size := HV.out.lt_of x hx h0
      have hnk := HVK.out x hx
      have hnW : x.block ≠ W := by rintro e; rcases HW1.out.kW with k | k; exact hnk (by rw [e]; exact k); omega
      rw [hV, Below.heap_setCell _ _ _ _ (by simpa using hnW)]
      exact hf2.2 _ (by have := HF1.out.1.1; omega) (by rintro (e | e); exact hnk e; omega)
    rw [← hV] at q1 hG hGl hWl
    have HVE := Lib.hid hV
    have HW2 := Lib.hid hw2
    have HT2 := Lib.hid ht2
    have HX2 := Lib.hid (And.intro hf2 (And.intro hb2 hBl2))
    have HM := fun (U : World) (hU : Below V.heap.size V U) => Lib.hid (marshal_any R da dn dc dl t ac (sz - wl2) (sz - wl2) G wl2 cs U (hRV.below hU hRV.lt) (hvV.below hU (Nat.le_refl _)) (hG.below hU hG.lt) (by omega) (fun h => hac (by omega)) (by have := hw2.hs; omega))
    clear hV hw2 ht2 hf2 hb2 hBl2 hRV hvV hG hac
    go_wp2_with fail
    have q1d : V.drew.cell? ⟨W, 1, none⟩ = some (.slice (some ⟨G, 0, none⟩) sz sz) := q1
    go_region_held3 (fun U => U.cell? ⟨W, 1, none⟩ = some (.slice (some ⟨G, 0, none⟩) sz sz)) (first | exact q1d | exact hW3) (first | (go_at_call 76; refine ((HM _ (Below.refl _ _).drew).out).mono ?_; rintro e w3 ⟨rfl, hc3, hfr3, hbl3⟩; have hW3 : w3.cell? ⟨W, 1, none⟩ = some (.slice (some ⟨G, 0, none⟩) sz sz) := by rw [World.cell?_of_block (w := V.drew) (hfr3.2 W (by simpa using hWl) hWG)]; exact q1d))
    obtain ⟨cs3, hc31, hc32, hc33⟩ := hc3
    have HC3 := Lib.hid (And.intro hc31 (And.intro hc32 hc33))
    have HF3 := Lib.hid (And.intro hfr3 hbl3)
    clear hc31 hc32 hc33 hfr3 hbl3 hsl q1 q1d hW3
    go_wp2_with fail
    go_ret
    obtain ⟨hc31, hc32, hc33⟩ := HC3.out
    obtain ⟨hf2, hb2, hBl2⟩ := HX2.out
    have hF := HF3.out.1
    have hB := HF3.out.2 B HW2.out.bG
    have hF' : Frm V w3 (fun b => b = G) := Frm.trans (b := V.drew) (Frm.refl V _) hF
    have hB' : Below B V w3 := Below.trans (b := V.drew) (Below.refl B V).drew hB
    rw [HVE.out] at hF' hB'
    have hfin := req_fin HW2.out HT2.out dl HV.out.byt dn HV.out.len hfit hf2 hb2 hBl2 hc31 hc32 hc33 hF' hB'
    obtain ⟨_, ⟨wl9, h9⟩, hf9, hb9⟩ := hfin
    refine ⟨rfl, ⟨sz, wl9, ?_⟩, HF1.out.1.trans2 hf9, HF1.out.2.trans hb9⟩
    have := h9.mono (K' := fun b => K b ∨ w.heap.size ≤ b) (fun b h => by rcases h with h | h; exact h; exact .inr (Nat.le_trans HF1.out.1.1 h))
    simpa using this
  · have hle2 : ¬ (dn : Int) ≤ sz := by omega
    have HF := Lib.hid (flush_any B _ W B G1 ta1 tn1 tc1 out1 cs1 sz wl1 pre1 w1 HW1.out (by rw [← HT1.out]; have := HN.out; simp; omega))
    have hmk := make8 dn (by omega)
    go_wp2_with fail
    refine HF.out.mono ?_
    rintro e w2 ⟨rfl, ⟨ta, tn, tc, hw2⟩, hf2, hb2⟩
    have hsz12 := hf2.1
    have hRW : R ≠ W := fun e => HR1.out.ne HW1.out.hW (by decide) e
    have hR2 := hf2.blk HR1.out (by rintro (e | e); exact HRK.out e; have := HF1.out.1.1; omega)
    have hv2 : Vw w2 da dn dc dl := by
      refine vw_live HV1.out (fun x hx h0 => ?_)
      have hlt : x.block < w.heap.size := HV.out.lt_of x hx h0
      have hnk := HVK.out x hx
      exact hf2.2 _ (by have := HF1.out.1.1; omega) (by rintro (e | e); exact hnk e; omega)
    have hB2 : B ≤ w2.heap.size := by have := hw2.bW; have := hw2.hW.lt; omega
    have HM := fun (U : World) (hU : Below w2.heap.size w2 U) (hG : Blk U w2.heap.size 5 (madeCells #[.int .u8 0] dn)) => Lib.hid (marshal_any R da dn dc dl t (some ⟨w2.heap.size, 0, none⟩) dn dn w2.heap.size 0 (madeCells #[.int .u8 0] dn) U (hR2.below hU hR2.lt) (hv2.below hU (Nat.le_refl _)) hG (Nat.le_refl _) (fun _ => rfl) (by simp [madeCells]))
    have hWl2 := hw2.hW.lt
    have HW2 := Lib.hid hw2
    have HX2 := Lib.hid (And.intro hf2 hb2)
    clear hw2 hf2 hb2 hR2 hv2
    go_wp2_with fail
    refine (HM _ ((Below.refl _ _).alloc (Nat.le_refl _) _) (Blk.new _ _ _)).out.mono ?_
    rintro e w3 ⟨rfl, ⟨cs3, hc31, hc32, hc33⟩, hfr3, hbl3⟩
    have hW3 : Blk w3 W 92 _ := hfr3.blk (HW2.out.hW.alloc _) (by omega)
    have q0 := hW3.cell (i := 0) rfl
    have q1 := hW3.cell (i := 1) rfl
    have q2 := hW3.cell (i := 2) rfl
    have qf := fun i => hW3.frozen i
    have hWl3 := hW3.lt
    have HC3 := Lib.hid (And.intro hc31 (And.intro hc32 hc33))
    have HF3 := Lib.hid (And.intro hfr3 hbl3)
    have HW3 := Lib.hid hW3
    clear hc31 hc32 hc33 hfr3 hbl3 hW3
    go_wp2_with fail
    go_ret
    obtain ⟨hc31, hc32, hc33⟩ := HC3.out
    obtain ⟨hf2, hb2⟩ := HX2.out
    obtain ⟨hfr3, hbl3⟩ := HF3.out
    have hq := HW2.out
    have hTl := hq.hT.lt
    have hT3 := hfr3.blk (hq.hT.alloc _) (by omega)
    have hO3 : O8 w3 B ta tn tc (out1 ++ pre1) := (hq.hO.alloc _).kept fun g cur ha hB => hfr3.blk hB (fun e => by
      have := hq.hO.lt8 g (by rw [ha]; rfl)
      omega)
    have hWG : W ≠ w2.heap.size := by omega
    have hOW : ∀ x, ta = some x → x.block ≠ W := fun x hx e => hq.hO.neT hq.hW (by decide) (by rw [hx]; simp [blkOf, e])
    have hO4 := (hO3.setLt (p := ⟨W, 1, none⟩) (fun x hx e => hOW x hx (by simpa using e)) (.slice (some ⟨w2.heap.size, 0, none⟩) dn dn)).setLt (p := ⟨W, 2, none⟩) (fun x hx e => hOW x hx (by simpa using e)) (.int .i64 dn)
    have kk : ∀ b, ((K b ∨ w.heap.size ≤ b) ∨ w1.heap.size ≤ b) → K b ∨ w.heap.size ≤ b := fun b h => by rcases h with h | h; exact h; exact .inr (Nat.le_trans HF1.out.1.1 h)
    have hfin : Wrs ((w3.setCell ⟨W, 1, none⟩ (.slice (some ⟨w2.heap.size, 0, none⟩) dn dn)).setCell ⟨W, 2, none⟩ (.int .i64 dn)) B (fun b => K b ∨ w.heap.size ≤ b) W B w2.heap.size ta tn tc (out1 ++ pre1) cs3 dn dn dl :=
      { hT := ((hT3.other (p := ⟨W, 1, none⟩) hq.tW _).other (p := ⟨W, 2, none⟩) hq.tW _), hO := hO4, hW := ((HW3.out.set 1 _).set 2 _), hG := ((hc31.other (p := ⟨W, 1, none⟩) (by simpa using Ne.symm hWG) _).other (p := ⟨W, 2, none⟩) (by simpa using Ne.symm hWG) _), hs := (by rw [hc32]; simp [madeCells]), hwl := Nat.le_refl _, hp := HV.out.len, hb := HV.out.byt, hc := (by simpa using hc33), s18 := (by have := hq.s18; omega), sz0 := (by omega), bT := hq.bT, bW := hq.bW, bG := hB2, kT := kk _ hq.kT, kW := kk _ hq.kW, kG := .inr (by have := HF1.out.1.1; omega), kO := (fun b hb => kk _ (hq.kO b hb)), gO := (fun e => by have := hq.hO.lt8 _ e; omega) }
    refine ⟨rfl, ⟨dn, dn, w2.heap.size, ta, tn, tc, out1 ++ pre1, cs3, dl, hfin, by rw [← HT1.out]; simp⟩, ?_, ?_⟩
    · have h12 := HF1.out.1.trans2 hf2
      refine ⟨Nat.le_trans h12.1 (by have := hfr3.1; simp at this ⊢; omega), fun b hb1 hnb => ?_⟩
      have hbW : b ≠ W := by rintro rfl; rcases HW1.out.kW with k | k; exact hnb k; omega
      have hlt2 := Nat.lt_of_lt_of_le hb1 h12.1
      rw [Below.heap_setCell _ _ _ _ (by simpa using hbW), Below.heap_setCell _ _ _ _ (by simpa using hbW), hfr3.2 b (by simp; omega) (by omega), Below.heap_alloc _ _ _ hlt2]
      exact h12.2 b hb1 hnb
    · refine Below.setCell (Below.setCell ?_ (p := ⟨W, 1, none⟩) hq.bW _) (p := ⟨W, 2, none⟩) hq.bW _
      exact (HF1.out.2.trans hb2).trans (Below.trans ((Below.refl _ _).alloc hB2 _) (hbl3 B hB2))
end Go.Proofs.Ytliaiaefhbgblaa
