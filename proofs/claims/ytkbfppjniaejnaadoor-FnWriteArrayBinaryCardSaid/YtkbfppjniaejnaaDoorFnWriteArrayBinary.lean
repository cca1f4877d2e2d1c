/- Arrays of binaries: encoding.arrayBinary.Marshal, impl.WriteArrayBinary, the walk of laws.FnWriteArrayBinary. -/
import Derived.Test.YtkbfppjniaejnaaDoorBin
namespace Go.Proofs.YtkbfppjniaejnaaDoor
open Go.RowKit
set_option linter.unusedVariables false
set_option linter.unusedSimpArgs false

abbrev Sl := Option Addr × Nat × Nat
def sv (s : Sl) : Value := .slice s.1 s.2.1 s.2.2
/-- Slices of bytes that read as texts. -/
def BRow (W : World) (ss : List Sl) (ts : List ByteArray) : Prop := ss.length = ts.length ∧ ∀ i (h : i < ts.length), ∃ b c, ss[i]? = some (some ⟨b, 0, none⟩, ts[i].size, c) ∧ Vw W (some ⟨b, 0, none⟩) ts[i].size c (ints ts[i])
theorem BRow.below {W W' : World} {ss : List Sl} {ts : List ByteArray} (h : BRow W ss ts) (hb : Below W.heap.size W W') : BRow W' ss ts :=
  ⟨h.1, fun i hi => by obtain ⟨a, c, e, hv⟩ := h.2 i hi; exact ⟨a, c, e, Vw.below hb (Nat.le_refl _) hv⟩⟩
theorem BRow.snoc {W : World} {ss : List Sl} {ts : List ByteArray} (h : BRow W ss ts) {b : Nat} {c : Nat} {t : ByteArray} (hv : Vw W (some ⟨b, 0, none⟩) t.size c (ints t)) : BRow W (ss ++ [(some ⟨b, 0, none⟩, t.size, c)]) (ts ++ [t]) := by
  refine ⟨by simp [h.1], fun i hi => ?_⟩
  by_cases hl : i < ts.length
  · obtain ⟨a', c', e, hv'⟩ := h.2 i hl
    refine ⟨a', c', ?_, ?_⟩
    · rw [List.getElem?_append_left (by rw [h.1]; exact hl), e, List.getElem_append_left hl]
    · rw [List.getElem_append_left hl]; exact hv'
  · obtain rfl : i = ts.length := by simp at hi; omega
    refine ⟨b, c, ?_, ?_⟩
    · rw [List.getElem?_append_right (by rw [h.1]; exact Nat.le_refl _)]; simp [h.1]
    · simpa using hv

theorem Vw.grown {W W' : World} {a : Option Addr} {n c : Nat} {l : List Int} {row : Option Nat} (h : Vw W a n c l) (hg : W.grownBy W' row) (hne : 0 < n → ∀ x, a = some x → row ≠ some x.block) : Vw W' a n c l := by
  refine ⟨h.len, h.cap, h.big, h.byt, h.nul, ?_⟩
  rcases h.cells with h0 | ⟨b, off, ha, hx⟩
  · exact .inl h0
  · by_cases h0 : n = 0
    · exact .inl h0
    · refine .inr ⟨b, off, ha, fun i hi => ?_⟩
      have hc := hx i hi
      have hbl : b < W.heap.size := World.block_lt_of_cell? W _ hc
      rw [← hc]
      exact World.cell?_of_block (hg.block b hbl (fun e => hne (by omega) _ ha e.symm))
theorem BRow.grown {W W' : World} {ss : List Sl} {ts : List ByteArray} (h : BRow W ss ts) {B E : Nat} {a : Option Addr} {n c : Nat} (hown : W.ownsRow B E 1 (.slice a n c) n (ss.map sv)) (hg : W.grownBy W' (Value.ownBlock (.slice a n c))) : BRow W' ss ts := by
  refine ⟨h.1, fun i hi => ?_⟩
  obtain ⟨b, c', e, hv⟩ := h.2 i hi
  refine ⟨b, c', e, hv.grown hg fun h0 x hx => ?_⟩
  injection hx with hx
  subst hx
  intro hrow
  rcases hv.cells with h1 | ⟨b2, off, ha, hc⟩
  · omega
  · obtain ⟨rfl, rfl⟩ : b = b2 ∧ 0 = off := by injection ha with ha; injection ha with h1 h2; exact ⟨h1, h2⟩
    have hc0 := hc 0 h0
    rcases hown.2 with ⟨hn, hn0⟩ | ⟨g, cap, cur, hva, hgB, hh, hnc, hcm, hcs, ht⟩
    · have := hown.1; rw [hn0] at this; simp at this; subst this; simp at e
    · injection hva with hva
      subst hva
      simp [Value.ownBlock] at hrow
      subst hrow
      have hl0 : 0 < ss.length := by rw [h.1]; omega
      have hq : (ss.map sv)[0]? = some (sv ss[0]) := by simp [hl0]
      rw [← ht, List.getElem?_take] at hq
      split at hq
      · have := cell_of_row W g 0 cur E (0, 0) hh
        simp at hq hc0 this
        rw [this, hq] at hc0
        simp [sv] at hc0
      · cases hq

/-- What zzFits2 tells. -/
def Fits2 (m : Nat) (w : World) (e : Ending) (w' : World) : Prop := ∃ b : Bool, e = .returned (.bool b) ∧ (b = true → m ≤ 2147483647) ∧ w = w'

def tot (ts : List ByteArray) : Nat := (ts.map (·.size)).sum
def lwOf (ts : List ByteArray) : Bool := ts.any fun t => decide (255 < t.size)
def elsB (lw : Bool) (ts : List ByteArray) : Els := ts.map (elB lw)

theorem take_snoc_ {α : Type} (xs : List α) (j : Nat) (h : j < xs.length) : xs.take (j + 1) = xs.take j ++ [xs[j]] := List.take_succ_eq_append_getElem h
theorem tot_snoc (ts : List ByteArray) (j : Nat) (h : j < ts.length) : tot (ts.take (j + 1)) = tot (ts.take j) + ts[j].size := by
  unfold tot; rw [take_snoc_ ts j h, List.map_append, List.sum_append]; simp
theorem lwOf_snoc (ts : List ByteArray) (j : Nat) (h : j < ts.length) : lwOf (ts.take (j + 1)) = (lwOf (ts.take j) || decide (255 < ts[j].size)) := by
  unfold lwOf; rw [take_snoc_ ts j h, List.any_append]; simp
theorem tot_le (ts : List ByteArray) (h : ∀ t ∈ ts, t.size ≤ 4096) : tot ts ≤ ts.length * 4096 := by
  induction ts with
  | nil => simp [tot]
  | cons t ts ih =>
    have := ih fun x hx => h x (by simp [hx])
    have := h t (by simp)
    simp [tot] at *
    omega
theorem elsB_len (lw : Bool) (ts : List ByteArray) : (elsB lw ts).length = ts.length := by simp [elsB]
theorem elB_len (lw : Bool) (t : ByteArray) : (elB lw t).1.length = t.size + lws lw := by cases lw <;> simp [elB, binE, lws, ints_length] <;> omega
theorem flatB_len (lw : Bool) (ts : List ByteArray) : (flat (elsB lw ts)).length = tot ts + ts.length * lws lw := by
  induction ts with
  | nil => simp [flat, elsB, tot]
  | cons t ts ih =>
    have := elB_len lw t
    simp only [flat, elsB, tot, List.map_cons, List.flatMap_cons, List.length_append, List.sum_cons, List.length_cons, Nat.succ_mul] at *
    omega
theorem flatB_snoc (lw : Bool) (ts : List ByteArray) (j : Nat) (h : j < ts.length) : flat (elsB lw (ts.take (j + 1))) = flat (elsB lw (ts.take j)) ++ (elB lw ts[j]).1 := by
  unfold flat elsB
  rw [take_snoc_ ts j h, List.map_append, List.flatMap_append]
  simp only [List.map_cons, List.map_nil, List.flatMap_cons, List.flatMap_nil, List.append_nil]
theorem kidsB_snoc (lw : Bool) (ts : List ByteArray) (j : Nat) (h : j < ts.length) : kidsV 18 (elsB lw (ts.take (j + 1))) = kidsV 18 (elsB lw (ts.take j)) ++ kid 18 0 ts[j] := by
  unfold kidsV elsB
  rw [take_snoc_ ts j h, List.map_append, List.flatMap_append]
  simp only [List.map_cons, List.map_nil, List.flatMap_cons, List.flatMap_nil, List.append_nil, elB]
theorem lwOf_false (ts : List ByteArray) (h : lwOf ts = false) : ∀ t ∈ ts, t.size < 256 := by
  intro t ht
  unfold lwOf at h
  rw [List.any_eq_false] at h
  have := h t ht
  simp at this
  omega
theorem Rd.str_at {w : World} {a : Option Addr} {ts : List ByteArray} (h : Rd w a (ts.map Value.string)) (j : Nat) (hj : j < ts.length) : ∃ b off, a = some ⟨b, off, none⟩ ∧ w.cell? ⟨b, off + j, none⟩ = some (.string ts[j]) := by
  rcases h with h | ⟨b, off, ha, hx⟩
  · rw [List.map_eq_nil_iff] at h; subst h; simp at hj
  · exact ⟨b, off, ha, hx j _ (by simp [hj])⟩
theorem Rd.sv_at {w : World} {a : Option Addr} {ss : List Sl} (h : Rd w a (ss.map sv)) (j : Nat) (s : Sl) (hj : ss[j]? = some s) : ∃ b off, a = some ⟨b, off, none⟩ ∧ w.cell? ⟨b, off + j, none⟩ = some (sv s) := by
  rcases h with h | ⟨b, off, ha, hx⟩
  · rw [List.map_eq_nil_iff] at h; subst h; simp at hj
  · exact ⟨b, off, ha, hx j _ (by simp [hj])⟩

set_option maxRecDepth 100000 in
set_option maxHeartbeats 8000000 in
theorem marshalB (ts : List ByteArray) (hts : ∀ t ∈ ts, t.size ≤ 4096) (hm : ts.length ≤ 1000) (wb : World) (ss : List Sl) (a : Option Addr) (c : Nat) (hr : Rd wb a (ss.map sv)) (hB : BRow wb ss ts) (g : Nat) (hg : wb.heap.size ≤ g) (w : World) (hbw : Below wb.heap.size wb w) (hb : Bf w g []) :
    Calls Tryd.prog 39 #[.slice a ts.length c, .pointer (some ⟨g, 0, none⟩)] w fun e w' => e = .returned .nilIface ∧ Bf w' g (arrHd (lwz (lwOf ts)) ts.length (flat (elsB (lwOf ts) ts)).length ++ flat (elsB (lwOf ts) ts)) ∧ Below g w w' := by
  have hta := tot_le ts hts
  have htj : ∀ j, tot (ts.take j) ≤ 4096000 := fun j => by
    have := tot_le (ts.take j) fun t ht => hts t (List.mem_of_mem_take ht)
    have h2 : (ts.take j).length ≤ 1000 := by rw [List.length_take]; omega
    omega
  obtain ⟨m, hmm⟩ : ∃ m, m = ts.length := ⟨_, rfl⟩
  have hfl := flatB_len (lwOf ts) ts
  rw [← hmm] at hm hfl hta ⊢
  obtain ⟨q, hq⟩ : ∃ q, q = tot ts := ⟨_, rfl⟩
  obtain ⟨s, hs⟩ : ∃ s, s = (flat (elsB (lwOf ts) ts)).length := ⟨_, rfl⟩
  rw [← hq, ← hs] at hfl
  rw [← hq] at hta
  rw [← hs]
  have hhl := arrHd_len (lwz (lwOf ts)) m s
  have HM := Lib.hid hmm
  have HQ := Lib.hid hq
  have HF := Lib.hid hfl
  have HS := Lib.hid hs
  have HT := Lib.hid hts
  clear hmm hq hfl hs hts
  go_enter Tryd.func39, Tryd.ntmps39
  go_wp2_with fail
  go_loop [5, 6, 15] (fun z u i => ∃ j, j ≤ m ∧ i = .int .i64 j ∧ u = .int .i64 (tot (ts.take j)) ∧ z = .int .u8 (lwz (lwOf (ts.take j)))) (fun _ _ i => m - (intOf i).toNat)
  case atStart => exact ⟨0, Nat.zero_le _, rfl, by simp [tot], by simp [lwOf, lwz]⟩
  case round =>
    obtain ⟨j, hj, rfl, rfl, rfl⟩ := hrel
    by_cases hlt : j < m
    · have hje : j < ts.length := by rw [← HM.out]; exact hlt
      obtain ⟨t, ht⟩ : ∃ t, t = ts[j] := ⟨_, rfl⟩
      obtain ⟨b1, c1, hsj, hvj⟩ := hB.2 j hje
      obtain ⟨b, off, rfl, hc0⟩ := hr.sv_at j _ hsj
      rw [← ht] at hc0
      have hbl := World.block_lt_of_cell? wb _ hc0
      have hcx : w.cell? ⟨b, off + j, none⟩ = some (.slice (some ⟨b1, 0, none⟩) t.size c1) := by rw [hbw.cell (p := ⟨b, off + j, none⟩) hbl]; exact hc0
      have hts := tot_snoc ts j hje
      have hls := lwOf_snoc ts j hje
      rw [← ht] at hts hls
      have hjb := htj j
      have hsz := HT.out t (by rw [ht]; exact List.getElem_mem hje)
      have H1 := Lib.hid hts
      have H2 := Lib.hid hls
      have H3 := Lib.hid ht
      clear hts hls ht hsj hvj hc0
      by_cases hbig : 255 < t.size
      · have d1 : decide ((t.size : Int) > 255) = true := by simp; omega
        have d2 : decide (255 < t.size) = true := by simpa using hbig
        go_wp2_with fail
        go_round
        case rel => exact ⟨j + 1, by omega, by go_num, by rw [H1.out]; go_num, by rw [H2.out, d2]; simp [lwz]⟩
        case measure => simp [intOf]; omega
      · have d1 : decide ((t.size : Int) > 255) = false := by simp; omega
        have d2 : decide (255 < t.size) = false := by simpa using hbig
        go_wp2_with fail
        go_round
        case rel => exact ⟨j + 1, by omega, by go_num, by rw [H1.out]; go_num, by rw [H2.out, d2]; simp⟩
        case measure => simp [intOf]; omega
    · obtain rfl : j = m := by omega
      have et : ts.take j = ts := List.take_of_length_le (by rw [← HM.out]; exact Nat.le_refl _)
      rw [et, ← HQ.out]
      obtain ⟨lw, hlw⟩ : ∃ lw, lw = lwOf ts := ⟨_, rfl⟩
      rw [← hlw] at hhl HF HS
      rw [← hlw]
      have HL := Lib.hid hlw
      clear et hlw
      have hfj : ∀ i, (flat (elsB lw (ts.take i))).length ≤ 4100000 := fun i => by
        rw [flatB_len]
        have := htj i
        have h2 : (ts.take i).length ≤ 1000 := by rw [List.length_take]; have := HM.out; omega
        have h3 : lws lw ≤ 4 := by cases lw <;> simp [lws]
        have h4 := Nat.mul_le_mul h2 h3
        generalize (ts.take i).length * lws lw = p at h4 ⊢
        omega
      go_wp2_with fail
      refine (varHead_buf lw g _ hb j q s (by omega) (by omega) HF.out).mono ?_
      rintro e w1 ⟨rfl, hb1, hl1⟩
      obtain ⟨hd, hhd⟩ : ∃ hd, hd = arrHd (lwz lw) j s := ⟨_, rfl⟩
      rw [← hhd] at hb1 hhl
      have HD := Lib.hid hhd
      clear hhd
      have hbw1 : Below wb.heap.size wb w1 := hbw.trans (hl1.mono hg)
      cases lw with
      | true =>
        have hz176 : lwz true = 176 := rfl
        go_wp2_with fail
        go_loopw [37] (fun i wr => ∃ k, k ≤ j ∧ i = .int .i64 k ∧ Bf wr g (hd ++ flat (elsB true (ts.take k))) ∧ Below g w wr) (fun i _ => j - (intOf i).toNat)
        case atStart => exact ⟨0, Nat.zero_le _, rfl, by simpa [elsB, flat] using hb1, hl1⟩
        case round =>
          obtain ⟨k, hk, rfl, hbk, hlk⟩ := hrel
          have hbwk : Below wb.heap.size wb _ := hbw.trans (hlk.mono hg)
          by_cases hltk : k < j
          · have hje : k < ts.length := by rw [← HM.out]; exact hltk
            obtain ⟨t, ht⟩ : ∃ t, t = ts[k] := ⟨_, rfl⟩
            obtain ⟨b1, c1, hsj, hvj⟩ := hB.2 k hje
            obtain ⟨b, off, rfl, hc0⟩ := hr.sv_at k _ hsj
            rw [← ht] at hc0 hvj
            have hbl := World.block_lt_of_cell? wb _ hc0
            have hcx : wr.cell? ⟨b, off + k, none⟩ = some (.slice (some ⟨b1, 0, none⟩) t.size c1) := by rw [hbwk.cell (p := ⟨b, off + k, none⟩) hbl]; exact hc0
            have hfs := flatB_snoc true ts k hje
            rw [← ht] at hfs
            have hsz := HT.out t (by rw [ht]; exact List.getElem_mem hje)
            have hlen : (hd ++ flat (elsB true (ts.take k))).length + 8192 ≤ 1099511627776 := by
              rw [List.length_append]
              have := hfj k
              omega
            have hmod : (t.size : Int) % 4294967296 = t.size := by omega
            have H1 := Lib.hid hfs
            have H3 := Lib.hid ht
            clear hfs ht hsj hc0
            go_wp2_with fail
            refine (bufU32 g _ (t.size : Int) _ hbk (by omega) (by omega) (by omega)).mono ?_
            rintro e w5 ⟨rfl, hb5, hl5⟩
            have hv5 := Vw.below (hbwk.trans (hl5.mono hg)) (Nat.le_refl _) hvj
            go_wp2_with fail
            refine (bufAppend g _ (some ⟨b1, 0, none⟩) t.size c1 (ints t) _ hb5 hv5 (by simp; simp at hlen; omega)).mono ?_
            rintro e w6 ⟨rfl, hb6, hl6⟩
            go_wp2_with fail
            go_roundw
            case rel => exact ⟨k + 1, by omega, by go_num, by rw [H1.out]; simpa [elB, binE] using hb6, hlk.trans (hl5.trans hl6)⟩
            case measure => simp [intOf]; omega
          · obtain rfl : k = j := by omega
            rw [List.take_of_length_le (by rw [← HM.out]; exact Nat.le_refl _)] at hbk
            go_wp2_with fail
            go_ret
            exact ⟨rfl, by rw [← HL.out, ← HD.out]; exact hbk, hlk⟩
      | false =>
        have hz160 : lwz false = 160 := rfl
        go_wp2_with fail
        go_loopw [52] (fun i wr => ∃ k, k ≤ j ∧ i = .int .i64 k ∧ Bf wr g (hd ++ flat (elsB false (ts.take k))) ∧ Below g w wr) (fun i _ => j - (intOf i).toNat)
        case atStart => exact ⟨0, Nat.zero_le _, rfl, by simpa [elsB, flat] using hb1, hl1⟩
        case round =>
          obtain ⟨k, hk, rfl, hbk, hlk⟩ := hrel
          have hbwk : Below wb.heap.size wb _ := hbw.trans (hlk.mono hg)
          by_cases hltk : k < j
          · have hje : k < ts.length := by rw [← HM.out]; exact hltk
            obtain ⟨t, ht⟩ : ∃ t, t = ts[k] := ⟨_, rfl⟩
            obtain ⟨b1, c1, hsj, hvj⟩ := hB.2 k hje
            obtain ⟨b, off, rfl, hc0⟩ := hr.sv_at k _ hsj
            rw [← ht] at hc0 hvj
            have hbl := World.block_lt_of_cell? wb _ hc0
            have hcx : wr.cell? ⟨b, off + k, none⟩ = some (.slice (some ⟨b1, 0, none⟩) t.size c1) := by rw [hbwk.cell (p := ⟨b, off + k, none⟩) hbl]; exact hc0
            have hfs := flatB_snoc false ts k hje
            rw [← ht] at hfs
            have hsz := HT.out t (by rw [ht]; exact List.getElem_mem hje)
            have hlen : (hd ++ flat (elsB false (ts.take k))).length + 8192 ≤ 1099511627776 := by
              rw [List.length_append]
              have := hfj k
              omega
            have hsm : t.size < 256 := lwOf_false ts HL.out.symm t (by rw [ht]; exact List.getElem_mem hje)
            have hmod : (t.size : Int) % 256 = t.size := by omega
            have H1 := Lib.hid hfs
            have H3 := Lib.hid ht
            clear hfs ht hsj hc0
            go_wp2_with fail
            refine (bufByte g _ (t.size : Int) _ hbk (by omega) (by omega) (by omega)).mono ?_
            rintro e w5 ⟨rfl, hb5, hl5⟩
            have hv5 := Vw.below (hbwk.trans (hl5.mono hg)) (Nat.le_refl _) hvj
            go_wp2_with fail
            refine (bufAppend g _ (some ⟨b1, 0, none⟩) t.size c1 (ints t) _ hb5 hv5 (by simp; simp at hlen; omega)).mono ?_
            rintro e w6 ⟨rfl, hb6, hl6⟩
            go_wp2_with fail
            go_roundw
            case rel => exact ⟨k + 1, by omega, by go_num, by rw [H1.out]; simpa [elB, binE] using hb6, hlk.trans (hl5.trans hl6)⟩
            case measure => simp [intOf]; omega
          · obtain rfl : k = j := by omega
            rw [List.take_of_length_le (by rw [← HM.out]; exact Nat.le_refl _)] at hbk
            go_wp2_with fail
            go_ret
            exact ⟨rfl, by rw [← HL.out, ← HD.out]; exact hbk, hlk⟩

set_option maxRecDepth 100000 in
set_option maxHeartbeats 8000000 in
theorem implWriteB (ts : List ByteArray) (hts : ∀ t ∈ ts, t.size ≤ 4096) (hm : ts.length ≤ 1000) (a0 : Option Addr) (c0 : Nat) (w : World) (hr : Rd w a0 (ts.map Value.string)) :
    Calls Tryd.prog 24 #[.slice a0 ts.length c0] w fun e w' => ∃ a n c, e = .returned (.tuple #[.slice a n c, .bool true]) ∧ Vw w' a n c (arrHd (lwz (lwOf ts)) ts.length (flat (elsB (lwOf ts) ts)).length ++ flat (elsB (lwOf ts) ts)) ∧ Below w.heap.size w w' := by
  have hlen : (arrHd (lwz (lwOf ts)) ts.length (flat (elsB (lwOf ts) ts)).length ++ flat (elsB (lwOf ts) ts)).length ≤ 1099511627776 := by
    have h1 := arrHd_len (lwz (lwOf ts)) ts.length (flat (elsB (lwOf ts) ts)).length
    have h2 := tot_le ts hts
    have h3 : lws (lwOf ts) ≤ 4 := by cases lwOf ts <;> simp [lws]
    have h4 := Nat.mul_le_mul hm h3
    rw [List.length_append, flatB_len] at *
    generalize ts.length * lws (lwOf ts) = p at *
    omega
  obtain ⟨out, hout⟩ : ∃ out, out = arrHd (lwz (lwOf ts)) ts.length (flat (elsB (lwOf ts) ts)).length ++ flat (elsB (lwOf ts) ts) := ⟨_, rfl⟩
  obtain ⟨m, hmm⟩ : ∃ m, m = ts.length := ⟨_, rfl⟩
  have hmarsh := marshalB ts hts hm
  rw [← hout] at hlen hmarsh ⊢
  rw [← hmm] at hm hmarsh ⊢
  have HM := Lib.hid hmm
  have HD := Lib.hid hout
  have HT := Lib.hid hts
  have HC := Lib.hid hmarsh
  clear hmm hout hts hmarsh
  go_enter_defers Tryd.func24, Tryd.ntmps24
  go_wp2_with fail
  go_loopw [4, 10] (fun v i wr => ∃ j a c ss, j ≤ m ∧ i = .int .i64 j ∧ v = .slice a j c ∧ wr.ownsRow (w.heap.size + 2) 22 1 (.slice a j c) j (ss.map sv) ∧ BRow wr ss (ts.take j) ∧ Below w.heap.size w wr ∧ Blk wr w.heap.size 22 #[nilS] ∧ Blk wr (w.heap.size + 1) 4 #[.bool false]) (fun _ i _ => m - (intOf i).toNat)
  case atStart => exact ⟨0, none, 0, [], Nat.zero_le _, rfl, rfl, World.ownsRow_nil _ _ _ _, ⟨rfl, fun i hi => by simp at hi⟩, by (repeat (first | with_reducible exact Below.refl _ _ | with_reducible assumption | with_reducible refine below_drewN ?_ _ | with_reducible refine Below.drew ?_ | with_reducible refine below_row ?_ (by first | omega | (simp; done) | (simp; omega)) _ | with_reducible refine Below.alloc ?_ (by first | omega | (simp; done) | (simp; omega)) _ | with_reducible refine Below.setCell ?_ (by first | omega | (simp; done) | (simp; omega)) _)), by (repeat (first | with_reducible exact Blk.new _ _ _ | with_reducible assumption | with_reducible refine Blk.newAt (by first | rfl | (simp; done) | (simp; omega)) _ _ | with_reducible refine Blk.alloc ?_ _ | with_reducible refine Blk.drewN ?_ _ | with_reducible refine Blk.drew ?_ | with_reducible refine Blk.other ?_ (by first | omega | (simp; done) | (simp; omega)) _)), by (repeat (first | with_reducible exact Blk.new _ _ _ | with_reducible assumption | with_reducible refine Blk.newAt (by first | rfl | (simp; done) | (simp; omega)) _ _ | with_reducible refine Blk.alloc ?_ _ | with_reducible refine Blk.drewN ?_ _ | with_reducible refine Blk.drew ?_ | with_reducible refine Blk.other ?_ (by first | omega | (simp; done) | (simp; omega)) _))⟩
  case round =>
    obtain ⟨j, a, c, ss, hj, rfl, rfl, hown, hBr, hbw, hB2, hB3⟩ := hrel
    have hrj := Rd.below hbw (Nat.le_refl _) hr
    have hsz := hbw.size
    have hl3 := hB3.lt
    by_cases hlt : j < m
    · have hje : j < ts.length := by rw [← HM.out]; exact hlt
      obtain ⟨t, ht⟩ : ∃ t, t = ts[j] := ⟨_, rfl⟩
      obtain ⟨b, off, rfl, hcx⟩ := hrj.str_at j hje
      rw [← ht] at hcx
      have hts := HT.out t (by rw [ht]; exact List.getElem_mem hje)
      obtain ⟨c6, W6, hrun, hv6, hb6, hs6⟩ := conv_new t (by omega) wr
      have hjm : j ≤ 1099511627775 := by omega
      have HH := Lib.hid ht
      clear ht
      go_wp2_with (at_builtin; refine app1 (by rfl) _ _ 78 22 (.slice none 0 0) 24 (by rfl) Tryd.underlying78 (by kernel_rfl) rfl (by omega) (w.heap.size + 2) a j c (ss.map sv) (by rfl) (owns_below hown (by (repeat (first | with_reducible exact Below.refl _ _ | with_reducible assumption | with_reducible refine below_drewN ?_ _ | with_reducible refine Below.drew ?_ | with_reducible refine below_row ?_ (by first | omega | (simp; done) | (simp; omega)) _ | with_reducible refine Below.alloc ?_ (by first | omega | (simp; done) | (simp; omega)) _ | with_reducible refine Below.setCell ?_ (by first | omega | (simp; done) | (simp; omega)) _)))) W6.heap.size (.slice (some ⟨wr.heap.size, 0, none⟩) t.size c6) rfl (by rfl) (by (repeat (first | with_reducible exact Blk.new _ _ _ | with_reducible assumption | with_reducible refine Blk.newAt (by first | rfl | (simp; done) | (simp; omega)) _ _ | with_reducible refine Blk.alloc ?_ _ | with_reducible refine Blk.drewN ?_ _ | with_reducible refine Blk.drew ?_ | with_reducible refine Blk.other ?_ (by first | omega | (simp; done) | (simp; omega)) _))) hjm (by (first | omega | (simp; done) | (simp; omega))) ?_; intro a5 c5 w3 hown3 hg3; have hb3 := below_of_grown (B := w.heap.size + 2) hg3 (by (first | omega | (simp; done) | (simp; omega))) (ge_of_owns hown))
      have hlo := lt_of_owns hown
      have hbW6 : Below w.heap.size w W6 := hbw.trans (hb6.mono hsz)
      have hB26 := hB2.below hb6 (by omega)
      have hB36 := hB3.below hb6 (by omega)
      have hBr3 : BRow w3 (ss ++ [(some ⟨wr.heap.size, 0, none⟩, t.size, c6)]) (ts.take (j + 1)) := by
        rw [take_snoc_ ts j hje, ← HH.out]
        refine BRow.snoc (((hBr.below hb6).below ((Below.refl _ _).alloc (Nat.le_refl _) _)).grown (owns_below hown (by (repeat (first | with_reducible exact Below.refl _ _ | with_reducible assumption | with_reducible refine below_drewN ?_ _ | with_reducible refine Below.drew ?_ | with_reducible refine below_row ?_ (by first | omega | (simp; done) | (simp; omega)) _ | with_reducible refine Below.alloc ?_ (by first | omega | (simp; done) | (simp; omega)) _ | with_reducible refine Below.setCell ?_ (by first | omega | (simp; done) | (simp; omega)) _)))) hg3) ((hv6.alloc _).grown hg3 fun _ x hx => ?_)
        injection hx with hx
        subst hx
        cases a with
        | none => simp [Value.ownBlock]
        | some y => have := hlo y rfl; simp [Value.ownBlock]; omega
      go_roundw
      case rel => exact ⟨j + 1, a5, c5, _, by omega, by go_num, rfl, by rw [List.map_append]; exact hown3, hBr3, Below.trans (b := _) (by (repeat (first | with_reducible exact Below.refl _ _ | with_reducible assumption | with_reducible refine below_drewN ?_ _ | with_reducible refine Below.drew ?_ | with_reducible refine below_row ?_ (by first | omega | (simp; done) | (simp; omega)) _ | with_reducible refine Below.alloc ?_ (by first | omega | (simp; done) | (simp; omega)) _ | with_reducible refine Below.setCell ?_ (by first | omega | (simp; done) | (simp; omega)) _))) (hb3.mono (by omega)), Blk.below (by (repeat (first | with_reducible exact Blk.new _ _ _ | with_reducible assumption | with_reducible refine Blk.newAt (by first | rfl | (simp; done) | (simp; omega)) _ _ | with_reducible refine Blk.alloc ?_ _ | with_reducible refine Blk.drewN ?_ _ | with_reducible refine Blk.drew ?_ | with_reducible refine Blk.other ?_ (by first | omega | (simp; done) | (simp; omega)) _))) hb3 (by omega), Blk.below (by (repeat (first | with_reducible exact Blk.new _ _ _ | with_reducible assumption | with_reducible refine Blk.newAt (by first | rfl | (simp; done) | (simp; omega)) _ _ | with_reducible refine Blk.alloc ?_ _ | with_reducible refine Blk.drewN ?_ _ | with_reducible refine Blk.drew ?_ | with_reducible refine Blk.other ?_ (by first | omega | (simp; done) | (simp; omega)) _))) hb3 (by omega)⟩
      case measure => simp [intOf]; omega
    · obtain rfl : j = m := by omega
      rw [List.take_of_length_le (by rw [← HM.out]; exact Nat.le_refl _)] at hBr
      have hrd := Rd.of_owns hown
      go_wp2_with fail
      refine (HC.out wr ss a c hrd hBr wr.heap.size (Nat.le_refl _) _ ((Below.refl _ _).alloc (Nat.le_refl _) _) (Bf.new wr)).mono ?_
      rintro e w1 ⟨rfl, hb1, hl1⟩
      have hs1 : wr.heap.size + 1 ≤ w1.heap.size := by have := hl1.size; simp at this; omega
      have hB21 : Blk w1 w.heap.size 22 #[nilS] := Blk.below (by (repeat (first | with_reducible exact Blk.new _ _ _ | with_reducible assumption | with_reducible refine Blk.newAt (by first | rfl | (simp; done) | (simp; omega)) _ _ | with_reducible refine Blk.alloc ?_ _ | with_reducible refine Blk.drewN ?_ _ | with_reducible refine Blk.drew ?_ | with_reducible refine Blk.other ?_ (by first | omega | (simp; done) | (simp; omega)) _))) hl1 (by omega)
      have hB31 : Blk w1 (w.heap.size + 1) 4 #[.bool false] := Blk.below (by (repeat (first | with_reducible exact Blk.new _ _ _ | with_reducible assumption | with_reducible refine Blk.newAt (by first | rfl | (simp; done) | (simp; omega)) _ _ | with_reducible refine Blk.alloc ?_ _ | with_reducible refine Blk.drewN ?_ _ | with_reducible refine Blk.drew ?_ | with_reducible refine Blk.other ?_ (by first | omega | (simp; done) | (simp; omega)) _))) hl1 (by omega)
      have hbw1 : Below w.heap.size w w1 := Below.trans (b := _) (by (repeat (first | with_reducible exact Below.refl _ _ | with_reducible assumption | with_reducible refine below_drewN ?_ _ | with_reducible refine Below.drew ?_ | with_reducible refine below_row ?_ (by first | omega | (simp; done) | (simp; omega)) _ | with_reducible refine Below.alloc ?_ (by first | omega | (simp; done) | (simp; omega)) _ | with_reducible refine Below.setCell ?_ (by first | omega | (simp; done) | (simp; omega)) _))) (hl1.mono (by omega))
      clear hown hrd hB2 hB3 hrj hBr
      go_wp2_with fail
      refine (bufBytes wr.heap.size _ _ hb1).mono ?_
      rintro e w2 ⟨ab, n, cb, nq, rfl, rfl, hv⟩
      go_wp2_with fail
      refine (copied_any ab n cb _ _ (hv.drewN nq) (by have := hv.len; omega)).mono ?_
      rintro e w3 ⟨a3, c3, rfl, h3, hb3⟩
      have hC2 := (hB21.drewN nq).below hb3 (by simp; omega)
      have hC3 := (hB31.drewN nq).below hb3 (by simp; omega)
      have q20 := hC2.cell (i := 0) rfl
      have q30 := hC3.cell (i := 0) rfl
      have f2 := hC2.frozen 0
      have f3 := hC3.frozen 0
      have hb13 : Below w.heap.size w w3 := Below.trans (b := _) (by (repeat (first | with_reducible exact Below.refl _ _ | with_reducible assumption | with_reducible refine below_drewN ?_ _ | with_reducible refine Below.drew ?_ | with_reducible refine below_row ?_ (by first | omega | (simp; done) | (simp; omega)) _ | with_reducible refine Below.alloc ?_ (by first | omega | (simp; done) | (simp; omega)) _ | with_reducible refine Below.setCell ?_ (by first | omega | (simp; done) | (simp; omega)) _))) (hb3.mono (by (first | omega | (simp; done) | (simp; omega))))
      go_wp2_with fail
      refine leaves_cons (f := 25) (args := #[.pointer (some ⟨w.heap.size, 0, none⟩), .pointer (some ⟨w.heap.size + 1, 0, none⟩)]) (by simp) (by simp [go_sem]) ?_
      refine (noData_idle ⟨w.heap.size, 0, none⟩ ⟨w.heap.size + 1, 0, none⟩ _).mono ?_
      rintro e u' w'' ⟨rfl, rfl, rfl⟩
      have D2 := (hC2.set 0 (.slice a3 n c3)).other (p := ⟨w.heap.size + 1, 0, none⟩) (by simp) (.bool true)
      have D3 := (hC3.other (p := ⟨w.heap.size, 0, none⟩) (by simp) (.slice a3 n c3)).set 0 (.bool true)
      have hV := ((h3.otherBlk (p := ⟨w.heap.size, 0, none⟩) (by simp; omega) (.slice a3 n c3)).otherBlk (p := ⟨w.heap.size + 1, 0, none⟩) (by simp; omega) (.bool true)).vw
      have hBel : Below w.heap.size w ((w3.setCell ⟨w.heap.size, 0, none⟩ (.slice a3 n c3)).setCell ⟨w.heap.size + 1, 0, none⟩ (.bool true)) := (hb13.setCell (by simp) _).setCell (by simp) _
      generalize hW4 : (w3.setCell ⟨w.heap.size, 0, none⟩ (.slice a3 n c3)).setCell ⟨w.heap.size + 1, 0, none⟩ (.bool true) = W4 at D2 D3 hV hBel ⊢
      have d2 := D2.cell (i := 0) rfl
      have d3 := D3.cell (i := 0) rfl
      simp at d2 d3
      simp [Leaves, settle, results, Tryd.results24, go_sem, d2, d3]
      exact ⟨_, _, _, ⟨rfl, rfl, rfl⟩, hV, hBel⟩

theorem rd_strs {w : World} {x : Addr} {len : Nat} {ss : List ByteArray} (hl : len ≤ ss.length) (hc : ∀ i, i < ss.length → w.cell? (x.add i) = some (.string (ss.getD i ByteArray.empty))) : Rd w (some x) ((ss.take len).map Value.string) := by
  by_cases h0 : len = 0
  · subst h0; exact .inl (by simp)
  · obtain ⟨b, off, spot⟩ := x
    have h1 := hc 0 (by omega)
    have hsp : spot = none := by simpa [Addr.add] using World.cell?_spot h1
    subst hsp
    refine .inr ⟨b, off, rfl, fun i v hi => ?_⟩
    have hil : i < len := by
      have := (List.getElem?_eq_some_iff.1 hi).1
      simp at this; omega
    have e : (⟨b, off, none⟩ : Addr).add i = ⟨b, off + i, none⟩ := by unfold Addr.add; split <;> simp_all
    rw [← e, hc i (by omega)]
    simp [List.getElem?_take, hil] at hi
    obtain ⟨y, hy, rfl⟩ := hi
    simp [List.getD, hy]

theorem fits2 (ts : List ByteArray) (a0 : Option Addr) (c0 : Nat) (w : World) (hr : Rd w a0 (ts.map Value.string)) (hmax : ts.length ≤ 9223372036854775807) (hsz : ∀ t ∈ ts, t.size ≤ 9223372036854775807) : Calls Tryd.prog 23 #[.slice a0 ts.length c0] w (Fits2 ts.length w) := by
  obtain ⟨m, hmm⟩ : ∃ m, m = ts.length := ⟨_, rfl⟩
  rw [← hmm] at hmax ⊢
  have HM := Lib.hid hmm
  have HT := Lib.hid hsz
  clear hmm hsz
  by_cases hbig : m ≤ 2147483647
  · have e0 : decide ((m : Int) > 2147483647) = false := by simp; omega
    go_enter Tryd.func23, Tryd.ntmps23
    go_wp2_with fail
    go_loop [10] (fun i => ∃ j : Nat, j ≤ m ∧ i = .int .i64 j) (fun i => m - (intOf i).toNat)
    case atStart => exact ⟨0, Nat.zero_le _, rfl⟩
    case round =>
      obtain ⟨j, hj, rfl⟩ := hrel
      by_cases hlt : j < m
      · have hje : j < ts.length := by rw [← HM.out]; exact hlt
        obtain ⟨t, ht⟩ : ∃ t, t = ts[j] := ⟨_, rfl⟩
        obtain ⟨b, off, rfl, hcx⟩ := hr.str_at j hje
        rw [← ht] at hcx
        have hts := HT.out t (by rw [ht]; exact List.getElem_mem hje)
        have HH := Lib.hid ht
        clear ht
        by_cases hb : t.size ≤ 2147483647
        · have e1 : decide ((t.size : Int) > 2147483647) = false := by simp; omega
          go_wp2_with fail
          go_round
          case rel => exact ⟨j + 1, by omega, by go_num⟩
          case measure => simp [intOf]; omega
        · have e1 : decide ((t.size : Int) > 2147483647) = true := by simp; omega
          go_wp2_with fail
          go_ret
          exact ⟨false, rfl, fun h => (by cases h), rfl⟩
      · obtain rfl : j = m := by omega
        go_wp2_with fail
        go_ret
        exact ⟨true, rfl, fun _ => hbig, rfl⟩
  · have e0 : decide ((m : Int) > 2147483647) = true := by simp; omega
    go_enter Tryd.func23, Tryd.ntmps23
    go_wp2_with fail
    go_ret
    exact ⟨false, rfl, fun h => (by cases h), rfl⟩

set_option maxRecDepth 100000 in
set_option maxHeartbeats 8000000 in
theorem walkB (ts : List ByteArray) (hsz : ∀ t ∈ ts, t.size ≤ 9223372036854775807) (hmax : ts.length ≤ 9223372036854775807) (a0 : Option Addr) (c0 : Nat) (w : World) (hr : Rd w a0 (ts.map Value.string)) :
    Calls Tryd.prog 10 #[.slice a0 ts.length c0] w fun e w' => e = .returned (.bool true) ∧ Below w.heap.size w w' := by
  have hfit := fits2 ts a0 c0 w hr hmax hsz
  obtain ⟨m, hmm⟩ : ∃ m, m = ts.length := ⟨_, rfl⟩
  rw [← hmm] at hmax hfit ⊢
  have HM := Lib.hid hmm
  have HZ := Lib.hid hsz
  have HF := Lib.hid hfit
  clear hmm hsz hfit
  have hone : Rd (w.alloc (.cells #[.string ⟨#[97]⟩] 9)) (some ⟨w.heap.size, 0, none⟩) ([(⟨#[97]⟩ : ByteArray)].map Value.string) := Rd.lit w 9 [.string ⟨#[97]⟩]
  have h5 : ∀ t ∈ [(⟨#[97]⟩ : ByteArray)], t.size ≤ 4096 := by intro t ht; simp at ht; subst ht; decide
  go_enter Tryd.func10, Tryd.ntmps10
  go_wp2_with fail
  refine HF.out.mono ?_
  rintro e w' ⟨b, rfl, hb, rfl⟩
  cases b with
  | false =>
    go_wp2_with fail
    go_ret
    exact ⟨rfl, Below.refl _ _⟩
  | true =>
    have hm31 := hb rfl
    clear hb
    go_wp2_with fail
    refine (implWriteB [⟨#[97]⟩] h5 (by simp) _ 1 _ hone).mono ?_
    rintro e w1 ⟨a1, n1, c1, rfl, hv1, hb1⟩
    have hs1 : w.heap.size + 1 ≤ w1.heap.size := by have := hb1.size; simp at this; omega
    have hbw1 : Below w.heap.size w w1 := Below.trans (b := _) (by (repeat (first | with_reducible exact Below.refl _ _ | with_reducible assumption | with_reducible refine below_drewN ?_ _ | with_reducible refine Below.drew ?_ | with_reducible refine below_row ?_ (by first | omega | (simp; done) | (simp; omega)) _ | with_reducible refine Below.alloc ?_ (by first | omega | (simp; done) | (simp; omega)) _ | with_reducible refine Below.setCell ?_ (by first | omega | (simp; done) | (simp; omega)) _))) (hb1.mono (by (first | omega | (simp; done) | (simp; omega))))
    have hlw1 : lwOf [⟨#[97]⟩] = false := by decide
    have hkid := Rd.lit w1 29 (kidsV 18 (elsB false [⟨#[97]⟩]))
    have hw5 := whole_arrHd 160 18 1 (by omega) ⟨rfl, rfl⟩ (elsB false [⟨#[97]⟩]) (fun e he => by simp [elsB] at he; subst he; exact elemB false _ (h5 _ (by simp)) (fun _ => by decide)) (by simp [elsB]) (by rw [flatB_len]; decide) (by rw [flatB_len, elsB_len]; decide)
    rw [hlw1] at hv1
    go_wp2_with fail
    refine (wrote_wholeA _ 18 (elsB false [⟨#[97]⟩]) (by simp [elsB]) hw5 a1 n1 c1 (some ⟨w1.heap.size, 0, none⟩) 1 _ (hv1.alloc _) hkid).mono ?_
    rintro e w2 ⟨rfl, hb2⟩
    have hs2 : w1.heap.size + 1 ≤ w2.heap.size := by have := hb2.size; simp at this; omega
    have hbw2 : Below w.heap.size w w2 := Below.trans (b := _) (by (repeat (first | with_reducible exact Below.refl _ _ | with_reducible assumption | with_reducible refine below_drewN ?_ _ | with_reducible refine Below.drew ?_ | with_reducible refine below_row ?_ (by first | omega | (simp; done) | (simp; omega)) _ | with_reducible refine Below.alloc ?_ (by first | omega | (simp; done) | (simp; omega)) _ | with_reducible refine Below.setCell ?_ (by first | omega | (simp; done) | (simp; omega)) _))) (hb2.mono (by (first | omega | (simp; done) | (simp; omega))))
    clear hone h5 hv1 hb1 hbw1 hkid hw5 hb2 hlw1
    go_wp2_with fail
    go_loopw [28] (fun i wr => ∃ j ka kc, j ≤ m ∧ i = .int .i64 j ∧ (∀ t ∈ ts.take j, t.size ≤ 4096) ∧ Blk wr w2.heap.size 29 #[.int .i64 23, .int .u64 0, .string ⟨#[]⟩, .slice ka j kc, .int .i64 0, nilS] ∧ wr.ownsRow (w2.heap.size + 1) 29 6 (.slice ka j kc) j (kidsV 18 (elsB true (ts.take j))) ∧ Below w.heap.size w wr) (fun i _ => m - (intOf i).toNat)
    case atStart => exact ⟨0, none, 0, Nat.zero_le _, rfl, by simp, by (repeat (first | with_reducible exact Blk.new _ _ _ | with_reducible assumption | with_reducible refine Blk.newAt (by first | rfl | (simp; done) | (simp; omega)) _ _ | with_reducible refine Blk.alloc ?_ _ | with_reducible refine Blk.drewN ?_ _ | with_reducible refine Blk.drew ?_ | with_reducible refine Blk.other ?_ (by first | omega | (simp; done) | (simp; omega)) _)), World.ownsRow_nil _ _ _ _, by (repeat (first | with_reducible exact Below.refl _ _ | with_reducible assumption | with_reducible refine below_drewN ?_ _ | with_reducible refine Below.drew ?_ | with_reducible refine below_row ?_ (by first | omega | (simp; done) | (simp; omega)) _ | with_reducible refine Below.alloc ?_ (by first | omega | (simp; done) | (simp; omega)) _ | with_reducible refine Below.setCell ?_ (by first | omega | (simp; done) | (simp; omega)) _))⟩
    case round =>
      obtain ⟨j, ka, kc, hj, rfl, hall, hBv, hown, hbw⟩ := hrel
      have HA := Lib.hid hall
      clear hall
      have hsz := hbw.size
      have hlv := hBv.lt
      have hcv3 := hBv.cell (i := 3) rfl
      have hfv3 := hBv.frozen 3
      by_cases hlt : j < m
      · have hje : j < ts.length := by rw [← HM.out]; exact hlt
        obtain ⟨t, ht⟩ : ∃ t, t = ts[j] := ⟨_, rfl⟩
        obtain ⟨b, off, rfl, hcx⟩ := (Rd.below hbw (Nat.le_refl _) hr).str_at j hje
        rw [← ht] at hcx
        have hts := HZ.out t (by rw [ht]; exact List.getElem_mem hje)
        have hjm : j ≤ 1099511627776 := by omega
        have hsn := kidsB_snoc true ts j hje
        have htk := take_snoc_ ts j hje
        rw [← ht] at hsn htk
        have HS := Lib.hid hsn
        have HK := Lib.hid htk
        have HX := Lib.hid ht
        clear hsn ht htk
        by_cases hlong : t.size ≤ 4096
        · have e1 : decide ((t.size : Int) > 4096) = false := by simp; omega
          go_wp2_with (at_builtin; refine appV (by rfl) _ _ (by rfl) (w2.heap.size + 1) ka j kc (kidsV 18 (elsB true (ts.take j))) (by rfl) (owns_below hown (by (repeat (first | with_reducible exact Below.refl _ _ | with_reducible assumption | with_reducible refine below_drewN ?_ _ | with_reducible refine Below.drew ?_ | with_reducible refine below_row ?_ (by first | omega | (simp; done) | (simp; omega)) _ | with_reducible refine Below.alloc ?_ (by first | omega | (simp; done) | (simp; omega)) _ | with_reducible refine Below.setCell ?_ (by first | omega | (simp; done) | (simp; omega)) _)))) wr.heap.size (by rfl) [.int .i64 18, .int .u64 0, .string t, nilS, .int .i64 0, nilS] rfl (kid_one _ _ _) (by (repeat (first | with_reducible exact Blk.new _ _ _ | with_reducible assumption | with_reducible refine Blk.newAt (by first | rfl | (simp; done) | (simp; omega)) _ _ | with_reducible refine Blk.alloc ?_ _ | with_reducible refine Blk.drewN ?_ _ | with_reducible refine Blk.drew ?_ | with_reducible refine Blk.other ?_ (by first | omega | (simp; done) | (simp; omega)) _))) hjm (by (first | omega | (simp; done) | (simp; omega))) ?_; intro a5 c5 w3 hown3 hg3; have hb3 := below_of_grown (B := w2.heap.size + 1) hg3 (by (first | omega | (simp; done) | (simp; omega))) (ge_of_owns hown); have hBv3 : Blk w3 w2.heap.size 29 #[.int .i64 23, .int .u64 0, .string ⟨#[]⟩, .slice ka j kc, .int .i64 0, nilS] := Blk.below (by (repeat (first | with_reducible exact Blk.new _ _ _ | with_reducible assumption | with_reducible refine Blk.newAt (by first | rfl | (simp; done) | (simp; omega)) _ _ | with_reducible refine Blk.alloc ?_ _ | with_reducible refine Blk.drewN ?_ _ | with_reducible refine Blk.drew ?_ | with_reducible refine Blk.other ?_ (by first | omega | (simp; done) | (simp; omega)) _))) hb3 (by omega); have hf3 := hBv3.frozen 3; have hq3 := hBv3.cell (i := 3) rfl)
          have hbE : Below w.heap.size w w3 := Below.trans (b := _) (by (repeat (first | with_reducible exact Below.refl _ _ | with_reducible assumption | with_reducible refine below_drewN ?_ _ | with_reducible refine Below.drew ?_ | with_reducible refine below_row ?_ (by first | omega | (simp; done) | (simp; omega)) _ | with_reducible refine Below.alloc ?_ (by first | omega | (simp; done) | (simp; omega)) _ | with_reducible refine Below.setCell ?_ (by first | omega | (simp; done) | (simp; omega)) _))) (hb3.mono (by omega))
          go_roundw
          case rel => exact ⟨j + 1, a5, c5, by omega, by go_num, by rw [HK.out]; intro q hq; rcases List.mem_append.1 hq with h1 | h1; exact HA.out q h1; simp at h1; subst h1; exact hlong, hBv3.set 3 _, owns_set (by rw [HS.out]; exact hown3) (by simp) _, hbE.setCell (by simp; omega) _⟩
          case measure => simp [intOf]; omega
        · have e1 : decide ((t.size : Int) > 4096) = true := by simp; omega
          go_wp2_with fail
          go_ret
          exact ⟨rfl, hbw⟩
      · obtain rfl : j = m := by omega
        have et : ts.take j = ts := List.take_of_length_le (by rw [← HM.out]; exact Nat.le_refl _)
        rw [et] at hown HA
        clear et
        have hrk := Rd.of_owns hown
        rw [show kidsV 18 (elsB true ts) = kidsV 18 (elsB (lwOf ts) ts) by unfold kidsV elsB; simp only [List.flatMap_map]; rfl] at hrk
        have hr2 := Rd.below hbw (Nat.le_refl _) hr
        clear hown hcv3
        by_cases hs : j ≤ 300
        · have e1 : decide ((j : Int) > 300) = false := by simp; omega
          have himp := fun W h => implWriteB ts HA.out (by rw [← HM.out]; omega) a0 c0 W h
          have hfl : (flat (elsB (lwOf ts) ts)).length = tot ts + ts.length * lws (lwOf ts) := flatB_len _ _
          have hta := tot_le ts HA.out
          have h3 : lws (lwOf ts) ≤ 4 ∧ 1 ≤ lws (lwOf ts) := by cases lwOf ts <;> simp [lws]
          have h4 : ts.length * lws (lwOf ts) ≤ 300 * 4 := Nat.mul_le_mul (by rw [← HM.out]; omega) h3.1
          have h5 : ts.length ≤ ts.length * lws (lwOf ts) := Nat.le_mul_of_pos_right _ h3.2
          have h6 : ts.length ≤ 300 := by rw [← HM.out]; omega
          have hwh := whole_arrHd (lwz (lwOf ts)) 18 (lws (lwOf ts)) (by cases lwOf ts <;> simp [lwz]) (by cases lwOf ts <;> exact ⟨rfl, rfl⟩) (elsB (lwOf ts) ts) (fun e he => by simp only [elsB, List.mem_map] at he; obtain ⟨x, hx, rfl⟩ := he; exact elemB _ x (HA.out x hx) (fun hf => lwOf_false ts hf x hx)) (by rw [elsB_len]; omega) (by rw [hfl]; omega) (by rw [hfl, elsB_len]; omega)
          rw [elsB_len] at hwh
          obtain ⟨out, hout⟩ : ∃ out, out = arrHd (lwz (lwOf ts)) ts.length (flat (elsB (lwOf ts) ts)).length ++ flat (elsB (lwOf ts) ts) := ⟨_, rfl⟩
          rw [← hout] at himp hwh
          have HO := Lib.hid hout
          clear hout hfl hta h3 h4 h5
          have hwr := fun a n c W hv hk => wrote_wholeA _ 18 (elsB (lwOf ts) ts) (by rw [elsB_len]; omega) hwh a n c ka kc W hv hk
          rw [← HM.out] at himp
          rw [elsB_len, ← HM.out] at hwr
          have HI := Lib.hid himp
          have HW := Lib.hid hwr
          clear himp hwh hwr h6
          go_wp2_with fail
          refine (HI.out _ hr2).mono ?_
          rintro e w4 ⟨a4, n4, c4, rfl, hv4, hb4⟩
          have hBv4 := Blk.below hBv hb4 hlv
          have hbw4 := hbw.trans (hb4.mono hsz)
          have hk4 := Rd.below hb4 (Nat.le_refl _) hrk
          have q0 := hBv4.cell (i := 0) rfl
          have q1 := hBv4.cell (i := 1) rfl
          have q2 := hBv4.cell (i := 2) rfl
          have q3 := hBv4.cell (i := 3) rfl
          have q4 := hBv4.cell (i := 4) rfl
          have q5 := hBv4.cell (i := 5) rfl
          go_wp2_with fail
          refine (HW.out a4 n4 c4 _ hv4 hk4).mono ?_
          rintro e w5 ⟨rfl, hb5⟩
          go_wp2_with fail
          go_ret
          exact ⟨rfl, hbw4.trans (hb5.mono hbw4.size)⟩
        · have e1 : decide ((j : Int) > 300) = true := by simp; omega
          go_wp2_with fail
          go_ret
          exact ⟨rfl, hbw⟩
end Go.Proofs.YtkbfppjniaejnaaDoor
