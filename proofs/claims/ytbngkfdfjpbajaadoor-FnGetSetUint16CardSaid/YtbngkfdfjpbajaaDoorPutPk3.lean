/- spec.PutPack, whole. -/
import Derived.Test.YtbngkfdfjpbajaaDoorEnc
namespace Go.Proofs.YtbngkfdfjpbajaaDoor
open Go.RowKit
set_option linter.unusedVariables false
set_option linter.unusedSimpArgs false

set_option maxRecDepth 100000 in
set_option maxHeartbeats 8000000 in
theorem putPack_any {w0 : World} {t : Pk} {v : Value} (h : PkAt w0 t v) : t.fits → t.nodes ≤ 2000 → ∀ (F : Nat) (b : Bool) (w : World), w0.heap.size ≤ F → Below w0.heap.size w0 w → FB w F b →
    Calls Tryd.prog 12 #[v, .pointer (some ⟨F, 0, none⟩)] w (PutRes F b t.Enc w) := by
  induction h with
  | mk k num ext t kids a c vs hr hc hk ih =>
    intro hf hn F b w hF hx hB
    obtain ⟨hr1, hr2, hr3, hr4, hr5, hr6⟩ := hr
    obtain ⟨hf1, hf2⟩ : FitN k num t.size ext kids.length ∧ Pk.fitsL kids := hf
    have leaf : (k ≠ 8 ∧ k ≠ 9) → Calls Tryd.prog 12 #[pkV k num t ext a kids.length c, .pointer (some ⟨F, 0, none⟩)] w (PutRes F b (PEnc k num t ext kids.length) w) → Calls Tryd.prog 12 #[pkV k num t ext a kids.length c, .pointer (some ⟨F, 0, none⟩)] w (PutRes F b (Pk.mk k num t ext kids).Enc w) := fun h1 h2 =>
      h2.mono fun e w' h3 => putRes_lift (Below.refl _ _) (fun l hl => by simp only [Pk.Enc]; exact .inl ⟨h1, hl⟩) h3
    by_cases hk8 : k = 8 ∨ k = 9
    · obtain ⟨m, hm⟩ : ∃ m, m = kids.length := ⟨_, rfl⟩
      have hm2 : m ≤ 2000 := by rw [hm]; exact hf1.2.2.2.2.2.2.1
      have hnd : (Pk.mk k num t ext kids).nodes = 1 + Pk.nodesL kids := by simp [Pk.nodes]
      rw [hnd] at hn
      have hFl := hB.lt
      have hq : ((m : Int) / 2) = ((m / 2 : Nat) : Int) := by omega
      have HQ := Lib.hid hq
      have HE : ∀ (h r : List Int), (k = 8 ∧ HeadL m 144 16 formsA h ∨ k = 9 ∧ HeadL (m / 2) 128 16 formsM h) → Pk.EncL kids r → (Pk.mk k num t ext kids).Enc (h ++ r) := by
        rintro h r (⟨hk1, hh⟩ | ⟨hk1, hh⟩) hr
        · simp only [Pk.Enc]; exact .inr (.inl ⟨hk1, h, r, by rw [← hm]; exact hh, hr, rfl⟩)
        · simp only [Pk.Enc]; exact .inr (.inr ⟨hk1, h, r, by rw [← hm]; exact hh, hr, rfl⟩)
      rw [← hm] at hr5 ⊢
      have HM := Lib.hid hm
      have HI := Lib.hid ih
      have HK := Lib.hid hk
      have HC := Lib.hid hc
      have HX := Lib.hid hx
      have HH := Lib.hid HE
      have HF := Lib.hid hf2
      have HN := Lib.hid hnd
      have hxs := hx.size
      clear hm ih hk hc hx HE hq hnd leaf hf1 hf2
      generalize hP : (Pk.mk k num t ext kids).Enc = P at *
      clear hP
      unfold pkV
      obtain rfl | rfl := hk8
      · go_enter Tryd.func12, Tryd.ntmps12
        go_wp2_with fail
        refine (putHead_any m (by omega) 144 (by omega) (by omega) 16 (by omega) (fun _ h => or16 144 (.inl rfl) m h) formsA (by simp) (by simp) (may4 m (by omega) formsA 221 (by simp)) (some ⟨w.heap.size + 1, 0, none⟩) 2 F b _ ((hB.alloc _).alloc _) (by have h := Rd.lit (w.alloc (.cells #[.int .i64 8, .int .u64 num, .string t, .int .i64 ext, .slice a m c] 25)) 71 (fcells formsA); rw [World.size_alloc] at h; exact h)).mono ?_
        rintro e w1 ⟨a1, n1, c1, l1, rfl, ho1, hL1, hB1, hk1⟩
        have hn1 : n1 ≤ 5 := by have h1 := headL_le (by simp) hL1; have h2 := ho1.vw.len; omega
        have HL1 := Lib.hid (HH.out l1 · (.inl ⟨by first | rfl | trivial, hL1⟩))
        clear hL1
        have hk2 : Kp F w.heap.size w w1 := (Kp.of_below (F := F) (Below.alloc (Below.alloc (Below.refl w.heap.size w) (by simp) _) (by simp) _)).trans (hk1.mono (by simp; omega))
        have hBv := ((Blk.new w 25 #[.int .i64 8, .int .u64 num, .string t, .int .i64 ext, .slice a m c]).alloc (.cells (fcells formsA).toArray 71)).kp hk1 (by simp; omega) (by omega)
        have hs1 := hk1.size
        simp only [World.size_alloc] at hs1
        have ho1m := ho1.mono (B' := w.heap.size + 1) (by simp)
        clear ho1 hk1
        have q4 := hBv.cell (i := 4) rfl
        go_wp2_with fail
        go_loopw [5, 106] (fun s i wr => ∃ j, j ≤ m ∧ i = .int .i64 j ∧ ∃ a5 n5 c5 r, s = .slice a5 n5 c5 ∧ O8 wr (w.heap.size + 1) a5 n5 c5 (l1 ++ r) ∧ Pk.EncL (kids.take j) r ∧ FB wr F b ∧ Kp F w.heap.size w wr ∧ w.heap.size + 1 ≤ wr.heap.size) (fun _ i _ => m - (intOf i).toNat)
        case atStart => exact ⟨0, Nat.zero_le _, rfl, a1, n1, c1, [], rfl, by simpa using ho1m, by simp [Pk.EncL], hB1, hk2, by omega⟩
        case round =>
          obtain ⟨j, hj, rfl, a5, n5, c5, r, rfl, ho5, hE5, hB5, hk5, hs5⟩ := hrel
          have hle := nodesL_take_le kids j
          have hrl := encL_len _ _ (fitsL_take kids j HF.out) hE5
          have hl5 := ho5.vw.len
          simp only [List.length_append] at hl5
          have hl1 := ho1m.vw.len
          have hn5 : n5 ≤ 5 + 2000 * 131100 := by omega
          clear hl5 hl1 hrl
          by_cases hlt : j < m
          · have hje : j < kids.length := by rw [← HM.out]; exact hlt
            have hxr : Below w0.heap.size w0 wr := HX.out.trans (hk5.below hxs (by omega))
            obtain ⟨b0, off, k', num', t', ext', a', n', c', rfl, hvs, q0, q1, q2, q3, q4'⟩ := kid_cells HC.out hxr j hje (HK.out j hje)
            have hle2 := nodesL_take_le kids (j + 1)
            have hsn := nodesL_snoc kids j hje
            have hcall := HI.out j hje (fitsL_at kids j hje HF.out) (by omega)
            rw [hvs] at hcall
            have HA := Lib.hid hcall
            have HVS := Lib.hid hvs
            have HE5 := Lib.hid hE5
            have HSN := Lib.hid hsn
            clear hcall hvs hE5 hsn hle2
            go_wp2_with fail
            refine (HA.out F b _ (by omega) (hxr.trans (Below.alloc (Below.refl _ _) hxr.size _)) (hB5.alloc _)).mono ?_
            rintro e w2 ⟨a2, n2, c2, x, rfl, ho2, hx2, hB2, hk22⟩
            have hxl := (enc_len _ _ (fitsL_at kids j hje HF.out) hx2).2
            have hnj : kids[j].nodes ≤ 2000 := by have := HSN.out; have := nodesL_take_le kids (j + 1); omega
            have hxn := ho2.vw.len
            have hn2 : n2 ≤ 2000 * 131100 := by have := Nat.mul_le_mul_right 131100 hnj; omega
            have ho5' : O8 w2 (w.heap.size + 1) a5 n5 c5 (l1 ++ r) := (ho5.alloc _).kp hk22 (Nat.le_refl _) (by omega)
            have hs2 := hk22.size
            simp only [World.size_alloc] at hs2
            have HX2 := Lib.hid (encL_snoc kids j hje HE5.out hx2)
            have hk6 : Kp F w.heap.size w w2 := hk5.trans ((Kp.of_below (F := F) (Below.alloc (Below.refl w.heap.size wr) (by omega) _)).trans (hk22.mono (by simp; omega)))
            have hv2 := ho2.vw
            clear hxl hnj hxn hx2 ho2
            go_wp2_with (at_builtin; refine app8 (by rfl) _ _ (by rfl) (w.heap.size + 1) a5 n5 c5 (l1 ++ r) (by rfl) ho5' a2 n2 c2 x (by rfl) hv2 (by omega) (by omega) ?_; intro a6 c6 w6 ho6 hg6; have hb6 := below_of_grown (B := w.heap.size + 1) hg6 (by omega) ho5'.ge)
            go_roundw
            case rel => exact ⟨j + 1, by omega, by go_num, a6, n5 + n2, c6, r ++ x, rfl, by rw [← List.append_assoc]; exact ho6, HX2.out, hB2.below hb6 (by omega), hk6.trans (Kp.of_below (hb6.mono (by omega))), by have := hb6.size; omega⟩
            case measure => simp [intOf]; omega
          · obtain rfl : j = m := by omega
            have et : kids.take j = kids := List.take_of_length_le (by rw [← HM.out]; exact Nat.le_refl _)
            rw [et] at hE5
            have hP := HL1.out r hE5
            have HP := Lib.hid hP
            clear et hE5 hP
            go_wp2_with fail
            go_ret
            exact ⟨a5, n5, c5, l1 ++ r, rfl, ho5.mono (by omega), HP.out, hB5, hk5⟩
      · go_enter Tryd.func12, Tryd.ntmps12
        go_wp2_with fail
        refine (putHead_any (m / 2) (by omega) 128 (by omega) (by omega) 16 (by omega) (fun _ h => or16 128 (.inr rfl) (m / 2) h) formsM (by simp) (by simp) (may4 (m / 2) (by omega) formsM 223 (by simp)) (some ⟨w.heap.size + 1, 0, none⟩) 2 F b _ ((hB.alloc _).alloc _) (by have h := Rd.lit (w.alloc (.cells #[.int .i64 9, .int .u64 num, .string t, .int .i64 ext, .slice a m c] 25)) 71 (fcells formsM); rw [World.size_alloc] at h; exact h)).mono ?_
        rintro e w1 ⟨a1, n1, c1, l1, rfl, ho1, hL1, hB1, hk1⟩
        have hn1 : n1 ≤ 5 := by have h1 := headL_le (by simp) hL1; have h2 := ho1.vw.len; omega
        have HL1 := Lib.hid (HH.out l1 · (.inr ⟨by first | rfl | trivial, hL1⟩))
        clear hL1
        have hk2 : Kp F w.heap.size w w1 := (Kp.of_below (F := F) (Below.alloc (Below.alloc (Below.refl w.heap.size w) (by simp) _) (by simp) _)).trans (hk1.mono (by simp; omega))
        have hBv := ((Blk.new w 25 #[.int .i64 9, .int .u64 num, .string t, .int .i64 ext, .slice a m c]).alloc (.cells (fcells formsM).toArray 71)).kp hk1 (by simp; omega) (by omega)
        have hs1 := hk1.size
        simp only [World.size_alloc] at hs1
        have ho1m := ho1.mono (B' := w.heap.size + 1) (by simp)
        clear ho1 hk1
        have q4 := hBv.cell (i := 4) rfl
        go_wp2_with fail
        go_loopw [5, 106] (fun s i wr => ∃ j, j ≤ m ∧ i = .int .i64 j ∧ ∃ a5 n5 c5 r, s = .slice a5 n5 c5 ∧ O8 wr (w.heap.size + 1) a5 n5 c5 (l1 ++ r) ∧ Pk.EncL (kids.take j) r ∧ FB wr F b ∧ Kp F w.heap.size w wr ∧ w.heap.size + 1 ≤ wr.heap.size) (fun _ i _ => m - (intOf i).toNat)
        case atStart => exact ⟨0, Nat.zero_le _, rfl, a1, n1, c1, [], rfl, by simpa using ho1m, by simp [Pk.EncL], hB1, hk2, by omega⟩
        case round =>
          obtain ⟨j, hj, rfl, a5, n5, c5, r, rfl, ho5, hE5, hB5, hk5, hs5⟩ := hrel
          have hle := nodesL_take_le kids j
          have hrl := encL_len _ _ (fitsL_take kids j HF.out) hE5
          have hl5 := ho5.vw.len
          simp only [List.length_append] at hl5
          have hl1 := ho1m.vw.len
          have hn5 : n5 ≤ 5 + 2000 * 131100 := by omega
          clear hl5 hl1 hrl
          by_cases hlt : j < m
          · have hje : j < kids.length := by rw [← HM.out]; exact hlt
            have hxr : Below w0.heap.size w0 wr := HX.out.trans (hk5.below hxs (by omega))
            obtain ⟨b0, off, k', num', t', ext', a', n', c', rfl, hvs, q0, q1, q2, q3, q4'⟩ := kid_cells HC.out hxr j hje (HK.out j hje)
            have hle2 := nodesL_take_le kids (j + 1)
            have hsn := nodesL_snoc kids j hje
            have hcall := HI.out j hje (fitsL_at kids j hje HF.out) (by omega)
            rw [hvs] at hcall
            have HA := Lib.hid hcall
            have HVS := Lib.hid hvs
            have HE5 := Lib.hid hE5
            have HSN := Lib.hid hsn
            clear hcall hvs hE5 hsn hle2
            go_wp2_with fail
            refine (HA.out F b _ (by omega) (hxr.trans (Below.alloc (Below.refl _ _) hxr.size _)) (hB5.alloc _)).mono ?_
            rintro e w2 ⟨a2, n2, c2, x, rfl, ho2, hx2, hB2, hk22⟩
            have hxl := (enc_len _ _ (fitsL_at kids j hje HF.out) hx2).2
            have hnj : kids[j].nodes ≤ 2000 := by have := HSN.out; have := nodesL_take_le kids (j + 1); omega
            have hxn := ho2.vw.len
            have hn2 : n2 ≤ 2000 * 131100 := by have := Nat.mul_le_mul_right 131100 hnj; omega
            have ho5' : O8 w2 (w.heap.size + 1) a5 n5 c5 (l1 ++ r) := (ho5.alloc _).kp hk22 (Nat.le_refl _) (by omega)
            have hs2 := hk22.size
            simp only [World.size_alloc] at hs2
            have HX2 := Lib.hid (encL_snoc kids j hje HE5.out hx2)
            have hk6 : Kp F w.heap.size w w2 := hk5.trans ((Kp.of_below (F := F) (Below.alloc (Below.refl w.heap.size wr) (by omega) _)).trans (hk22.mono (by simp; omega)))
            have hv2 := ho2.vw
            clear hxl hnj hxn hx2 ho2
            go_wp2_with (at_builtin; refine app8 (by rfl) _ _ (by rfl) (w.heap.size + 1) a5 n5 c5 (l1 ++ r) (by rfl) ho5' a2 n2 c2 x (by rfl) hv2 (by omega) (by omega) ?_; intro a6 c6 w6 ho6 hg6; have hb6 := below_of_grown (B := w.heap.size + 1) hg6 (by omega) ho5'.ge)
            go_roundw
            case rel => exact ⟨j + 1, by omega, by go_num, a6, n5 + n2, c6, r ++ x, rfl, by rw [← List.append_assoc]; exact ho6, HX2.out, hB2.below hb6 (by omega), hk6.trans (Kp.of_below (hb6.mono (by omega))), by have := hb6.size; omega⟩
            case measure => simp [intOf]; omega
          · obtain rfl : j = m := by omega
            have et : kids.take j = kids := List.take_of_length_le (by rw [← HM.out]; exact Nat.le_refl _)
            rw [et] at hE5
            have hP := HL1.out r hE5
            have HP := Lib.hid hP
            clear et hE5 hP
            go_wp2_with fail
            go_ret
            exact ⟨a5, n5, c5, l1 ++ r, rfl, ho5.mono (by omega), HP.out, hB5, hk5⟩
    · have hkk : k = 0 ∨ k = 1 ∨ k = 2 ∨ k = 3 ∨ k = 4 ∨ k = 5 ∨ k = 6 ∨ k = 7 ∨ k = 10 := by obtain ⟨h1, h2, _⟩ := hf1; omega
      have hts : t.size ≤ 131072 := hf1.2.2.2.2.2.2.2
      rcases hkk with rfl | rfl | rfl | rfl | rfl | rfl | rfl | rfl | rfl
      · exact leaf (by omega) (putPack_nil num t ext a _ c F b w hB)
      · exact leaf (by omega) (putPack_bool num hr2.1 (hf1.2.2.1 rfl) t ext a _ c F b w hB)
      · exact leaf (by omega) (putPack_int 2 (by omega) num hr2.1 hr2.2 t ext a _ c F b w hB)
      · exact leaf (by omega) (putPack_int 3 (by omega) num hr2.1 hr2.2 t ext a _ c F b w hB)
      · exact leaf (by omega) (putPack_float 4 (by omega) num hr2.1 hr2.2 t ext a _ c F b w hB)
      · exact leaf (by omega) (putPack_float 5 (by omega) num hr2.1 hr2.2 t ext a _ c F b w hB)
      · exact leaf (by omega) (putPack_text num t hts ext a _ c F b w hB)
      · exact leaf (by omega) (putPack_bytes num t hts ext a _ c F b w hB)
      · exact leaf (by omega) (putPack_ext num t hts ext a _ c F b w hB)
end Go.Proofs.YtbngkfdfjpbajaaDoor
