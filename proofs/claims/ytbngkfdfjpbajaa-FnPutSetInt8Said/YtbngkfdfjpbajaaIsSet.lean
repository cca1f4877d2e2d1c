/- laws.isSet. -/
import Derived.Test.YtbngkfdfjpbajaaSameArr
namespace Go.Proofs.Ytbngkfdfjpbajaa
open Go.RowKit
set_option linter.unusedVariables false
set_option linter.unusedSimpArgs false

set_option maxRecDepth 100000 in
set_option maxHeartbeats 4000000 in
theorem isSet_ok (ps qs : List (Int × Int)) (es : List (List Int)) (a : Option Addr) (n c : Nat) (lb : List Int) (a2 : Option Addr) (m c2 : Nat) (kb : Option Addr) (kd : Nat) (w : World) (hv : Vw w a n c lb) (hv2 : Vw w a2 m c2 (lb ++ (hdA ps.length ++ es.flatten)))
    (hR : Rds ps es) (hm : ps.length ≤ 1000) (hfl : ps.length ≤ es.flatten.length) (hS : SameL ps qs) (h2 : Rd w kb (l5s qs)) :
    Calls Try.prog 8 #[.slice a n c, .slice a2 m c2, .slice kb ps.length kd] w fun e w' => e = .returned (.bool true) ∧ Below w.heap.size w w' := by
  have hcn := hv.cap
  have hcb := hv.big
  have hcn2 := hv2.cap
  have hcb2 := hv2.big
  have hlb := hv.len
  have hl2 := hv2.len
  rw [List.length_append] at hl2
  have hnm : n ≤ m := by omega
  have hmn : ((m : Int) < (n : Int)) = False := by simp; omega
  obtain ⟨a1, hs, hv1⟩ := off_of hv2 (n : Int) n rfl hnm
  rw [← hlb, List.drop_left, hlb] at hv1
  have HT := Lib.hid (fun W hx => takePack_hdA ps es a1 (m - n) (c2 - n) 3 W hR hm hfl (Vw.below (B := w.heap.size) hx (Nat.le_refl _) hv1) (by omega) (by omega))
  unfold TookA at HT
  have HS := Lib.hid (fun ka kc W h1 h2 => samePack_arr ps qs ka kb kc kd W hS h1 h2 hm)
  have H2 := Lib.hid h2
  unfold Off at hs
  have hvt := hv2.take (k := n) hnm
  rw [← hlb, List.take_left, hlb] at hvt
  have hc1 := fun o nq => conv_of ((hvt.alloc o).drewN nq)
  have hc2 := fun o nq => conv_of ((hv.alloc o).drewN nq)
  have hc3 := fun nq => conv_of (hvt.drewN nq)
  have hc4 := fun nq => conv_of (hv.drewN nq)
  have hnc2 : n ≤ c2 := by omega
  obtain ⟨k, hk⟩ : ∃ k, k = ps.length := ⟨_, rfl⟩
  rw [← hk] at HT HS hm ⊢
  clear hk hR hS h2 hfl hl2 hv1 hvt hv hv2
  go_enter Try.func8, Try.ntmps8
  go_wp2_with fail
  go_quiet (fail)
  go_wp2_with fail
  have hb0 : Below w.heap.size w (w.drewN nq) := below_drewN (Below.refl _ _) nq
  refine (HT.out _ hb0).mono ?_
  rintro e w1 ⟨ka, kc, a', c', rfl, hr1, hka, hb1⟩
  have hb1' : Below w.heap.size w w1 := hb0.trans (hb1.mono (by simp))
  have HB1 := Lib.hid hb1'
  have HR1 := Lib.hid hr1
  have hz1 := hb1'.size
  clear hr1 hb1 hb1' hka hb0
  go_wp2_with fail
  refine (HS.out ka kc _ (HR1.out.alloc _) (H2.out.below (HB1.out.alloc (by omega) _) (Nat.le_refl _))).mono ?_
  rintro e w2 ⟨rfl, hb2⟩
  go_wp2_with fail
  go_ret
  exact ⟨rfl, (HB1.out.alloc (by omega) _).trans (hb2.mono (by simp; omega))⟩
end Go.Proofs.Ytbngkfdfjpbajaa
