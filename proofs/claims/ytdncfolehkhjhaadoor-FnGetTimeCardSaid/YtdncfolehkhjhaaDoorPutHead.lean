/- spec.PutHead. -/
import Derived.Test.YtdncfolehkhjhaaDoorHeadP
namespace Go.Proofs.YtdncfolehkhjhaaDoor
open Go.RowKit
set_option linter.unusedVariables false
set_option linter.unusedSimpArgs false

theorem may4 (n : Nat) (hn : n ≤ 4294967295) (l : List (Int × Nat)) (z : Int) (h : (z, 4) ∈ l) : 0 < (may n l).length := by
  refine List.length_pos_of_mem (a := (z, 4)) (List.mem_filter.2 ⟨h, ?_⟩)
  have : (n : Int) / 2 ^ (8 * 4) = 0 := by show (n : Int) / 4294967296 = 0; omega
  show (decide (8 ≤ 4) || decide ((n : Int) / 2 ^ (8 * 4) = 0)) = true
  rw [this]
  rfl

theorem or16 (z : Int) (hz : z = 144 ∨ z = 128) (n : Nat) (h : n < 16) : bits BinOp.or IntKind.i64 z (n : Int) % 256 = z + n ∧ 0 ≤ z + n ∧ z + n ≤ 255 := by
  refine ⟨?_, by omega, by omega⟩
  have h1 : ∀ n : Fin 16, bits BinOp.or IntKind.i64 144 (n.val : Int) % 256 = 144 + n.val := by decide
  have h2 : ∀ n : Fin 16, bits BinOp.or IntKind.i64 128 (n.val : Int) % 256 = 128 + n.val := by decide
  rcases hz with rfl | rfl
  · exact h1 ⟨n, h⟩
  · exact h2 ⟨n, h⟩
theorem or32 (n : Nat) (h : n < 32) : bits BinOp.or IntKind.i64 160 (n : Int) % 256 = 160 + n ∧ (0 : Int) ≤ 160 + n ∧ (160 : Int) + n ≤ 255 := by
  refine ⟨?_, by omega, by omega⟩
  have h1 : ∀ n : Fin 32, bits BinOp.or IntKind.i64 160 (n.val : Int) % 256 = 160 + n.val := by decide
  exact h1 ⟨n, h⟩

abbrev formsA : List (Int × Nat) := [(220, 2), (221, 4)]
abbrev formsM : List (Int × Nat) := [(222, 2), (223, 4)]
abbrev formsB : List (Int × Nat) := [(196, 1), (197, 2), (198, 4)]
abbrev formsT : List (Int × Nat) := [(217, 1), (218, 2), (219, 4)]
/-- The heads of a kind. -/
def HeadK (k : Int) (n : Nat) : List Int → Prop :=
  if k = 8 then HeadL n 144 16 formsA else if k = 9 then HeadL n 128 16 formsM else if k = 7 then HeadL n (-1) 0 formsB else HeadL n 160 32 formsT

set_option maxRecDepth 100000 in
set_option maxHeartbeats 4000000 in
theorem PutHead_any (k : Int) (n : Nat) (hn : n ≤ 4294967295) (F : Nat) (b : Bool) (w : World) (hB : FB w F b) :
    Calls Tryd.prog 53 #[.int .i64 k, .int .u32 n, .pointer (some ⟨F, 0, none⟩)] w (PutRes F b (HeadK k n) w) := by
  have lift : ∀ (cs : Array Value) (L : List Int → Prop) (e : Ending) (w' : World), PutRes F b L (w.alloc (.cells cs 76)) e w' → PutRes F b L w e w' := by
    rintro cs L e w' ⟨a, m, c, l, rfl, ho, hL, hF, hk⟩
    have hs : w.heap.size ≤ (w.alloc (.cells cs 76)).heap.size := by simp
    exact ⟨a, m, c, l, rfl, ho.mono hs, hL, hF, (Kp.of_below ((Below.refl _ _).alloc (Nat.le_refl _) _)).trans (hk.mono hs)⟩
  have HLF := Lib.hid lift
  clear lift
  have mA := may4 n hn formsA 221 (by simp)
  have mM := may4 n hn formsM 223 (by simp)
  have mB := may4 n hn formsB 198 (by simp)
  have mT := may4 n hn formsT 219 (by simp)
  unfold HeadK
  by_cases k8 : k = 8
  · rw [if_pos k8]
    subst k8
    go_enter Tryd.func53, Tryd.ntmps53
    go_wp2_with fail
    refine (putHead_any n hn 144 (by omega) (by omega) 16 (by omega) (fun _ h => or16 144 (.inl rfl) n h) formsA (by simp) (by simp) mA (some ⟨w.heap.size, 0, none⟩) 2 F b _ (hB.alloc _) (Rd.lit w 76 (fcells formsA))).mono ?_
    rintro e w' h
    have h' := HLF.out _ _ _ _ h
    obtain ⟨a, m, c, l, rfl, hres⟩ := h'
    go_wp2_with fail
    go_ret
    exact ⟨a, m, c, l, rfl, hres⟩
  · rw [if_neg k8]
    have d8 : (k == 8) = false := by simpa using k8
    by_cases k9 : k = 9
    · rw [if_pos k9]
      subst k9
      go_enter Tryd.func53, Tryd.ntmps53
      go_wp2_with fail
      refine (putHead_any n hn 128 (by omega) (by omega) 16 (by omega) (fun _ h => or16 128 (.inr rfl) n h) formsM (by simp) (by simp) mM (some ⟨w.heap.size, 0, none⟩) 2 F b _ (hB.alloc _) (Rd.lit w 76 (fcells formsM))).mono ?_
      rintro e w' h
      have h' := HLF.out _ _ _ _ h
      obtain ⟨a, m, c, l, rfl, hres⟩ := h'
      go_wp2_with fail
      go_ret
      exact ⟨a, m, c, l, rfl, hres⟩
    · rw [if_neg k9]
      have d9 : (k == 9) = false := by simpa using k9
      by_cases k7 : k = 7
      · rw [if_pos k7]
        subst k7
        go_enter Tryd.func53, Tryd.ntmps53
        go_wp2_with fail
        refine (putHead_any n hn (-1) (by omega) (by omega) 0 (by omega) (fun h => by omega) formsB (by simp) (by simp) mB (some ⟨w.heap.size, 0, none⟩) 3 F b _ (hB.alloc _) (Rd.lit w 76 (fcells formsB))).mono ?_
        rintro e w' h
        have h' := HLF.out _ _ _ _ h
        obtain ⟨a, m, c, l, rfl, hres⟩ := h'
        go_wp2_with fail
        go_ret
        exact ⟨a, m, c, l, rfl, hres⟩
      · rw [if_neg k7]
        have d7 : (k == 7) = false := by simpa using k7
        go_enter Tryd.func53, Tryd.ntmps53
        go_wp2_with fail
        refine (putHead_any n hn 160 (by omega) (by omega) 32 (by omega) (fun _ h => or32 n h) formsT (by simp) (by simp) mT (some ⟨w.heap.size, 0, none⟩) 3 F b _ (hB.alloc _) (Rd.lit w 76 (fcells formsT))).mono ?_
        rintro e w' h
        have h' := HLF.out _ _ _ _ h
        obtain ⟨a, m, c, l, rfl, hres⟩ := h'
        go_wp2_with fail
        go_ret
        exact ⟨a, m, c, l, rfl, hres⟩
end Go.Proofs.YtdncfolehkhjhaaDoor
