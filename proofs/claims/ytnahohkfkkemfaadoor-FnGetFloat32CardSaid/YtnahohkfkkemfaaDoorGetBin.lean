/- msgp.ReadBytesHeader, impl.GetBinHead. -/
import Derived.Test.YtnahohkfkkemfaaDoorBE
import Derived.Test.YtnahohkfkkemfaaDoorBad
namespace Go.Proofs.YtnahohkfkkemfaaDoor
open Go.RowKit
set_option linter.unusedVariables false
set_option linter.unusedSimpArgs false

theorem size1 (w : World) : (sizeOf 5).run Tryd.prog w = .ok 1 w := by kernel_rfl
/-- Slicing from i on gives the address a'. -/
def Off (a : Option Addr) (n c : Nat) (i : Int) (a' : Option Addr) (k : Nat) : Prop :=
  ∀ w', (Instr.slice 26 (.slice a n c) (some (.int .i64 i)) none none).run Tryd.prog w' = .ok (.slice a' (n - k) (c - k)) w'
theorem off_of {w : World} {a : Option Addr} {n c : Nat} {l : List Int} (h : Vw w a n c l) (i : Int) (k : Nat) (hi : i = k) (hk : k ≤ n) : ∃ a', Off a n c i a' k ∧ Vw w a' (n - k) (c - k) (l.drop k) :=
  h.from Tryd.prog 26 5 Tryd.underlying26 size1 .i64 i k hi hk

/-- The library's variable holds an error. -/
def Gl (w : World) : Prop := ∃ T v, w.cell? ⟨0, 0, none⟩ = some (.iface T v)

/-- The head of bytes: how many, and how long the head is. -/
def isBin (l : List Int) : Option (Int × Nat) :=
  if l.length < 1 then none
  else if l.getD 0 0 = 196 then (if l.length < 2 then none else some (l.getD 1 0, 2))
  else if l.getD 0 0 = 197 then (if l.length < 3 then none else some (beN [l.getD 1 0, l.getD 2 0], 3))
  else if l.getD 0 0 = 198 then (if l.length < 5 then none else some (beN [l.getD 1 0, l.getD 2 0, l.getD 3 0, l.getD 4 0], 5))
  else none

/-- A reader's answer: an error. -/
def BadRes3 (K : IntKind) (w : World) (e : Ending) (w' : World) : Prop := ∃ (z : Int) (a : Option Addr) (n c : Nat) (T : TypeId) (v : Value), e = .returned (.tuple #[.int K z, .slice a n c, .iface T v]) ∧ Below w.heap.size w w'

theorem drop_cells (l : List Int) (k : Nat) : ∀ m, k + m ≤ l.length → ∃ r, l.drop k = (List.range m).map (fun i => l.getD (k + i) 0) ++ r := fun m hm => by
  refine ⟨l.drop (k + m), ?_⟩
  apply List.ext_getElem?
  intro i
  by_cases hi : i < m
  · rw [List.getElem?_append_left (by simpa using hi), List.getElem?_drop]
    have : k + i < l.length := by omega
    simp [hi, List.getD, List.getElem?_eq_getElem this]
  · rw [List.getElem?_append_right (by simpa using hi), List.getElem?_drop, List.getElem?_drop]
    congr 1
    simp
    omega

set_option maxRecDepth 100000 in
set_option maxHeartbeats 8000000 in
theorem rbh_good (a : Option Addr) (n c : Nat) (l : List Int) (u : Int) (k : Nat) (hd : isBin l = some (u, k)) (w : World) (hv : Vw w a n c l) :
    ∃ a', Vw w a' (n - k) (c - k) (l.drop k) ∧ Calls Tryd.prog 29 #[.slice a n c] w fun e w' => e = .returned (.tuple #[.int .u32 u, .slice a' (n - k) (c - k), .nilIface]) ∧ Below w.heap.size w w' := by
  have hn := hv.len
  have hcn := hv.cap
  have hcb := hv.big
  unfold isBin at hd
  by_cases h1 : l.length < 1
  · rw [if_pos h1] at hd; cases hd
  · rw [if_neg h1] at hd
    rcases hv.cells with h0 | ⟨b, off, rfl, hc⟩
    · omega
    · have q0 : w.cell? ⟨b, off, none⟩ = some (.int .u8 (l.getD 0 0)) := by simpa using hc 0 (by omega)
      have b0 : (0 : Int) < (n : Int) := by omega
      have d1 : decide ((n : Int) < 1) = false := by simp; omega
      obtain ⟨a1, ho1, hv1⟩ := off_of hv 1 1 rfl (by omega)
      unfold Off at ho1
      by_cases z1 : l.getD 0 0 = 196
      · rw [if_pos z1] at hd
        by_cases h2 : l.length < 2
        · rw [if_pos h2] at hd; cases hd
        · rw [if_neg h2] at hd
          obtain ⟨rfl, rfl⟩ : l.getD 1 0 = u ∧ 2 = k := by injection hd with hd; injection hd with x y; exact ⟨x, y⟩
          obtain ⟨a2, ho2, hv2⟩ := off_of hv 2 2 rfl (by omega)
          unfold Off at ho2
          refine ⟨a2, hv2, ?_⟩
          obtain ⟨x, hx⟩ : ∃ x, x = l.getD 1 0 := ⟨_, rfl⟩
          have q1 : w.cell? ⟨b, off + 1, none⟩ = some (.int .u8 x) := by rw [hx]; exact hc 1 (by omega)
          have hxb := hv.byt _ (getD_mem l 1 (by omega))
          rw [← hx] at hxb ⊢
          obtain ⟨hx0, hx1⟩ := hxb
          rw [z1] at q0
          have b1 : (1 : Int) < (n : Int) := by omega
          have d2 : decide ((n : Int) < 2) = false := by simp; omega
          clear hc hn z1 hx
          go_enter Tryd.func29, Tryd.ntmps29
          go_wp2_with fail
          go_ret3
          exact ⟨rfl, Below.refl _ _⟩
      · rw [if_neg z1] at hd
        by_cases z2 : l.getD 0 0 = 197
        · rw [if_pos z2] at hd
          by_cases h2 : l.length < 3
          · rw [if_pos h2] at hd; cases hd
          · rw [if_neg h2] at hd
            obtain ⟨rfl, rfl⟩ : beN [l.getD 1 0, l.getD 2 0] = u ∧ 3 = k := by injection hd with hd; injection hd with x y; exact ⟨x, y⟩
            obtain ⟨a2, ho2, hv2⟩ := off_of hv 3 3 rfl (by omega)
            unfold Off at ho2
            refine ⟨a2, hv2, ?_⟩
            obtain ⟨r, hr⟩ := drop_cells l 1 2 (by omega)
            rw [hr] at hv1
            have hbe := fun W (h : Vw W a1 (n - 1) (c - 1) _) => be16_any a1 (n - 1) (c - 1) (l.getD 1 0) (l.getD 2 0) r W h
            have hy1 := hv.byt _ (getD_mem l 1 (by omega))
            have hy2 := hv.byt _ (getD_mem l 2 (by omega))
            have hmod : beN [l.getD 1 0, l.getD 2 0] % 4294967296 = beN [l.getD 1 0, l.getD 2 0] := by simp only [beN, List.foldl_cons, List.foldl_nil]; omega
            obtain ⟨u, hu⟩ : ∃ u, u = beN [l.getD 1 0, l.getD 2 0] := ⟨_, rfl⟩
            rw [← hu] at hmod
            clear hy1 hy2
            rw [← hu] at hbe ⊢
            have HB := Lib.hid hbe
            have HV := Lib.hid hv1
            rw [z2] at q0
            have d2 : decide ((n : Int) < 3) = false := by simp; omega
            clear hc hn z1 z2 hbe hv1 hr hu
            go_enter Tryd.func29, Tryd.ntmps29
            go_wp2_with fail
            go_still_tail 3, (by kernel_rfl)
            change wpList _ _ _ _ _ w.drew
            go_wp2_with fail
            refine (HB.out _ HV.out.drew).mono ?_
            rintro e w1 ⟨rfl, hb1⟩
            go_wp2_with fail
            go_ret3
            exact ⟨rfl, Below.trans (Below.drew (Below.refl _ _)) hb1⟩
        · rw [if_neg z2] at hd
          by_cases z3 : l.getD 0 0 = 198
          · rw [if_pos z3] at hd
            by_cases h2 : l.length < 5
            · rw [if_pos h2] at hd; cases hd
            · rw [if_neg h2] at hd
              obtain ⟨rfl, rfl⟩ : beN [l.getD 1 0, l.getD 2 0, l.getD 3 0, l.getD 4 0] = u ∧ 5 = k := by injection hd with hd; injection hd with x y; exact ⟨x, y⟩
              obtain ⟨a2, ho2, hv2⟩ := off_of hv 5 5 rfl (by omega)
              unfold Off at ho2
              refine ⟨a2, hv2, ?_⟩
              obtain ⟨r, hr⟩ := drop_cells l 1 4 (by omega)
              rw [hr] at hv1
              have hbe := fun W (h : Vw W a1 (n - 1) (c - 1) _) => be32_any a1 (n - 1) (c - 1) (l.getD 1 0) (l.getD 2 0) (l.getD 3 0) (l.getD 4 0) r W h
              obtain ⟨u, hu⟩ : ∃ u, u = beN [l.getD 1 0, l.getD 2 0, l.getD 3 0, l.getD 4 0] := ⟨_, rfl⟩
              rw [← hu] at hbe ⊢
              have HB := Lib.hid hbe
              have HV := Lib.hid hv1
              rw [z3] at q0
              have d2 : decide ((n : Int) < 5) = false := by simp; omega
              clear hc hn z1 z2 z3 hbe hv1 hr hu
              go_enter Tryd.func29, Tryd.ntmps29
              go_wp2_with fail
              go_still_tail 3, (by kernel_rfl)
              change wpList _ _ _ _ _ w.drew
              go_wp2_with fail
              refine (HB.out _ HV.out.drew).mono ?_
              rintro e w1 ⟨rfl, hb1⟩
              go_wp2_with fail
              go_ret3
              exact ⟨rfl, Below.trans (Below.drew (Below.refl _ _)) hb1⟩
          · rw [if_neg z3] at hd; cases hd

set_option maxRecDepth 100000 in
set_option maxHeartbeats 8000000 in
theorem rbh_bad (a : Option Addr) (n c : Nat) (l : List Int) (hd : isBin l = none) (w : World) (hv : Vw w a n c l) (hg : Gl w) :
    Calls Tryd.prog 29 #[.slice a n c] w (BadRes3 .u32 w) := by
  obtain ⟨T, v, hgl⟩ := hg
  have hn := hv.len
  have hcn := hv.cap
  have hcb := hv.big
  unfold isBin at hd
  by_cases h1 : l.length < 1
  · have d1 : decide ((n : Int) < 1) = true := by simp; omega
    clear hd hn h1
    go_enter Tryd.func29, Tryd.ntmps29
    go_wp2_with fail
    go_quiet (fail)
    go_wp2_with fail
    go_ret3
    exact ⟨_, _, _, _, _, _, rfl, by (repeat (first | with_reducible exact Below.refl _ _ | with_reducible assumption | with_reducible refine below_drewN ?_ _ | with_reducible refine Below.drew ?_ | with_reducible refine below_row ?_ (by first | omega | (simp; done) | (simp; omega)) _ | with_reducible refine Below.alloc ?_ (by first | omega | (simp; done) | (simp; omega)) _ | with_reducible refine Below.setCell ?_ (by first | omega | (simp; done) | (simp; omega)) _))⟩
  · rw [if_neg h1] at hd
    rcases hv.cells with h0 | ⟨b, off, rfl, hc⟩
    · omega
    · obtain ⟨z, hz⟩ : ∃ z, z = l.getD 0 0 := ⟨_, rfl⟩
      have q0 : w.cell? ⟨b, off, none⟩ = some (.int .u8 z) := by rw [hz]; simpa using hc 0 (by omega)
      have hzb := hv.byt _ (getD_mem l 0 (by omega))
      rw [← hz] at hd hzb
      obtain ⟨hz0, hz1⟩ := hzb
      have b0 : (0 : Int) < (n : Int) := by omega
      have d1 : decide ((n : Int) < 1) = false := by simp; omega
      by_cases z1 : z = 196
      · rw [if_pos z1] at hd
        subst z1
        have d2 : decide ((n : Int) < 2) = true := by
          by_cases h2 : l.length < 2
          · simp; omega
          · rw [if_neg h2] at hd; cases hd
        clear hd hn h1 hc hz
        go_enter Tryd.func29, Tryd.ntmps29
        go_wp2_with fail
        go_ret3
        exact ⟨_, _, _, _, _, _, rfl, by (repeat (first | with_reducible exact Below.refl _ _ | with_reducible assumption | with_reducible refine below_drewN ?_ _ | with_reducible refine Below.drew ?_ | with_reducible refine below_row ?_ (by first | omega | (simp; done) | (simp; omega)) _ | with_reducible refine Below.alloc ?_ (by first | omega | (simp; done) | (simp; omega)) _ | with_reducible refine Below.setCell ?_ (by first | omega | (simp; done) | (simp; omega)) _))⟩
      · rw [if_neg z1] at hd
        by_cases z2 : z = 197
        · rw [if_pos z2] at hd
          subst z2
          have d2 : decide ((n : Int) < 3) = true := by
            by_cases h2 : l.length < 3
            · simp; omega
            · rw [if_neg h2] at hd; cases hd
          clear hd hn h1 hc hz
          go_enter Tryd.func29, Tryd.ntmps29
          go_wp2_with fail
          go_ret3
          exact ⟨_, _, _, _, _, _, rfl, by (repeat (first | with_reducible exact Below.refl _ _ | with_reducible assumption | with_reducible refine below_drewN ?_ _ | with_reducible refine Below.drew ?_ | with_reducible refine below_row ?_ (by first | omega | (simp; done) | (simp; omega)) _ | with_reducible refine Below.alloc ?_ (by first | omega | (simp; done) | (simp; omega)) _ | with_reducible refine Below.setCell ?_ (by first | omega | (simp; done) | (simp; omega)) _))⟩
        · rw [if_neg z2] at hd
          by_cases z3 : z = 198
          · rw [if_pos z3] at hd
            subst z3
            have d2 : decide ((n : Int) < 5) = true := by
              by_cases h2 : l.length < 5
              · simp; omega
              · rw [if_neg h2] at hd; cases hd
            clear hd hn h1 hc hz
            go_enter Tryd.func29, Tryd.ntmps29
            go_wp2_with fail
            go_ret3
            exact ⟨_, _, _, _, _, _, rfl, by (repeat (first | with_reducible exact Below.refl _ _ | with_reducible assumption | with_reducible refine below_drewN ?_ _ | with_reducible refine Below.drew ?_ | with_reducible refine below_row ?_ (by first | omega | (simp; done) | (simp; omega)) _ | with_reducible refine Below.alloc ?_ (by first | omega | (simp; done) | (simp; omega)) _ | with_reducible refine Below.setCell ?_ (by first | omega | (simp; done) | (simp; omega)) _))⟩
          · have e1 : (z == 196) = false := by simpa using z1
            have e2 : (z == 197) = false := by simpa using z2
            have e3 : (z == 198) = false := by simpa using z3
            clear hd hn h1 hc hz z1 z2 z3
            go_enter Tryd.func29, Tryd.ntmps29
            go_wp2_with fail
            refine (badPrefix_any 2 z hz0 (by omega) _).mono ?_
            rintro e w1 ⟨T2, v2, rfl, hb1⟩
            go_wp2_with fail
            go_ret3
            exact ⟨_, _, _, _, _, _, rfl, hb1⟩

set_option maxRecDepth 100000 in
set_option maxHeartbeats 4000000 in
theorem getBin_good (a : Option Addr) (n c : Nat) (l : List Int) (hl : l.length ≤ 1099511627776) (u : Int) (k : Nat) (hd : isBin l = some (u, k)) (w : World) (hv : Vw w a n c l) :
    Calls Tryd.prog 13 #[.slice a n c] w fun e w' => ∃ a' c', e = .returned (.tuple #[.int .u32 u, .slice a' (n - k) c', .bool true]) ∧ Vw w' a' (n - k) c' (l.drop k) ∧ Below w.heap.size w w' := by
  have hn := hv.len
  obtain ⟨a1, hv1, hc⟩ := rbh_good a n c l u k hd w hv
  have HC := Lib.hid hc
  have HD := Lib.hid hd
  have HN := Lib.hid hn
  clear hc hd hn
  go_enter Tryd.func13, Tryd.ntmps13
  go_wp2_with fail
  refine HC.out.mono ?_
  rintro e w1 ⟨rfl, hb1⟩
  go_wp2_with fail
  refine (copied_any a1 (n - k) (c - k) _ _ (Vw.below hb1 (Nat.le_refl _) hv1) (by have := HN.out; omega)).mono ?_
  rintro e w2 ⟨a2, c2, rfl, ho2, hb2⟩
  go_wp2_with fail
  go_ret3
  exact ⟨a2, c2, rfl, ho2.vw, hb1.trans (hb2.mono hb1.size)⟩

set_option maxRecDepth 100000 in
set_option maxHeartbeats 4000000 in
theorem getBin_bad (a : Option Addr) (n c : Nat) (l : List Int) (hd : isBin l = none) (w : World) (hv : Vw w a n c l) (hg : Gl w) :
    Calls Tryd.prog 13 #[.slice a n c] w fun e w' => e = .returned (.tuple #[.int .u32 0, .slice none 0 0, .bool false]) ∧ Below w.heap.size w w' := by
  have hc := rbh_bad a n c l hd w hv hg
  have HC := Lib.hid hc
  have HD := Lib.hid hd
  clear hc hd
  go_enter Tryd.func13, Tryd.ntmps13
  go_wp2_with fail
  refine HC.out.mono ?_
  rintro e w1 ⟨z, a1, n1, c1, T, v, rfl, hb1⟩
  go_wp2_with fail
  go_outline
  go_ret3
  exact ⟨rfl, hb1⟩

set_option maxRecDepth 100000 in
theorem left_any (a1 a2 : Option Addr) (n1 n2 c1 c2 : Nat) (l : List Int) (w : World) (h1 : Vw w a1 n1 c1 l) (h2 : Vw w a2 n2 c2 l) :
    Calls Tryd.prog 12 #[.slice a1 n1 c1, .slice a2 n2 c2] w fun e w' => e = .returned (.bool true) ∧ w = w' := by
  have e1 := h1.string Tryd.prog 26 5 9 Tryd.underlying26 Tryd.underlying5 Tryd.underlying9
  have e2 := h2.string Tryd.prog 26 5 9 Tryd.underlying26 Tryd.underlying5 Tryd.underlying9
  go_enter Tryd.func12, Tryd.ntmps12
  go_wp2_with fail
  go_ret
  exact ⟨rfl, rfl⟩
end Go.Proofs.YtnahohkfkkemfaaDoor
