/- Arrays of Double: encoding.arrayDouble.Marshal, impl.WriteArrayDouble, the walk of laws.FnWriteArrayDouble. -/
import Derived.Test.YtkbfppjniaejnaaDoorArrW
namespace Go.Proofs.YtkbfppjniaejnaaDoor
open Go.RowKit
set_option linter.unusedVariables false
set_option linter.unusedSimpArgs false

def el (x : Int) : List Int × Int × ByteArray := (be8 x, x, ⟨#[]⟩)
def els (xs : List Int) : Els := xs.map el
def vals (xs : List Int) : List Value := xs.map fun x => .int .u64 x
def fvals (xs : List Int) : List Value := xs.map fun x => Value.float .f64 x.toNat

theorem els_len (xs : List Int) : (els xs).length = xs.length := by simp [els]
theorem vals_len (xs : List Int) : (vals xs).length = xs.length := by simp [vals]
theorem flat_len (xs : List Int) : (flat (els xs)).length = xs.length * 8 := by
  induction xs with
  | nil => rfl
  | cons x xs ih => simp [flat, els, el, be8] at ih ⊢; omega
theorem flat_snoc (xs : List Int) (j : Nat) (h : j < xs.length) : flat (els (xs.take (j + 1))) = flat (els (xs.take j)) ++ (el xs[j]).1 := by
  unfold flat els
  rw [List.take_succ_eq_append_getElem h, List.map_append, List.flatMap_append]
  simp only [List.map_cons, List.map_nil, List.flatMap_cons, List.flatMap_nil, List.append_nil]
theorem kids_snoc (xs : List Int) (j : Nat) (h : j < xs.length) : kidsV 11 (els (xs.take (j + 1))) = kidsV 11 (els (xs.take j)) ++ kid 11 (el xs[j]).2.1 (el xs[j]).2.2 := by
  unfold kidsV els
  rw [List.take_succ_eq_append_getElem h, List.map_append, List.flatMap_append]
  simp only [List.map_cons, List.map_nil, List.flatMap_cons, List.flatMap_nil, List.append_nil]
theorem fvals_snoc (xs : List Int) (j : Nat) (h : j < xs.length) (x : Int) (hx : x = xs[j]) : fvals (xs.take (j + 1)) = fvals (xs.take j) ++ [Value.float .f64 x.toNat] := by
  subst hx
  unfold fvals
  rw [List.take_succ_eq_append_getElem h, List.map_append]
  simp only [List.map_cons, List.map_nil]
theorem Rd.val_at {w : World} {a : Option Addr} {xs : List Int} (h : Rd w a (vals xs)) (j : Nat) (hj : j < xs.length) : ∃ b off, a = some ⟨b, off, none⟩ ∧ w.cell? ⟨b, off + j, none⟩ = some (.int .u64 xs[j]) := by
  rcases h with h | ⟨b, off, ha, hx⟩
  · have := vals_len xs; rw [h] at this; simp at this; omega
  · exact ⟨b, off, ha, hx j _ (by simp [vals, hj])⟩

theorem fvals_len (xs : List Int) : (fvals xs).length = xs.length := by simp [fvals]
theorem Rd.fval_at {w : World} {a : Option Addr} {xs : List Int} (h : Rd w a (fvals xs)) (j : Nat) (hj : j < xs.length) (x : Int) (hx : x = xs[j]) : ∃ b off, a = some ⟨b, off, none⟩ ∧ w.cell? ⟨b, off + j, none⟩ = some (Value.float .f64 x.toNat) := by
  subst hx
  rcases h with h | ⟨b, off, ha, hx⟩
  · have := fvals_len xs; rw [h] at this; simp at this; omega
  · exact ⟨b, off, ha, hx j _ (by simp [fvals, hj])⟩

def Rng (x : Int) : Prop := 0 ≤ x ∧ x < 18446744073709551616
theorem elem_of (x : Int) (hx : Rng x) : Elem 130 11 (el x) := by
  unfold Rng at hx
  intro w0 a n c tail lv hv
  unfold el at hv ⊢
  have hb8 : beN (be8 x) = x := by simp [beN, be8]; omega
  have hl8 : (be8 x).length = 8 := rfl
  obtain ⟨a', hv', h⟩ := take_num 130 11 8 8 rfl ⟨rfl, rfl⟩ (by omega) (by omega) (by omega) (by omega) none 0 0 a n c _ lv w0 hv (by have := hv.len; simp at this; omega)
  rw [List.take_left' hl8, hb8] at h
  rw [List.drop_left' hl8] at hv'
  exact ⟨a', by simpa [hl8] using hv', fun w hw => by simpa [hl8] using h w hw⟩

set_option maxRecDepth 100000 in
set_option maxHeartbeats 4000000 in
theorem marshal (xs : List Int) (hx : ∀ x ∈ xs, Rng x) (hm : xs.length ≤ 1000) (a : Option Addr) (c : Nat) (g : Nat) (w : World) (hb : Bf w g []) (hr : Rd w a (fvals xs)) (hlt : ∀ x, a = some x → x.block < g) :
    Calls Tryd.prog 38 #[.slice a xs.length c, .pointer (some ⟨g, 0, none⟩)] w fun e w' => e = .returned .nilIface ∧ Bf w' g (arrHd 130 (els xs).length (flat (els xs)).length ++ flat (els xs)) ∧ Below g w w' := by
  rw [els_len, flat_len]
  have hfl : ∀ j, (flat (els (xs.take j))).length ≤ 16000 := fun j => by
    rw [flat_len, List.length_take]
    omega
  have hhl := arrHd_len 130 xs.length (xs.length * 8)
  obtain ⟨hd, hhd⟩ : ∃ hd, hd = arrHd 130 xs.length (xs.length * 8) := ⟨_, rfl⟩
  obtain ⟨m, hmm⟩ : ∃ m, m = xs.length := ⟨_, rfl⟩
  rw [← hhd] at hhl ⊢
  rw [← hmm] at hm hhd ⊢
  have HM := Lib.hid hmm
  have HD := Lib.hid hhd
  have HR := Lib.hid hx
  clear hmm hhd hx
  have hfb := float_from
  have hbf := float_to
  go_enter Tryd.func38, Tryd.ntmps38
  go_wp2_with fail
  refine (arrHead_buf g _ hb m 8 130 (by omega) (by omega) (by omega) (by omega) (by omega)).mono ?_
  rintro e w1 ⟨rfl, hb1, hl1⟩
  rw [← HD.out] at hb1
  go_wp2_with fail
  go_loopw [13] (fun i wr => ∃ j, j ≤ m ∧ i = .int .i64 j ∧ Bf wr g (hd ++ flat (els (xs.take j))) ∧ Below g w wr) (fun i _ => m - (intOf i).toNat)
  case atStart => exact ⟨0, Nat.zero_le _, rfl, by simpa [els, flat] using hb1, hl1⟩
  case round =>
    obtain ⟨j, hj, rfl, hbj, hlj⟩ := hrel
    by_cases hlt' : j < m
    · have hje : j < xs.length := by rw [← HM.out]; exact hlt'
      obtain ⟨x, hxj⟩ : ∃ x, x = xs[j] := ⟨_, rfl⟩
      obtain ⟨b, off, rfl, hc0⟩ := hr.fval_at j hje x hxj
      have hcx : wr.cell? ⟨b, off + j, none⟩ = some (Value.float .f64 x.toNat) := by rw [hlj.cell (p := ⟨b, off + j, none⟩) (hlt ⟨b, off, none⟩ rfl)]; exact hc0
      have hxr := HR.out x (by rw [hxj]; exact List.getElem_mem hje)
      unfold Rng at hxr
      obtain ⟨hx0, hx1⟩ := hxr
      have hsn := flat_snoc xs j hje
      rw [← hxj] at hsn
      have HS := Lib.hid hsn
      have HX := Lib.hid hxj
      have hlen : (hd ++ flat (els (xs.take j))).length + 16 ≤ 1099511627776 := by
        rw [List.length_append]
        have := hfl j
        omega
      clear hsn hxj hc0
      obtain ⟨y, hy⟩ : ∃ y : Nat, x = (y : Int) := ⟨x.toNat, by omega⟩
      rw [hy, Int.toNat_natCast] at hcx
      have HY := Lib.hid hy
      have hx2 : 0 ≤ x ∧ x < 18446744073709551616 := ⟨hx0, hx1⟩
      clear hy hx0 hx1
      go_wp2_with fail
      rw [← HY.out]
      refine (bufU64 g _ x _ hbj hx2.1 hx2.2 (by omega)).mono ?_
      rintro e w5 ⟨rfl, hb5, hl5⟩
      go_wp2_with fail
      go_roundw
      case rel => exact ⟨j + 1, by omega, by go_num, by rw [HS.out, ← List.append_assoc]; exact hb5, hlj.trans hl5⟩
      case measure => simp [intOf]; omega
    · obtain rfl : j = m := by omega
      have hz : flat (els (xs.take j)) = flat (els xs) := by rw [List.take_of_length_le (by rw [← HM.out]; exact Nat.le_refl _)]
      rw [hz] at hbj
      go_wp2_with fail
      go_ret
      exact ⟨rfl, hbj, hlj⟩

set_option maxRecDepth 100000 in
set_option maxHeartbeats 8000000 in
theorem implWrite (xs : List Int) (hx : ∀ x ∈ xs, Rng x) (hm : xs.length ≤ 1000) (a0 : Option Addr) (c0 : Nat) (w : World) (hr : Rd w a0 (vals xs)) :
    Calls Tryd.prog 22 #[.slice a0 xs.length c0] w fun e w' => ∃ a n c, e = .returned (.tuple #[.slice a n c, .bool true]) ∧ Vw w' a n c (arrHd 130 (els xs).length (flat (els xs)).length ++ flat (els xs)) ∧ Below w.heap.size w w' := by
  have hlen : (arrHd 130 (els xs).length (flat (els xs)).length ++ flat (els xs)).length ≤ 1099511627776 := by
    have := arrHd_len 130 (els xs).length (flat (els xs)).length
    rw [List.length_append, flat_len] at *
    omega
  obtain ⟨out, hout⟩ : ∃ out, out = arrHd 130 (els xs).length (flat (els xs)).length ++ flat (els xs) := ⟨_, rfl⟩
  obtain ⟨m, hmm⟩ : ∃ m, m = xs.length := ⟨_, rfl⟩
  have hmarsh := marshal xs hx hm
  rw [← hout] at hlen hmarsh ⊢
  rw [← hmm] at hm hmarsh ⊢
  have HM := Lib.hid hmm
  have HD := Lib.hid hout
  have HR := Lib.hid hx
  have HC := Lib.hid hmarsh
  clear hmm hout hx hmarsh
  have hfb := float_from
  have hbf := float_to
  go_enter_defers Tryd.func22, Tryd.ntmps22
  go_wp2_with fail
  go_loopw [4, 10] (fun v i wr => ∃ j a c, j ≤ m ∧ i = .int .i64 j ∧ v = .slice a j c ∧ wr.ownsRow (w.heap.size + 2) 75 1 (.slice a j c) j (fvals (xs.take j)) ∧ Below w.heap.size w wr ∧ Blk wr w.heap.size 22 #[nilS] ∧ Blk wr (w.heap.size + 1) 4 #[.bool false]) (fun _ i _ => m - (intOf i).toNat)
  case atStart => exact ⟨0, none, 0, Nat.zero_le _, rfl, rfl, World.ownsRow_nil _ _ _ _, by (repeat (first | with_reducible exact Below.refl _ _ | with_reducible assumption | with_reducible refine below_drewN ?_ _ | with_reducible refine Below.drew ?_ | with_reducible refine below_row ?_ (by first | omega | (simp; done) | (simp; omega)) _ | with_reducible refine Below.alloc ?_ (by first | omega | (simp; done) | (simp; omega)) _ | with_reducible refine Below.setCell ?_ (by first | omega | (simp; done) | (simp; omega)) _)), by (repeat (first | with_reducible exact Blk.new _ _ _ | with_reducible assumption | with_reducible refine Blk.newAt (by first | rfl | (simp; done) | (simp; omega)) _ _ | with_reducible refine Blk.alloc ?_ _ | with_reducible refine Blk.drewN ?_ _ | with_reducible refine Blk.drew ?_ | with_reducible refine Blk.other ?_ (by first | omega | (simp; done) | (simp; omega)) _)), by (repeat (first | with_reducible exact Blk.new _ _ _ | with_reducible assumption | with_reducible refine Blk.newAt (by first | rfl | (simp; done) | (simp; omega)) _ _ | with_reducible refine Blk.alloc ?_ _ | with_reducible refine Blk.drewN ?_ _ | with_reducible refine Blk.drew ?_ | with_reducible refine Blk.other ?_ (by first | omega | (simp; done) | (simp; omega)) _))⟩
  case round =>
    obtain ⟨j, a, c, hj, rfl, rfl, hown, hbw, hB2, hB3⟩ := hrel
    have hrj := Rd.below hbw (Nat.le_refl _) hr
    have hsz := hbw.size
    have hl3 := hB3.lt
    by_cases hlt : j < m
    · have hje : j < xs.length := by rw [← HM.out]; exact hlt
      obtain ⟨b, off, rfl, hcx⟩ := hrj.val_at j hje
      obtain ⟨x, hxj⟩ : ∃ x, x = xs[j] := ⟨_, rfl⟩
      rw [← hxj] at hcx
      have hjm : j ≤ 1099511627775 := by omega
      have hsn := fvals_snoc xs j hje x hxj
      have hxr := HR.out x (by rw [hxj]; exact List.getElem_mem hje)
      unfold Rng at hxr
      have HS := Lib.hid hsn
      have HX := Lib.hid hxj
      clear hsn hxj
      go_wp2_with (at_builtin; refine app1 (by rfl) _ _ 74 75 (.float .f64 0) 8 (by rfl) Tryd.underlying74 (by kernel_rfl) rfl (by omega) (w.heap.size + 2) a j c (fvals (xs.take j)) (by rfl) (hown.alloc _) wr.heap.size (Value.float .f64 x.toNat) rfl (by rfl) (by (repeat (first | with_reducible exact Blk.new _ _ _ | with_reducible assumption | with_reducible refine Blk.newAt (by first | rfl | (simp; done) | (simp; omega)) _ _ | with_reducible refine Blk.alloc ?_ _ | with_reducible refine Blk.drewN ?_ _ | with_reducible refine Blk.drew ?_ | with_reducible refine Blk.other ?_ (by first | omega | (simp; done) | (simp; omega)) _))) hjm (by (first | omega | (simp; done) | (simp; omega))) ?_; intro a5 c5 w3 hown3 hg3; have hb3 := below_of_grown (B := w.heap.size + 2) hg3 (by (first | omega | (simp; done) | (simp; omega))) (ge_of_owns hown))
      go_roundw
      case rel => exact ⟨j + 1, a5, c5, by omega, by go_num, rfl, by rw [HS.out]; exact hown3, Below.trans (b := _) (by (repeat (first | with_reducible exact Below.refl _ _ | with_reducible assumption | with_reducible refine below_drewN ?_ _ | with_reducible refine Below.drew ?_ | with_reducible refine below_row ?_ (by first | omega | (simp; done) | (simp; omega)) _ | with_reducible refine Below.alloc ?_ (by first | omega | (simp; done) | (simp; omega)) _ | with_reducible refine Below.setCell ?_ (by first | omega | (simp; done) | (simp; omega)) _))) (hb3.mono (by omega)), Blk.below (by (repeat (first | with_reducible exact Blk.new _ _ _ | with_reducible assumption | with_reducible refine Blk.newAt (by first | rfl | (simp; done) | (simp; omega)) _ _ | with_reducible refine Blk.alloc ?_ _ | with_reducible refine Blk.drewN ?_ _ | with_reducible refine Blk.drew ?_ | with_reducible refine Blk.other ?_ (by first | omega | (simp; done) | (simp; omega)) _))) hb3 (by omega), Blk.below (by (repeat (first | with_reducible exact Blk.new _ _ _ | with_reducible assumption | with_reducible refine Blk.newAt (by first | rfl | (simp; done) | (simp; omega)) _ _ | with_reducible refine Blk.alloc ?_ _ | with_reducible refine Blk.drewN ?_ _ | with_reducible refine Blk.drew ?_ | with_reducible refine Blk.other ?_ (by first | omega | (simp; done) | (simp; omega)) _))) hb3 (by omega)⟩
      case measure => simp [intOf]; omega
    · obtain rfl : j = m := by omega
      have hown' : wr.ownsRow (w.heap.size + 2) 75 1 (.slice a j c) j (fvals xs) := by
        rw [List.take_of_length_le (by rw [← HM.out]; exact Nat.le_refl _)] at hown; exact hown
      have hrd := (Rd.of_owns hown').alloc (.cells #[.slice none 0 0, .int .i64 0] 58)
      go_wp2_with fail
      refine (HC.out a c wr.heap.size _ (Bf.new wr) hrd (lt_of_owns hown')).mono ?_
      rintro e w1 ⟨rfl, hb1, hl1⟩
      have hs1 : wr.heap.size + 1 ≤ w1.heap.size := by have := hl1.size; simp at this; omega
      have hB21 : Blk w1 w.heap.size 22 #[nilS] := Blk.below (by (repeat (first | with_reducible exact Blk.new _ _ _ | with_reducible assumption | with_reducible refine Blk.newAt (by first | rfl | (simp; done) | (simp; omega)) _ _ | with_reducible refine Blk.alloc ?_ _ | with_reducible refine Blk.drewN ?_ _ | with_reducible refine Blk.drew ?_ | with_reducible refine Blk.other ?_ (by first | omega | (simp; done) | (simp; omega)) _))) hl1 (by omega)
      have hB31 : Blk w1 (w.heap.size + 1) 4 #[.bool false] := Blk.below (by (repeat (first | with_reducible exact Blk.new _ _ _ | with_reducible assumption | with_reducible refine Blk.newAt (by first | rfl | (simp; done) | (simp; omega)) _ _ | with_reducible refine Blk.alloc ?_ _ | with_reducible refine Blk.drewN ?_ _ | with_reducible refine Blk.drew ?_ | with_reducible refine Blk.other ?_ (by first | omega | (simp; done) | (simp; omega)) _))) hl1 (by omega)
      have hbw1 : Below w.heap.size w w1 := Below.trans (b := _) (by (repeat (first | with_reducible exact Below.refl _ _ | with_reducible assumption | with_reducible refine below_drewN ?_ _ | with_reducible refine Below.drew ?_ | with_reducible refine below_row ?_ (by first | omega | (simp; done) | (simp; omega)) _ | with_reducible refine Below.alloc ?_ (by first | omega | (simp; done) | (simp; omega)) _ | with_reducible refine Below.setCell ?_ (by first | omega | (simp; done) | (simp; omega)) _))) (hl1.mono (by omega))
      clear hown hown' hrd hB2 hB3 hrj
      go_wp2_with fail
      refine (bufBytes wr.heap.size _ _ hb1).mono ?_
      rintro e w2 ⟨ab, n, cb, nq, rfl, rfl, hv⟩
      go_wp2_with fail
      refine (copied_any ab n cb _ _ (hv.drewN nq) (by have := hv.len; omega)).mono ?_
      rintro e w3 ⟨a3, c3, rfl, h3, hb3⟩
      have hC2 := (hB21.drewN nq).below hb3 (by simp; omega)
      have hC3 := (hB31.drewN nq).below hb3 (by simp; omega)
      have q20 := hC2.cell (i := 0) rfl
      have q30 := hC3.cell (i := 0) rfl
      have f2 := hC2.frozen 0
      have f3 := hC3.frozen 0
      have hb13 : Below w.heap.size w w3 := Below.trans (b := _) (by (repeat (first | with_reducible exact Below.refl _ _ | with_reducible assumption | with_reducible refine below_drewN ?_ _ | with_reducible refine Below.drew ?_ | with_reducible refine below_row ?_ (by first | omega | (simp; done) | (simp; omega)) _ | with_reducible refine Below.alloc ?_ (by first | omega | (simp; done) | (simp; omega)) _ | with_reducible refine Below.setCell ?_ (by first | omega | (simp; done) | (simp; omega)) _))) (hb3.mono (by (first | omega | (simp; done) | (simp; omega))))
      go_wp2_with fail
      refine leaves_cons (f := 25) (args := #[.pointer (some ⟨w.heap.size, 0, none⟩), .pointer (some ⟨w.heap.size + 1, 0, none⟩)]) (by simp) (by simp [go_sem]) ?_
      refine (noData_idle ⟨w.heap.size, 0, none⟩ ⟨w.heap.size + 1, 0, none⟩ _).mono ?_
      rintro e u' w'' ⟨rfl, rfl, rfl⟩
      have D2 := (hC2.set 0 (.slice a3 n c3)).other (p := ⟨w.heap.size + 1, 0, none⟩) (by simp) (.bool true)
      have D3 := (hC3.other (p := ⟨w.heap.size, 0, none⟩) (by simp) (.slice a3 n c3)).set 0 (.bool true)
      have hV := ((h3.otherBlk (p := ⟨w.heap.size, 0, none⟩) (by simp; omega) (.slice a3 n c3)).otherBlk (p := ⟨w.heap.size + 1, 0, none⟩) (by simp; omega) (.bool true)).vw
      have hBel : Below w.heap.size w ((w3.setCell ⟨w.heap.size, 0, none⟩ (.slice a3 n c3)).setCell ⟨w.heap.size + 1, 0, none⟩ (.bool true)) := (hb13.setCell (by simp) _).setCell (by simp) _
      generalize hW4 : (w3.setCell ⟨w.heap.size, 0, none⟩ (.slice a3 n c3)).setCell ⟨w.heap.size + 1, 0, none⟩ (.bool true) = W4 at D2 D3 hV hBel ⊢
      have d2 := D2.cell (i := 0) rfl
      have d3 := D3.cell (i := 0) rfl
      simp at d2 d3
      simp [Leaves, settle, results, Tryd.results22, go_sem, d2, d3]
      exact ⟨_, _, _, ⟨rfl, rfl, rfl⟩, hV, hBel⟩

set_option maxRecDepth 100000 in
set_option maxHeartbeats 8000000 in
theorem walk_ (xs : List Int) (hx : ∀ x ∈ xs, Rng x) (a0 : Option Addr) (c0 : Nat) (w : World) (hr : Rd w a0 (vals xs)) :
    Calls Tryd.prog 9 #[.slice a0 xs.length c0] w fun e w' => e = .returned (.bool true) ∧ Below w.heap.size w w' := by
  obtain ⟨m, hmm⟩ : ∃ m, m = xs.length := ⟨_, rfl⟩
  rw [← hmm]
  by_cases hbig : m ≤ 2147483647
  · have e0 : decide ((m : Int) > 2147483647) = false := by simp; omega
    have HM := Lib.hid hmm
    have HR := Lib.hid hx
    clear hmm hx
    have hone : Rd (w.alloc (.cells #[.int .u64 (5 : Int)] 26)) (some ⟨w.heap.size, 0, none⟩) (vals [(5 : Int)]) := Rd.lit w 26 [.int .u64 (5 : Int)]
    have h5 : ∀ x ∈ [(5 : Int)], Rng x := by intro x hx; simp at hx; subst hx; unfold Rng; omega
    go_enter Tryd.func9, Tryd.ntmps9
    go_wp2_with fail
    refine (implWrite [(5 : Int)] h5 (by simp) _ 1 _ hone).mono ?_
    rintro e w1 ⟨a1, n1, c1, rfl, hv1, hb1⟩
    have hs1 : w.heap.size + 1 ≤ w1.heap.size := by have := hb1.size; simp at this; omega
    have hbw1 : Below w.heap.size w w1 := Below.trans (b := _) (by (repeat (first | with_reducible exact Below.refl _ _ | with_reducible assumption | with_reducible refine below_drewN ?_ _ | with_reducible refine Below.drew ?_ | with_reducible refine below_row ?_ (by first | omega | (simp; done) | (simp; omega)) _ | with_reducible refine Below.alloc ?_ (by first | omega | (simp; done) | (simp; omega)) _ | with_reducible refine Below.setCell ?_ (by first | omega | (simp; done) | (simp; omega)) _))) (hb1.mono (by (first | omega | (simp; done) | (simp; omega))))
    have hkid := Rd.lit w1 29 (kidsV 11 (els [(5 : Int)]))
    have hw5 := whole_arrHd 130 11 8 (by omega) ⟨rfl, rfl⟩ (els [(5 : Int)]) (fun e he => by simp [els] at he; subst he; exact elem_of _ (h5 _ (by simp))) (by simp [els]) (by rw [flat_len]; simp) (by rw [flat_len, els_len]; simp)
    go_wp2_with fail
    refine (wrote_wholeA _ 11 (els [(5 : Int)]) (by simp [els]) hw5 a1 n1 c1 (some ⟨w1.heap.size, 0, none⟩) 1 _ (hv1.alloc _) hkid).mono ?_
    rintro e w2 ⟨rfl, hb2⟩
    have hs2 : w1.heap.size + 1 ≤ w2.heap.size := by have := hb2.size; simp at this; omega
    have hbw2 : Below w.heap.size w w2 := Below.trans (b := _) (by (repeat (first | with_reducible exact Below.refl _ _ | with_reducible assumption | with_reducible refine below_drewN ?_ _ | with_reducible refine Below.drew ?_ | with_reducible refine below_row ?_ (by first | omega | (simp; done) | (simp; omega)) _ | with_reducible refine Below.alloc ?_ (by first | omega | (simp; done) | (simp; omega)) _ | with_reducible refine Below.setCell ?_ (by first | omega | (simp; done) | (simp; omega)) _))) (hb2.mono (by (first | omega | (simp; done) | (simp; omega))))
    clear hone h5 hv1 hb1 hbw1 hkid hw5 hb2
    go_wp2_with fail
    go_loopw [28] (fun i wr => ∃ j ka kc, j ≤ m ∧ i = .int .i64 j ∧ Blk wr w2.heap.size 29 #[.int .i64 23, .int .u64 0, .string ⟨#[]⟩, .slice ka j kc, .int .i64 0, nilS] ∧ wr.ownsRow (w2.heap.size + 1) 29 6 (.slice ka j kc) j (kidsV 11 (els (xs.take j))) ∧ Below w.heap.size w wr) (fun i _ => m - (intOf i).toNat)
    case atStart => exact ⟨0, none, 0, Nat.zero_le _, rfl, by (repeat (first | with_reducible exact Blk.new _ _ _ | with_reducible assumption | with_reducible refine Blk.newAt (by first | rfl | (simp; done) | (simp; omega)) _ _ | with_reducible refine Blk.alloc ?_ _ | with_reducible refine Blk.drewN ?_ _ | with_reducible refine Blk.drew ?_ | with_reducible refine Blk.other ?_ (by first | omega | (simp; done) | (simp; omega)) _)), World.ownsRow_nil _ _ _ _, by (repeat (first | with_reducible exact Below.refl _ _ | with_reducible assumption | with_reducible refine below_drewN ?_ _ | with_reducible refine Below.drew ?_ | with_reducible refine below_row ?_ (by first | omega | (simp; done) | (simp; omega)) _ | with_reducible refine Below.alloc ?_ (by first | omega | (simp; done) | (simp; omega)) _ | with_reducible refine Below.setCell ?_ (by first | omega | (simp; done) | (simp; omega)) _))⟩
    case round =>
      obtain ⟨j, ka, kc, hj, rfl, hBv, hown, hbw⟩ := hrel
      have hsz := hbw.size
      have hlv := hBv.lt
      have hcv3 := hBv.cell (i := 3) rfl
      have hfv3 := hBv.frozen 3
      by_cases hlt : j < m
      · have hje : j < xs.length := by rw [← HM.out]; exact hlt
        obtain ⟨b, off, rfl, hcx⟩ := (Rd.below hbw (Nat.le_refl _) hr).val_at j hje
        obtain ⟨x, hxj⟩ : ∃ x, x = xs[j] := ⟨_, rfl⟩
        rw [← hxj] at hcx
        have hxr := HR.out x (by rw [hxj]; exact List.getElem_mem hje)
        unfold Rng at hxr
        have hjm : j ≤ 1099511627776 := by omega
        have hsn := kids_snoc xs j hje
        rw [← hxj] at hsn
        have HS := Lib.hid hsn
        have HX := Lib.hid hxj
        clear hsn hxj

        go_wp2_with (at_builtin; refine appV (by rfl) _ _ (by rfl) (w2.heap.size + 1) ka j kc (kidsV 11 (els (xs.take j))) (by rfl) (owns_below hown (by (repeat (first | with_reducible exact Below.refl _ _ | with_reducible assumption | with_reducible refine below_drewN ?_ _ | with_reducible refine Below.drew ?_ | with_reducible refine below_row ?_ (by first | omega | (simp; done) | (simp; omega)) _ | with_reducible refine Below.alloc ?_ (by first | omega | (simp; done) | (simp; omega)) _ | with_reducible refine Below.setCell ?_ (by first | omega | (simp; done) | (simp; omega)) _)))) wr.heap.size (by rfl) [.int .i64 11, .int .u64 (x), .string ⟨#[]⟩, nilS, .int .i64 0, nilS] rfl (kid_one _ _ _) (by (repeat (first | with_reducible exact Blk.new _ _ _ | with_reducible assumption | with_reducible refine Blk.newAt (by first | rfl | (simp; done) | (simp; omega)) _ _ | with_reducible refine Blk.alloc ?_ _ | with_reducible refine Blk.drewN ?_ _ | with_reducible refine Blk.drew ?_ | with_reducible refine Blk.other ?_ (by first | omega | (simp; done) | (simp; omega)) _))) hjm (by (first | omega | (simp; done) | (simp; omega))) ?_; intro a5 c5 w3 hown3 hg3; have hb3 := below_of_grown (B := w2.heap.size + 1) hg3 (by (first | omega | (simp; done) | (simp; omega))) (ge_of_owns hown); have hBv3 : Blk w3 w2.heap.size 29 #[.int .i64 23, .int .u64 0, .string ⟨#[]⟩, .slice ka j kc, .int .i64 0, nilS] := Blk.below (by (repeat (first | with_reducible exact Blk.new _ _ _ | with_reducible assumption | with_reducible refine Blk.newAt (by first | rfl | (simp; done) | (simp; omega)) _ _ | with_reducible refine Blk.alloc ?_ _ | with_reducible refine Blk.drewN ?_ _ | with_reducible refine Blk.drew ?_ | with_reducible refine Blk.other ?_ (by first | omega | (simp; done) | (simp; omega)) _))) hb3 (by omega); have hf3 := hBv3.frozen 3; have hq3 := hBv3.cell (i := 3) rfl)
        have hbE : Below w.heap.size w w3 := Below.trans (b := _) (by (repeat (first | with_reducible exact Below.refl _ _ | with_reducible assumption | with_reducible refine below_drewN ?_ _ | with_reducible refine Below.drew ?_ | with_reducible refine below_row ?_ (by first | omega | (simp; done) | (simp; omega)) _ | with_reducible refine Below.alloc ?_ (by first | omega | (simp; done) | (simp; omega)) _ | with_reducible refine Below.setCell ?_ (by first | omega | (simp; done) | (simp; omega)) _))) (hb3.mono (by omega))
        go_roundw
        case rel => exact ⟨j + 1, a5, c5, by omega, by go_num, hBv3.set 3 _, owns_set (by rw [HS.out]; exact hown3) (by simp) _, hbE.setCell (by simp; omega) _⟩
        case measure => simp [intOf]; omega
      · obtain rfl : j = m := by omega
        have hown' : wr.ownsRow (w2.heap.size + 1) 29 6 (.slice ka j kc) j (kidsV 11 (els xs)) := by
          rw [List.take_of_length_le (by rw [← HM.out]; exact Nat.le_refl _)] at hown; exact hown
        have hrk := Rd.of_owns hown'
        have hr2 := Rd.below hbw (Nat.le_refl _) hr
        clear hown hown' hcv3
        by_cases hs : j ≤ 300
        · have e1 : decide ((j : Int) > 300) = false := by simp; omega
          have himp := fun W h => implWrite xs HR.out (by rw [← HM.out]; omega) a0 c0 W h
          have hwh := whole_arrHd 130 11 8 (by omega) ⟨rfl, rfl⟩ (els xs) (fun e he => by simp only [els, List.mem_map] at he; obtain ⟨x, hx, rfl⟩ := he; exact elem_of x (HR.out x hx)) (by rw [els_len, ← HM.out]; omega) (by rw [flat_len, ← HM.out]; omega) (by rw [flat_len, els_len]; omega)
          obtain ⟨out, hout⟩ : ∃ out, out = arrHd 130 (els xs).length (flat (els xs)).length ++ flat (els xs) := ⟨_, rfl⟩
          rw [← hout] at himp hwh
          have HO := Lib.hid hout
          clear hout
          have hwr := fun a n c W hv hk => wrote_wholeA _ 11 (els xs) (by rw [els_len, ← HM.out]; omega) hwh a n c ka kc W hv hk
          rw [← HM.out] at himp
          rw [els_len, ← HM.out] at hwr
          have HI := Lib.hid himp
          have HW := Lib.hid hwr
          clear himp hwh hwr
          go_wp2_with fail
          refine (HI.out _ hr2).mono ?_
          rintro e w4 ⟨a4, n4, c4, rfl, hv4, hb4⟩
          have hBv4 := Blk.below hBv hb4 hlv
          have hbw4 := hbw.trans (hb4.mono hsz)
          have hk4 := Rd.below hb4 (Nat.le_refl _) hrk
          have q0 := hBv4.cell (i := 0) rfl
          have q1 := hBv4.cell (i := 1) rfl
          have q2 := hBv4.cell (i := 2) rfl
          have q3 := hBv4.cell (i := 3) rfl
          have q4 := hBv4.cell (i := 4) rfl
          have q5 := hBv4.cell (i := 5) rfl
          go_wp2_with fail
          refine (HW.out a4 n4 c4 _ hv4 hk4).mono ?_
          rintro e w5 ⟨rfl, hb5⟩
          go_wp2_with fail
          go_ret
          exact ⟨rfl, hbw4.trans (hb5.mono hbw4.size)⟩
        · have e1 : decide ((j : Int) > 300) = true := by simp; omega
          go_wp2_with fail
          go_ret
          exact ⟨rfl, hbw⟩
  · have e0 : decide ((m : Int) > 2147483647) = true := by simp; omega
    go_enter Tryd.func9, Tryd.ntmps9
    go_wp2_with fail
    go_ret
    exact ⟨rfl, Below.refl _ _⟩

theorem walkRow (a : Option Addr) (len cap : Nat) (zs : List Int) (w : World)
    (h : (a = none ∧ len = 0 ∧ cap = 0 ∧ zs = []) ∨ ∃ x, a = some x ∧ len ≤ cap ∧ cap ≤ maxLen ∧ zs.length = cap ∧ (∀ i, i < zs.length → w.cell? (x.add i) = some (.int .u64 (zs.getD i 0))) ∧ ∀ n ∈ zs, (Lit.int .u64 n).wf = true) :
    Calls Tryd.prog 9 #[.slice a len cap] w fun e w' => e = .returned (.bool true) ∧ Below w.heap.size w w' := by
  obtain ⟨hr, hl, hwf⟩ := rd_of_row h
  have hw := walk_ (zs.take len) (fun x hx => wf_u64 x (hwf x hx)) a cap w hr
  rw [hl] at hw
  exact hw
end Go.Proofs.YtkbfppjniaejnaaDoor
