/- Arrays of Boolean: encoding.arrayBool.Marshal, impl.WriteArrayBoolean, the walk of laws.FnWriteArrayBoolean. -/
import Derived.Test.YtkbfppjniaejnaaDoorArrW
import Derived.Test.YtkbfppjniaejnaaDoorTakeBool
namespace Go.Proofs.YtkbfppjniaejnaaDoor
open Go.RowKit
set_option linter.unusedVariables false
set_option linter.unusedSimpArgs false

def el (x : Bool) : List Int × Int × ByteArray := ([if x then 1 else 0], if x then 1 else 0, ⟨#[]⟩)
def els (xs : List Bool) : Els := xs.map el
def vals (xs : List Bool) : List Value := xs.map fun x => .bool x
def fvals (xs : List Bool) : List Value := xs.map fun x => Value.bool x

theorem els_len (xs : List Bool) : (els xs).length = xs.length := by simp [els]
theorem vals_len (xs : List Bool) : (vals xs).length = xs.length := by simp [vals]
theorem flat_len (xs : List Bool) : (flat (els xs)).length = xs.length * 1 := by
  induction xs with
  | nil => rfl
  | cons x xs ih => simp [flat, els, el, be8] at ih ⊢; omega
theorem flat_snoc (xs : List Bool) (j : Nat) (h : j < xs.length) : flat (els (xs.take (j + 1))) = flat (els (xs.take j)) ++ (el xs[j]).1 := by
  unfold flat els
  rw [List.take_succ_eq_append_getElem h, List.map_append, List.flatMap_append]
  simp only [List.map_cons, List.map_nil, List.flatMap_cons, List.flatMap_nil, List.append_nil]
theorem kids_snoc (xs : List Bool) (j : Nat) (h : j < xs.length) : kidsV 1 (els (xs.take (j + 1))) = kidsV 1 (els (xs.take j)) ++ kid 1 (el xs[j]).2.1 (el xs[j]).2.2 := by
  unfold kidsV els
  rw [List.take_succ_eq_append_getElem h, List.map_append, List.flatMap_append]
  simp only [List.map_cons, List.map_nil, List.flatMap_cons, List.flatMap_nil, List.append_nil]
theorem fvals_snoc (xs : List Bool) (j : Nat) (h : j < xs.length) (x : Bool) (hx : x = xs[j]) : fvals (xs.take (j + 1)) = fvals (xs.take j) ++ [Value.bool x] := by
  subst hx
  unfold fvals
  rw [List.take_succ_eq_append_getElem h, List.map_append]
  simp only [List.map_cons, List.map_nil]
theorem Rd.val_at {w : World} {a : Option Addr} {xs : List Bool} (h : Rd w a (vals xs)) (j : Nat) (hj : j < xs.length) : ∃ b off, a = some ⟨b, off, none⟩ ∧ w.cell? ⟨b, off + j, none⟩ = some (.bool xs[j]) := by
  rcases h with h | ⟨b, off, ha, hx⟩
  · have := vals_len xs; rw [h] at this; simp at this; omega
  · exact ⟨b, off, ha, hx j _ (by simp [vals, hj])⟩

theorem fvals_len (xs : List Bool) : (fvals xs).length = xs.length := by simp [fvals]
theorem Rd.fval_at {w : World} {a : Option Addr} {xs : List Bool} (h : Rd w a (fvals xs)) (j : Nat) (hj : j < xs.length) (x : Bool) (hx : x = xs[j]) : ∃ b off, a = some ⟨b, off, none⟩ ∧ w.cell? ⟨b, off + j, none⟩ = some (Value.bool x) := by
  subst hx
  rcases h with h | ⟨b, off, ha, hx⟩
  · have := fvals_len xs; rw [h] at this; simp at this; omega
  · exact ⟨b, off, ha, hx j _ (by simp [fvals, hj])⟩

theorem bit_any (b : Bool) (w : World) : Calls Tryd.prog 21 #[.bool b] w fun e w' => e = .returned (.int .u64 (if b then 1 else 0)) ∧ w = w' := by
  cases b with
  | true =>
    go_enter Tryd.func21, Tryd.ntmps21
    go_wp2
    go_ret
    exact ⟨rfl, rfl⟩
  | false =>
    go_enter Tryd.func21, Tryd.ntmps21
    go_wp2
    go_ret
    exact ⟨rfl, rfl⟩

def Rng (x : Bool) : Prop := x = x
theorem elem_of (x : Bool) (hx : Rng x) : Elem 86 1 (el x) := by
  unfold Rng at hx
  intro w0 a n c tail lv hv
  unfold el at hv ⊢
  obtain ⟨a', hv', h⟩ := take_bool (if x then 1 else 0) (by split <;> omega) (by split <;> omega) a n c tail lv w0 hv
  exact ⟨a', hv', fun w hw => h w hw⟩

set_option maxRecDepth 100000 in
set_option maxHeartbeats 4000000 in
theorem marshal (xs : List Bool) (hx : ∀ x ∈ xs, Rng x) (hm : xs.length ≤ 1000) (a : Option Addr) (c : Nat) (g : Nat) (w : World) (hb : Bf w g []) (hr : Rd w a (fvals xs)) (hlt : ∀ x, a = some x → x.block < g) :
    Calls Tryd.prog 36 #[.slice a xs.length c, .pointer (some ⟨g, 0, none⟩)] w fun e w' => e = .returned .nilIface ∧ Bf w' g (arrHd 86 (els xs).length (flat (els xs)).length ++ flat (els xs)) ∧ Below g w w' := by
  rw [els_len, flat_len]
  have hfl : ∀ j, (flat (els (xs.take j))).length ≤ 16000 := fun j => by
    rw [flat_len, List.length_take]
    omega
  have hhl := arrHd_len 86 xs.length (xs.length * 1)
  obtain ⟨hd, hhd⟩ : ∃ hd, hd = arrHd 86 xs.length (xs.length * 1) := ⟨_, rfl⟩
  obtain ⟨m, hmm⟩ : ∃ m, m = xs.length := ⟨_, rfl⟩
  rw [← hhd] at hhl ⊢
  rw [← hmm] at hm hhd ⊢
  have HM := Lib.hid hmm
  have HD := Lib.hid hhd
  have HR := Lib.hid hx
  clear hmm hhd hx

  go_enter Tryd.func36, Tryd.ntmps36
  go_wp2_with fail
  refine (arrHead_buf g _ hb m 1 86 (by omega) (by omega) (by omega) (by omega) (by omega)).mono ?_
  rintro e w1 ⟨rfl, hb1, hl1⟩
  rw [← HD.out] at hb1
  go_wp2_with fail
  go_loopw [14] (fun i wr => ∃ j, j ≤ m ∧ i = .int .i64 j ∧ Bf wr g (hd ++ flat (els (xs.take j))) ∧ Below g w wr) (fun i _ => m - (intOf i).toNat)
  case atStart => exact ⟨0, Nat.zero_le _, rfl, by simpa [els, flat] using hb1, hl1⟩
  case round =>
    obtain ⟨j, hj, rfl, hbj, hlj⟩ := hrel
    by_cases hlt' : j < m
    · have hje : j < xs.length := by rw [← HM.out]; exact hlt'
      obtain ⟨x, hxj⟩ : ∃ x, x = xs[j] := ⟨_, rfl⟩
      obtain ⟨b, off, rfl, hc0⟩ := hr.fval_at j hje x hxj
      have hcx : wr.cell? ⟨b, off + j, none⟩ = some (Value.bool x) := by rw [hlj.cell (p := ⟨b, off + j, none⟩) (hlt ⟨b, off, none⟩ rfl)]; exact hc0
      have hxr := HR.out x (by rw [hxj]; exact List.getElem_mem hje)
      unfold Rng at hxr
      have hsn := flat_snoc xs j hje
      rw [← hxj] at hsn
      have HS := Lib.hid hsn
      have HX := Lib.hid hxj
      have hlen : (hd ++ flat (els (xs.take j))).length + 16 ≤ 1099511627776 := by
        rw [List.length_append]
        have := hfl j
        omega
      clear hsn hxj hc0
      have hz0 : (0 : Int) ≤ (if x then 1 else 0) ∧ (if x then (1 : Int) else 0) < 256 := by split <;> omega
      obtain ⟨y, hy⟩ : ∃ y : Int, y = if x then 1 else 0 := ⟨_, rfl⟩
      rw [← hy] at hz0
      have hq : (el x).1 = [y] := by rw [hy]; rfl
      have HY := Lib.hid hy
      have HQ := Lib.hid hq
      clear hq hy
      have hbb : Calls Tryd.prog 46 #[.pointer (some ⟨g, 0, none⟩), .int .u8 (if x then 1 else 0)] wr fun e w' => e = .returned (.tuple #[]) ∧ Bf w' g ((hd ++ flat (els (xs.take j))) ++ (el x).1) ∧ Below g wr w' := by
        rw [← HY.out, HQ.out]; exact bufByte g _ y wr hbj hz0.1 hz0.2 (by omega)
      have HB := Lib.hid hbb
      clear hbb
      cases x with
      | true =>
        go_wp2_with fail
        refine HB.out.mono ?_
        rintro e w5 ⟨rfl, hb5, hl5⟩
        go_wp2_with fail
        go_roundw
        case rel => exact ⟨j + 1, by omega, by go_num, by rw [HS.out, ← List.append_assoc]; exact hb5, hlj.trans hl5⟩
        case measure => simp [intOf]; omega
      | false =>
      go_wp2_with fail
      refine HB.out.mono ?_
      rintro e w5 ⟨rfl, hb5, hl5⟩
      go_wp2_with fail
      go_roundw
      case rel => exact ⟨j + 1, by omega, by go_num, by rw [HS.out, ← List.append_assoc]; exact hb5, hlj.trans hl5⟩
      case measure => simp [intOf]; omega
    · obtain rfl : j = m := by omega
      have hz : flat (els (xs.take j)) = flat (els xs) := by rw [List.take_of_length_le (by rw [← HM.out]; exact Nat.le_refl _)]
      rw [hz] at hbj
      go_wp2_with fail
      go_ret
      exact ⟨rfl, hbj, hlj⟩

set_option maxRecDepth 100000 in
set_option maxHeartbeats 8000000 in
theorem implWrite (xs : List Bool) (hx : ∀ x ∈ xs, Rng x) (hm : xs.length ≤ 1000) (a0 : Option Addr) (c0 : Nat) (w : World) (hr : Rd w a0 (vals xs)) :
    Calls Tryd.prog 20 #[.slice a0 xs.length c0] w fun e w' => ∃ a n c, e = .returned (.tuple #[.slice a n c, .bool true]) ∧ Vw w' a n c (arrHd 86 (els xs).length (flat (els xs)).length ++ flat (els xs)) ∧ Below w.heap.size w w' := by
  have hlen : (arrHd 86 (els xs).length (flat (els xs)).length ++ flat (els xs)).length ≤ 1099511627776 := by
    have := arrHd_len 86 (els xs).length (flat (els xs)).length
    rw [List.length_append, flat_len] at *
    omega
  obtain ⟨out, hout⟩ : ∃ out, out = arrHd 86 (els xs).length (flat (els xs)).length ++ flat (els xs) := ⟨_, rfl⟩
  obtain ⟨m, hmm⟩ : ∃ m, m = xs.length := ⟨_, rfl⟩
  have hmarsh := marshal xs hx hm
  rw [← hout] at hlen hmarsh ⊢
  rw [← hmm] at hm hmarsh ⊢
  have HM := Lib.hid hmm
  have HD := Lib.hid hout
  have HR := Lib.hid hx
  have HC := Lib.hid hmarsh
  clear hmm hout hx hmarsh

  go_enter_defers Tryd.func20, Tryd.ntmps20
  go_wp2_with fail
  go_loopw [4, 10] (fun v i wr => ∃ j a c, j ≤ m ∧ i = .int .i64 j ∧ v = .slice a j c ∧ wr.ownsRow (w.heap.size + 2) 4 1 (.slice a j c) j (fvals (xs.take j)) ∧ Below w.heap.size w wr ∧ Blk wr w.heap.size 22 #[nilS] ∧ Blk wr (w.heap.size + 1) 4 #[.bool false]) (fun _ i _ => m - (intOf i).toNat)
  case atStart => exact ⟨0, none, 0, Nat.zero_le _, rfl, rfl, World.ownsRow_nil _ _ _ _, by (repeat (first | with_reducible exact Below.refl _ _ | with_reducible assumption | with_reducible refine below_drewN ?_ _ | with_reducible refine Below.drew ?_ | with_reducible refine below_row ?_ (by first | omega | (simp; done) | (simp; omega)) _ | with_reducible refine Below.alloc ?_ (by first | omega | (simp; done) | (simp; omega)) _ | with_reducible refine Below.setCell ?_ (by first | omega | (simp; done) | (simp; omega)) _)), by (repeat (first | with_reducible exact Blk.new _ _ _ | with_reducible assumption | with_reducible refine Blk.newAt (by first | rfl | (simp; done) | (simp; omega)) _ _ | with_reducible refine Blk.alloc ?_ _ | with_reducible refine Blk.drewN ?_ _ | with_reducible refine Blk.drew ?_ | with_reducible refine Blk.other ?_ (by first | omega | (simp; done) | (simp; omega)) _)), by (repeat (first | with_reducible exact Blk.new _ _ _ | with_reducible assumption | with_reducible refine Blk.newAt (by first | rfl | (simp; done) | (simp; omega)) _ _ | with_reducible refine Blk.alloc ?_ _ | with_reducible refine Blk.drewN ?_ _ | with_reducible refine Blk.drew ?_ | with_reducible refine Blk.other ?_ (by first | omega | (simp; done) | (simp; omega)) _))⟩
  case round =>
    obtain ⟨j, a, c, hj, rfl, rfl, hown, hbw, hB2, hB3⟩ := hrel
    have hrj := Rd.below hbw (Nat.le_refl _) hr
    have hsz := hbw.size
    have hl3 := hB3.lt
    by_cases hlt : j < m
    · have hje : j < xs.length := by rw [← HM.out]; exact hlt
      obtain ⟨b, off, rfl, hcx⟩ := hrj.val_at j hje
      obtain ⟨x, hxj⟩ : ∃ x, x = xs[j] := ⟨_, rfl⟩
      rw [← hxj] at hcx
      have hjm : j ≤ 1099511627775 := by omega
      have hsn := fvals_snoc xs j hje x hxj
      have hxr := HR.out x (by rw [hxj]; exact List.getElem_mem hje)
      unfold Rng at hxr
      have HS := Lib.hid hsn
      have HX := Lib.hid hxj
      clear hsn hxj
      go_wp2_with (at_builtin; refine app1 (by rfl) _ _ 72 4 (.bool false) 1 (by rfl) Tryd.underlying72 (by kernel_rfl) rfl (by omega) (w.heap.size + 2) a j c (fvals (xs.take j)) (by rfl) (hown.alloc _) wr.heap.size (Value.bool x) rfl (by rfl) (by (repeat (first | with_reducible exact Blk.new _ _ _ | with_reducible assumption | with_reducible refine Blk.newAt (by first | rfl | (simp; done) | (simp; omega)) _ _ | with_reducible refine Blk.alloc ?_ _ | with_reducible refine Blk.drewN ?_ _ | with_reducible refine Blk.drew ?_ | with_reducible refine Blk.other ?_ (by first | omega | (simp; done) | (simp; omega)) _))) hjm (by (first | omega | (simp; done) | (simp; omega))) ?_; intro a5 c5 w3 hown3 hg3; have hb3 := below_of_grown (B := w.heap.size + 2) hg3 (by (first | omega | (simp; done) | (simp; omega))) (ge_of_owns hown))
      go_roundw
      case rel => exact ⟨j + 1, a5, c5, by omega, by go_num, rfl, by rw [HS.out]; exact hown3, Below.trans (b := _) (by (repeat (first | with_reducible exact Below.refl _ _ | with_reducible assumption | with_reducible refine below_drewN ?_ _ | with_reducible refine Below.drew ?_ | with_reducible refine below_row ?_ (by first | omega | (simp; done) | (simp; omega)) _ | with_reducible refine Below.alloc ?_ (by first | omega | (simp; done) | (simp; omega)) _ | with_reducible refine Below.setCell ?_ (by first | omega | (simp; done) | (simp; omega)) _))) (hb3.mono (by omega)), Blk.below (by (repeat (first | with_reducible exact Blk.new _ _ _ | with_reducible assumption | with_reducible refine Blk.newAt (by first | rfl | (simp; done) | (simp; omega)) _ _ | with_reducible refine Blk.alloc ?_ _ | with_reducible refine Blk.drewN ?_ _ | with_reducible refine Blk.drew ?_ | with_reducible refine Blk.other ?_ (by first | omega | (simp; done) | (simp; omega)) _))) hb3 (by omega), Blk.below (by (repeat (first | with_reducible exact Blk.new _ _ _ | with_reducible assumption | with_reducible refine Blk.newAt (by first | rfl | (simp; done) | (simp; omega)) _ _ | with_reducible refine Blk.alloc ?_ _ | with_reducible refine Blk.drewN ?_ _ | with_reducible refine Blk.drew ?_ | with_reducible refine Blk.other ?_ (by first | omega | (simp; done) | (simp; omega)) _))) hb3 (by omega)⟩
      case measure => simp [intOf]; omega
    · obtain rfl : j = m := by omega
      have hown' : wr.ownsRow (w.heap.size + 2) 4 1 (.slice a j c) j (fvals xs) := by
        rw [List.take_of_length_le (by rw [← HM.out]; exact Nat.le_refl _)] at hown; exact hown
      have hrd := (Rd.of_owns hown').alloc (.cells #[.slice none 0 0, .int .i64 0] 58)
      go_wp2_with fail
      refine (HC.out a c wr.heap.size _ (Bf.new wr) hrd (lt_of_owns hown')).mono ?_
      rintro e w1 ⟨rfl, hb1, hl1⟩
      have hs1 : wr.heap.size + 1 ≤ w1.heap.size := by have := hl1.size; simp at this; omega
      have hB21 : Blk w1 w.heap.size 22 #[nilS] := Blk.below (by (repeat (first | with_reducible exact Blk.new _ _ _ | with_reducible assumption | with_reducible refine Blk.newAt (by first | rfl | (simp; done) | (simp; omega)) _ _ | with_reducible refine Blk.alloc ?_ _ | with_reducible refine Blk.drewN ?_ _ | with_reducible refine Blk.drew ?_ | with_reducible refine Blk.other ?_ (by first | omega | (simp; done) | (simp; omega)) _))) hl1 (by omega)
      have hB31 : Blk w1 (w.heap.size + 1) 4 #[.bool false] := Blk.below (by (repeat (first | with_reducible exact Blk.new _ _ _ | with_reducible assumption | with_reducible refine Blk.newAt (by first | rfl | (simp; done) | (simp; omega)) _ _ | with_reducible refine Blk.alloc ?_ _ | with_reducible refine Blk.drewN ?_ _ | with_reducible refine Blk.drew ?_ | with_reducible refine Blk.other ?_ (by first | omega | (simp; done) | (simp; omega)) _))) hl1 (by omega)
      have hbw1 : Below w.heap.size w w1 := Below.trans (b := _) (by (repeat (first | with_reducible exact Below.refl _ _ | with_reducible assumption | with_reducible refine below_drewN ?_ _ | with_reducible refine Below.drew ?_ | with_reducible refine below_row ?_ (by first | omega | (simp; done) | (simp; omega)) _ | with_reducible refine Below.alloc ?_ (by first | omega | (simp; done) | (simp; omega)) _ | with_reducible refine Below.setCell ?_ (by first | omega | (simp; done) | (simp; omega)) _))) (hl1.mono (by omega))
      clear hown hown' hrd hB2 hB3 hrj
      go_wp2_with fail
      refine (bufBytes wr.heap.size _ _ hb1).mono ?_
      rintro e w2 ⟨ab, n, cb, nq, rfl, rfl, hv⟩
      go_wp2_with fail
      refine (copied_any ab n cb _ _ (hv.drewN nq) (by have := hv.len; omega)).mono ?_
      rintro e w3 ⟨a3, c3, rfl, h3, hb3⟩
      have hC2 := (hB21.drewN nq).below hb3 (by simp; omega)
      have hC3 := (hB31.drewN nq).below hb3 (by simp; omega)
      have q20 := hC2.cell (i := 0) rfl
      have q30 := hC3.cell (i := 0) rfl
      have f2 := hC2.frozen 0
      have f3 := hC3.frozen 0
      have hb13 : Below w.heap.size w w3 := Below.trans (b := _) (by (repeat (first | with_reducible exact Below.refl _ _ | with_reducible assumption | with_reducible refine below_drewN ?_ _ | with_reducible refine Below.drew ?_ | with_reducible refine below_row ?_ (by first | omega | (simp; done) | (simp; omega)) _ | with_reducible refine Below.alloc ?_ (by first | omega | (simp; done) | (simp; omega)) _ | with_reducible refine Below.setCell ?_ (by first | omega | (simp; done) | (simp; omega)) _))) (hb3.mono (by (first | omega | (simp; done) | (simp; omega))))
      go_wp2_with fail
      refine leaves_cons (f := 25) (args := #[.pointer (some ⟨w.heap.size, 0, none⟩), .pointer (some ⟨w.heap.size + 1, 0, none⟩)]) (by simp) (by simp [go_sem]) ?_
      refine (noData_idle ⟨w.heap.size, 0, none⟩ ⟨w.heap.size + 1, 0, none⟩ _).mono ?_
      rintro e u' w'' ⟨rfl, rfl, rfl⟩
      have D2 := (hC2.set 0 (.slice a3 n c3)).other (p := ⟨w.heap.size + 1, 0, none⟩) (by simp) (.bool true)
      have D3 := (hC3.other (p := ⟨w.heap.size, 0, none⟩) (by simp) (.slice a3 n c3)).set 0 (.bool true)
      have hV := ((h3.otherBlk (p := ⟨w.heap.size, 0, none⟩) (by simp; omega) (.slice a3 n c3)).otherBlk (p := ⟨w.heap.size + 1, 0, none⟩) (by simp; omega) (.bool true)).vw
      have hBel : Below w.heap.size w ((w3.setCell ⟨w.heap.size, 0, none⟩ (.slice a3 n c3)).setCell ⟨w.heap.size + 1, 0, none⟩ (.bool true)) := (hb13.setCell (by simp) _).setCell (by simp) _
      generalize hW4 : (w3.setCell ⟨w.heap.size, 0, none⟩ (.slice a3 n c3)).setCell ⟨w.heap.size + 1, 0, none⟩ (.bool true) = W4 at D2 D3 hV hBel ⊢
      have d2 := D2.cell (i := 0) rfl
      have d3 := D3.cell (i := 0) rfl
      simp at d2 d3
      simp [Leaves, settle, results, Tryd.results20, go_sem, d2, d3]
      exact ⟨_, _, _, ⟨rfl, rfl, rfl⟩, hV, hBel⟩

set_option maxRecDepth 100000 in
set_option maxHeartbeats 8000000 in
theorem walk_ (xs : List Bool) (hx : ∀ x ∈ xs, Rng x) (a0 : Option Addr) (c0 : Nat) (w : World) (hr : Rd w a0 (vals xs)) :
    Calls Tryd.prog 8 #[.slice a0 xs.length c0] w fun e w' => e = .returned (.bool true) ∧ Below w.heap.size w w' := by
  obtain ⟨m, hmm⟩ : ∃ m, m = xs.length := ⟨_, rfl⟩
  rw [← hmm]
  by_cases hbig : m ≤ 2147483647
  · have e0 : decide ((m : Int) > 2147483647) = false := by simp; omega
    have HM := Lib.hid hmm
    have HR := Lib.hid hx
    clear hmm hx
    have hone : Rd (w.alloc (.cells #[.bool true] 4)) (some ⟨w.heap.size, 0, none⟩) (vals [true]) := Rd.lit w 4 [.bool true]
    have h5 : ∀ x ∈ [true], Rng x := by intro x hx; rfl
    go_enter Tryd.func8, Tryd.ntmps8
    go_wp2_with fail
    refine (implWrite [true] h5 (by simp) _ 1 _ hone).mono ?_
    rintro e w1 ⟨a1, n1, c1, rfl, hv1, hb1⟩
    have hs1 : w.heap.size + 1 ≤ w1.heap.size := by have := hb1.size; simp at this; omega
    have hbw1 : Below w.heap.size w w1 := Below.trans (b := _) (by (repeat (first | with_reducible exact Below.refl _ _ | with_reducible assumption | with_reducible refine below_drewN ?_ _ | with_reducible refine Below.drew ?_ | with_reducible refine below_row ?_ (by first | omega | (simp; done) | (simp; omega)) _ | with_reducible refine Below.alloc ?_ (by first | omega | (simp; done) | (simp; omega)) _ | with_reducible refine Below.setCell ?_ (by first | omega | (simp; done) | (simp; omega)) _))) (hb1.mono (by (first | omega | (simp; done) | (simp; omega))))
    have hkid := Rd.lit w1 29 (kidsV 1 (els [true]))
    have hw5 := whole_arrHd 86 1 1 (by omega) ⟨rfl, rfl⟩ (els [true]) (fun e he => by simp [els] at he; subst he; exact elem_of _ (h5 _ (by simp))) (by simp [els]) (by rw [flat_len]; simp) (by rw [flat_len, els_len]; simp)
    go_wp2_with fail
    refine (bit_any true _).mono ?_
    rintro e wb ⟨rfl, rfl⟩
    go_wp2_with fail
    refine (wrote_wholeA _ 1 (els [true]) (by simp [els]) hw5 a1 n1 c1 (some ⟨w1.heap.size, 0, none⟩) 1 _ (hv1.alloc _) hkid).mono ?_
    rintro e w2 ⟨rfl, hb2⟩
    have hs2 : w1.heap.size + 1 ≤ w2.heap.size := by have := hb2.size; simp at this; omega
    have hbw2 : Below w.heap.size w w2 := Below.trans (b := _) (by (repeat (first | with_reducible exact Below.refl _ _ | with_reducible assumption | with_reducible refine below_drewN ?_ _ | with_reducible refine Below.drew ?_ | with_reducible refine below_row ?_ (by first | omega | (simp; done) | (simp; omega)) _ | with_reducible refine Below.alloc ?_ (by first | omega | (simp; done) | (simp; omega)) _ | with_reducible refine Below.setCell ?_ (by first | omega | (simp; done) | (simp; omega)) _))) (hb2.mono (by (first | omega | (simp; done) | (simp; omega))))
    clear hone h5 hv1 hb1 hbw1 hkid hw5 hb2
    go_wp2_with fail
    go_loopw [29] (fun i wr => ∃ j ka kc, j ≤ m ∧ i = .int .i64 j ∧ Blk wr w2.heap.size 29 #[.int .i64 23, .int .u64 0, .string ⟨#[]⟩, .slice ka j kc, .int .i64 0, nilS] ∧ wr.ownsRow (w2.heap.size + 1) 29 6 (.slice ka j kc) j (kidsV 1 (els (xs.take j))) ∧ Below w.heap.size w wr) (fun i _ => m - (intOf i).toNat)
    case atStart => exact ⟨0, none, 0, Nat.zero_le _, rfl, by (repeat (first | with_reducible exact Blk.new _ _ _ | with_reducible assumption | with_reducible refine Blk.newAt (by first | rfl | (simp; done) | (simp; omega)) _ _ | with_reducible refine Blk.alloc ?_ _ | with_reducible refine Blk.drewN ?_ _ | with_reducible refine Blk.drew ?_ | with_reducible refine Blk.other ?_ (by first | omega | (simp; done) | (simp; omega)) _)), World.ownsRow_nil _ _ _ _, by (repeat (first | with_reducible exact Below.refl _ _ | with_reducible assumption | with_reducible refine below_drewN ?_ _ | with_reducible refine Below.drew ?_ | with_reducible refine below_row ?_ (by first | omega | (simp; done) | (simp; omega)) _ | with_reducible refine Below.alloc ?_ (by first | omega | (simp; done) | (simp; omega)) _ | with_reducible refine Below.setCell ?_ (by first | omega | (simp; done) | (simp; omega)) _))⟩
    case round =>
      obtain ⟨j, ka, kc, hj, rfl, hBv, hown, hbw⟩ := hrel
      have hsz := hbw.size
      have hlv := hBv.lt
      have hcv3 := hBv.cell (i := 3) rfl
      have hfv3 := hBv.frozen 3
      by_cases hlt : j < m
      · have hje : j < xs.length := by rw [← HM.out]; exact hlt
        obtain ⟨b, off, rfl, hcx⟩ := (Rd.below hbw (Nat.le_refl _) hr).val_at j hje
        obtain ⟨x, hxj⟩ : ∃ x, x = xs[j] := ⟨_, rfl⟩
        rw [← hxj] at hcx
        have hxr := HR.out x (by rw [hxj]; exact List.getElem_mem hje)
        unfold Rng at hxr
        have hjm : j ≤ 1099511627776 := by omega
        have hsn := kids_snoc xs j hje
        rw [← hxj] at hsn
        have HS := Lib.hid hsn
        have HX := Lib.hid hxj
        clear hsn hxj

        obtain ⟨y, hy⟩ : ∃ y : Int, y = if x then 1 else 0 := ⟨_, rfl⟩
        have hbit : ∀ W, Calls Tryd.prog 21 #[.bool x] W fun e w' => e = .returned (.int .u64 y) ∧ W = w' := fun W => by rw [hy]; exact bit_any x W
        have hsy : kidsV 1 (els (xs.take (j + 1))) = kidsV 1 (els (xs.take j)) ++ [.int .i64 1, .int .u64 y, .string ⟨#[]⟩, nilS, .int .i64 0, nilS] := by rw [hy]; exact HS.out
        have HY := Lib.hid hy
        have HB := Lib.hid hbit
        have HS2 := Lib.hid hsy
        clear hy hbit hsy
        have hH : Has6 wr w2.heap.size := ⟨_, hBv, rfl⟩
        have hcv3o := fun o => (hBv.alloc o).cell (i := 3) rfl
        go_wp2_with fail
        refine wp_region_held_drew (S := fun W => Has6 W w2.heap.size) (by kernel_rfl) ?hS0 (fun hHeld => ?hR0)
        case hS0 => (repeat (first | with_reducible assumption | with_reducible refine Has6.set ?_ _ _ | with_reducible refine Has6.alloc ?_ _ | with_reducible refine Has6.drew ?_ | with_reducible refine Has6.drewN ?_ _))
        refine wpAnyH_take (i := 0) (v := ?_) (by simp only [List.getElem?_toArray, List.getElem?_cons_succ, List.getElem?_cons_zero]; rfl) (by kernel_rfl) (by kernel_rfl) (by kernel_rfl) (by intro _ _ _ h; exact h) (Or.inl ⟨by rfl, ?h0_1⟩) (by assumption) ?r0_1
        case h0_1 => (intro w hSw; (try dsimp only at hSw); go_simp; try with_reducible rfl)
        try simp only [Act.put, List.setIfInBounds_toArray, List.set_cons_zero, List.set_cons_succ]
        refine wpAnyH_take (i := 2) (v := ?_) (by simp only [List.getElem?_toArray, List.getElem?_cons_succ, List.getElem?_cons_zero]; rfl) (by kernel_rfl) (by kernel_rfl) (by kernel_rfl) (by intro _ _ _ h; exact h) (Or.inl ⟨by rfl, ?h2_2⟩) (by assumption) ?r2_2
        case h2_2 => (intro w hSw; (try dsimp only at hSw); go_simp; try with_reducible rfl)
        try simp only [Act.put, List.setIfInBounds_toArray, List.set_cons_zero, List.set_cons_succ]
        refine wpAnyH_ready (rs := [1, 3]) (by kernel_rfl) (by simp) ?_
        refine AllReadyH.cons (by simp only [List.getElem?_toArray, List.getElem?_cons_succ, List.getElem?_cons_zero]; rfl) (fun Kr hKr => ?_) (AllReadyH.cons (by simp only [List.getElem?_toArray, List.getElem?_cons_succ, List.getElem?_cons_zero]; rfl) (fun Kr hKr => ?_) AllReadyH.nil)
        · go_simp
          refine hKr.out _ _ ?hS1_4 (fun hHeld => ?hR1_4)
          case hS1_4 => (repeat (first | with_reducible assumption | with_reducible refine Has6.set ?_ _ _ | with_reducible refine Has6.alloc ?_ _ | with_reducible refine Has6.drew ?_ | with_reducible refine Has6.drewN ?_ _))
          clear hKr Kr
          try simp only [Act.put, List.setIfInBounds_toArray, List.set_cons_zero, List.set_cons_succ]
          refine wpAnyH_ready (rs := [3]) (by kernel_rfl) (by simp) ?_
          refine AllReadyH.cons (by simp only [List.getElem?_toArray, List.getElem?_cons_succ, List.getElem?_cons_zero]; rfl) (fun Kr hKr => ?_) AllReadyH.nil
          go_simp
          go_wp2_with (go_at_call 21; refine (HB.out _).mono ?_; rintro e w9 ⟨rfl, rfl⟩)
          refine hKr.out _ _ ?hS3_5 (fun hHeld => ?hR3_5)
          case hS3_5 => (repeat (first | with_reducible assumption | with_reducible refine Has6.set ?_ _ _ | with_reducible refine Has6.alloc ?_ _ | with_reducible refine Has6.drew ?_ | with_reducible refine Has6.drewN ?_ _))
          clear hKr Kr
          try simp only [Act.put, List.setIfInBounds_toArray, List.set_cons_zero, List.set_cons_succ]
          refine wpAnyH_take (i := 4) (v := ?_) (by simp only [List.getElem?_toArray, List.getElem?_cons_succ, List.getElem?_cons_zero]; rfl) (by kernel_rfl) (by kernel_rfl) (by kernel_rfl) (by intro _ _ _ h; exact h) (Or.inl ⟨by rfl, ?h4_6⟩) (by assumption) ?r4_6
          case h4_6 => (intro w hSw; (try dsimp only at hSw); go_simp; try with_reducible rfl)
          try simp only [Act.put, List.setIfInBounds_toArray, List.set_cons_zero, List.set_cons_succ]
          refine wpAnyH_ready (rs := [5]) (by kernel_rfl) (by simp) ?_
          refine AllReadyH.cons (by simp only [List.getElem?_toArray, List.getElem?_cons_succ, List.getElem?_cons_zero]; rfl) (fun Kr hKr => ?_) AllReadyH.nil
          go_simp
          refine hKr.out _ _ ?hS5_7 (fun hHeld => ?hR5_7)
          case hS5_7 => (repeat (first | with_reducible assumption | with_reducible refine Has6.set ?_ _ _ | with_reducible refine Has6.alloc ?_ _ | with_reducible refine Has6.drew ?_ | with_reducible refine Has6.drewN ?_ _))
          clear hKr Kr
          try simp only [Act.put, List.setIfInBounds_toArray, List.set_cons_zero, List.set_cons_succ]
          refine wpAnyH_ready (rs := [6]) (by kernel_rfl) (by simp) ?_
          refine AllReadyH.cons (by simp only [List.getElem?_toArray, List.getElem?_cons_succ, List.getElem?_cons_zero]; rfl) (fun Kr hKr => ?_) AllReadyH.nil
          refine step_appV (by rfl) _ _ (by rfl) (w2.heap.size + 1) ka j kc (kidsV 1 (els (xs.take j))) (by rfl) (owns_below hown (by (repeat (first | with_reducible exact Below.refl _ _ | with_reducible assumption | with_reducible refine below_drewN ?_ _ | with_reducible refine Below.drew ?_ | with_reducible refine below_row ?_ (by first | omega | (simp; done) | (simp; omega)) _ | with_reducible refine Below.alloc ?_ (by first | omega | (simp; done) | (simp; omega)) _ | with_reducible refine Below.setCell ?_ (by first | omega | (simp; done) | (simp; omega)) _)))) wr.heap.size (by rfl) [.int .i64 1, .int .u64 y, .string ⟨#[]⟩, nilS, .int .i64 0, nilS] rfl (kid_one _ _ _) (by (repeat (first | with_reducible exact Blk.new _ _ _ | with_reducible assumption | with_reducible refine Blk.newAt (by first | rfl | (simp; done) | (simp; omega)) _ _ | with_reducible refine Blk.alloc ?_ _ | with_reducible refine Blk.drewN ?_ _ | with_reducible refine Blk.drew ?_ | with_reducible refine Blk.other ?_ (by first | omega | (simp; done) | (simp; omega)) _))) hjm (by (first | omega | (simp; done) | (simp; omega))) ?_; intro a5 c5 w3 hown3 hg3; have hb3 := below_of_grown (B := w2.heap.size + 1) hg3 (by (first | omega | (simp; done) | (simp; omega))) (ge_of_owns hown); have hBv3 : Blk w3 w2.heap.size 29 #[.int .i64 23, .int .u64 0, .string ⟨#[]⟩, .slice ka j kc, .int .i64 0, nilS] := Blk.below (by (repeat (first | with_reducible exact Blk.new _ _ _ | with_reducible assumption | with_reducible refine Blk.newAt (by first | rfl | (simp; done) | (simp; omega)) _ _ | with_reducible refine Blk.alloc ?_ _ | with_reducible refine Blk.drewN ?_ _ | with_reducible refine Blk.drew ?_ | with_reducible refine Blk.other ?_ (by first | omega | (simp; done) | (simp; omega)) _))) hb3 (by omega); have hH3 : Has6 w3 w2.heap.size := ⟨_, hBv3, rfl⟩; have hf3 := hBv3.frozen 3; have hq3 := hBv3.cell (i := 3) rfl
          refine hKr.out _ _ ?hS6_8 (fun hHeld => ?hR6_8)
          case hS6_8 => (repeat (first | with_reducible assumption | with_reducible refine Has6.set ?_ _ _ | with_reducible refine Has6.alloc ?_ _ | with_reducible refine Has6.drew ?_ | with_reducible refine Has6.drewN ?_ _))
          clear hKr Kr
          try simp only [Act.put, List.setIfInBounds_toArray, List.set_cons_zero, List.set_cons_succ]
          refine wpAnyH_take (i := 7) (v := ?_) (by simp only [List.getElem?_toArray, List.getElem?_cons_succ, List.getElem?_cons_zero]; rfl) (by kernel_rfl) (by kernel_rfl) (by kernel_rfl) (by intro _ _ _ h; exact h) (Or.inl ⟨by rfl, ?h7_9⟩) (by assumption) ?r7_9
          case h7_9 => (intro w hSw; (try dsimp only at hSw); go_simp; try with_reducible rfl)
          try simp only [Act.put, List.setIfInBounds_toArray, List.set_cons_zero, List.set_cons_succ]
          refine wpAnyH_ready (rs := [8]) (by kernel_rfl) (by simp) ?_
          refine AllReadyH.cons (by simp only [List.getElem?_toArray, List.getElem?_cons_succ, List.getElem?_cons_zero]; rfl) (fun Kr hKr => ?_) AllReadyH.nil
          go_simp
          refine hKr.out _ _ ?hS8_10 (fun hHeld => ?hR8_10)
          case hS8_10 => (repeat (first | with_reducible assumption | with_reducible refine Has6.set ?_ _ _ | with_reducible refine Has6.alloc ?_ _ | with_reducible refine Has6.drew ?_ | with_reducible refine Has6.drewN ?_ _))
          clear hKr Kr
          try simp only [Act.put, List.setIfInBounds_toArray, List.set_cons_zero, List.set_cons_succ]
          refine wpAnyH_done (by kernel_rfl) ?_ _
          go_wp2_with fail
          have hbE : Below w.heap.size w w3 := Below.trans (b := _) (by (repeat (first | with_reducible exact Below.refl _ _ | with_reducible assumption | with_reducible refine below_drewN ?_ _ | with_reducible refine Below.drew ?_ | with_reducible refine below_row ?_ (by first | omega | (simp; done) | (simp; omega)) _ | with_reducible refine Below.alloc ?_ (by first | omega | (simp; done) | (simp; omega)) _ | with_reducible refine Below.setCell ?_ (by first | omega | (simp; done) | (simp; omega)) _))) (hb3.mono (by omega))
          go_roundw
          case rel => exact ⟨j + 1, a5, c5, by omega, by go_num, hBv3.set 3 _, owns_set (by rw [HS2.out]; exact hown3) (by simp) _, hbE.setCell (by simp; omega) _⟩
          case measure => simp [intOf]; omega
        · go_simp
          go_wp2_with (go_at_call 21; refine (HB.out _).mono ?_; rintro e w9 ⟨rfl, rfl⟩)
          refine hKr.out _ _ ?hS3_11 (fun hHeld => ?hR3_11)
          case hS3_11 => (repeat (first | with_reducible assumption | with_reducible refine Has6.set ?_ _ _ | with_reducible refine Has6.alloc ?_ _ | with_reducible refine Has6.drew ?_ | with_reducible refine Has6.drewN ?_ _))
          clear hKr Kr
          try simp only [Act.put, List.setIfInBounds_toArray, List.set_cons_zero, List.set_cons_succ]
          refine wpAnyH_take (i := 4) (v := ?_) (by simp only [List.getElem?_toArray, List.getElem?_cons_succ, List.getElem?_cons_zero]; rfl) (by kernel_rfl) (by kernel_rfl) (by kernel_rfl) (by intro _ _ _ h; exact h) (Or.inl ⟨by rfl, ?h4_12⟩) (by assumption) ?r4_12
          case h4_12 => (intro w hSw; (try dsimp only at hSw); go_simp; try with_reducible rfl)
          try simp only [Act.put, List.setIfInBounds_toArray, List.set_cons_zero, List.set_cons_succ]
          refine wpAnyH_ready (rs := [1, 5]) (by kernel_rfl) (by simp) ?_
          refine AllReadyH.cons (by simp only [List.getElem?_toArray, List.getElem?_cons_succ, List.getElem?_cons_zero]; rfl) (fun Kr hKr => ?_) (AllReadyH.cons (by simp only [List.getElem?_toArray, List.getElem?_cons_succ, List.getElem?_cons_zero]; rfl) (fun Kr hKr => ?_) AllReadyH.nil)
          · go_simp
            refine hKr.out _ _ ?hS1_14 (fun hHeld => ?hR1_14)
            case hS1_14 => (repeat (first | with_reducible assumption | with_reducible refine Has6.set ?_ _ _ | with_reducible refine Has6.alloc ?_ _ | with_reducible refine Has6.drew ?_ | with_reducible refine Has6.drewN ?_ _))
            clear hKr Kr
            try simp only [Act.put, List.setIfInBounds_toArray, List.set_cons_zero, List.set_cons_succ]
            refine wpAnyH_ready (rs := [5]) (by kernel_rfl) (by simp) ?_
            refine AllReadyH.cons (by simp only [List.getElem?_toArray, List.getElem?_cons_succ, List.getElem?_cons_zero]; rfl) (fun Kr hKr => ?_) AllReadyH.nil
            go_simp
            refine hKr.out _ _ ?hS5_15 (fun hHeld => ?hR5_15)
            case hS5_15 => (repeat (first | with_reducible assumption | with_reducible refine Has6.set ?_ _ _ | with_reducible refine Has6.alloc ?_ _ | with_reducible refine Has6.drew ?_ | with_reducible refine Has6.drewN ?_ _))
            clear hKr Kr
            try simp only [Act.put, List.setIfInBounds_toArray, List.set_cons_zero, List.set_cons_succ]
            refine wpAnyH_ready (rs := [6]) (by kernel_rfl) (by simp) ?_
            refine AllReadyH.cons (by simp only [List.getElem?_toArray, List.getElem?_cons_succ, List.getElem?_cons_zero]; rfl) (fun Kr hKr => ?_) AllReadyH.nil
            refine step_appV (by rfl) _ _ (by rfl) (w2.heap.size + 1) ka j kc (kidsV 1 (els (xs.take j))) (by rfl) (owns_below hown (by (repeat (first | with_reducible exact Below.refl _ _ | with_reducible assumption | with_reducible refine below_drewN ?_ _ | with_reducible refine Below.drew ?_ | with_reducible refine below_row ?_ (by first | omega | (simp; done) | (simp; omega)) _ | with_reducible refine Below.alloc ?_ (by first | omega | (simp; done) | (simp; omega)) _ | with_reducible refine Below.setCell ?_ (by first | omega | (simp; done) | (simp; omega)) _)))) wr.heap.size (by rfl) [.int .i64 1, .int .u64 y, .string ⟨#[]⟩, nilS, .int .i64 0, nilS] rfl (kid_one _ _ _) (by (repeat (first | with_reducible exact Blk.new _ _ _ | with_reducible assumption | with_reducible refine Blk.newAt (by first | rfl | (simp; done) | (simp; omega)) _ _ | with_reducible refine Blk.alloc ?_ _ | with_reducible refine Blk.drewN ?_ _ | with_reducible refine Blk.drew ?_ | with_reducible refine Blk.other ?_ (by first | omega | (simp; done) | (simp; omega)) _))) hjm (by (first | omega | (simp; done) | (simp; omega))) ?_; intro a5 c5 w3 hown3 hg3; have hb3 := below_of_grown (B := w2.heap.size + 1) hg3 (by (first | omega | (simp; done) | (simp; omega))) (ge_of_owns hown); have hBv3 : Blk w3 w2.heap.size 29 #[.int .i64 23, .int .u64 0, .string ⟨#[]⟩, .slice ka j kc, .int .i64 0, nilS] := Blk.below (by (repeat (first | with_reducible exact Blk.new _ _ _ | with_reducible assumption | with_reducible refine Blk.newAt (by first | rfl | (simp; done) | (simp; omega)) _ _ | with_reducible refine Blk.alloc ?_ _ | with_reducible refine Blk.drewN ?_ _ | with_reducible refine Blk.drew ?_ | with_reducible refine Blk.other ?_ (by first | omega | (simp; done) | (simp; omega)) _))) hb3 (by omega); have hH3 : Has6 w3 w2.heap.size := ⟨_, hBv3, rfl⟩; have hf3 := hBv3.frozen 3; have hq3 := hBv3.cell (i := 3) rfl
            refine hKr.out _ _ ?hS6_16 (fun hHeld => ?hR6_16)
            case hS6_16 => (repeat (first | with_reducible assumption | with_reducible refine Has6.set ?_ _ _ | with_reducible refine Has6.alloc ?_ _ | with_reducible refine Has6.drew ?_ | with_reducible refine Has6.drewN ?_ _))
            clear hKr Kr
            try simp only [Act.put, List.setIfInBounds_toArray, List.set_cons_zero, List.set_cons_succ]
            refine wpAnyH_take (i := 7) (v := ?_) (by simp only [List.getElem?_toArray, List.getElem?_cons_succ, List.getElem?_cons_zero]; rfl) (by kernel_rfl) (by kernel_rfl) (by kernel_rfl) (by intro _ _ _ h; exact h) (Or.inl ⟨by rfl, ?h7_17⟩) (by assumption) ?r7_17
            case h7_17 => (intro w hSw; (try dsimp only at hSw); go_simp; try with_reducible rfl)
            try simp only [Act.put, List.setIfInBounds_toArray, List.set_cons_zero, List.set_cons_succ]
            refine wpAnyH_ready (rs := [8]) (by kernel_rfl) (by simp) ?_
            refine AllReadyH.cons (by simp only [List.getElem?_toArray, List.getElem?_cons_succ, List.getElem?_cons_zero]; rfl) (fun Kr hKr => ?_) AllReadyH.nil
            go_simp
            refine hKr.out _ _ ?hS8_18 (fun hHeld => ?hR8_18)
            case hS8_18 => (repeat (first | with_reducible assumption | with_reducible refine Has6.set ?_ _ _ | with_reducible refine Has6.alloc ?_ _ | with_reducible refine Has6.drew ?_ | with_reducible refine Has6.drewN ?_ _))
            clear hKr Kr
            try simp only [Act.put, List.setIfInBounds_toArray, List.set_cons_zero, List.set_cons_succ]
            refine wpAnyH_done (by kernel_rfl) ?_ _
            go_wp2_with fail
            have hbE : Below w.heap.size w w3 := Below.trans (b := _) (by (repeat (first | with_reducible exact Below.refl _ _ | with_reducible assumption | with_reducible refine below_drewN ?_ _ | with_reducible refine Below.drew ?_ | with_reducible refine below_row ?_ (by first | omega | (simp; done) | (simp; omega)) _ | with_reducible refine Below.alloc ?_ (by first | omega | (simp; done) | (simp; omega)) _ | with_reducible refine Below.setCell ?_ (by first | omega | (simp; done) | (simp; omega)) _))) (hb3.mono (by omega))
            go_roundw
            case rel => exact ⟨j + 1, a5, c5, by omega, by go_num, hBv3.set 3 _, owns_set (by rw [HS2.out]; exact hown3) (by simp) _, hbE.setCell (by simp; omega) _⟩
            case measure => simp [intOf]; omega
          · go_simp
            refine hKr.out _ _ ?hS5_19 (fun hHeld => ?hR5_19)
            case hS5_19 => (repeat (first | with_reducible assumption | with_reducible refine Has6.set ?_ _ _ | with_reducible refine Has6.alloc ?_ _ | with_reducible refine Has6.drew ?_ | with_reducible refine Has6.drewN ?_ _))
            clear hKr Kr
            try simp only [Act.put, List.setIfInBounds_toArray, List.set_cons_zero, List.set_cons_succ]
            refine wpAnyH_ready (rs := [1]) (by kernel_rfl) (by simp) ?_
            refine AllReadyH.cons (by simp only [List.getElem?_toArray, List.getElem?_cons_succ, List.getElem?_cons_zero]; rfl) (fun Kr hKr => ?_) AllReadyH.nil
            go_simp
            refine hKr.out _ _ ?hS1_20 (fun hHeld => ?hR1_20)
            case hS1_20 => (repeat (first | with_reducible assumption | with_reducible refine Has6.set ?_ _ _ | with_reducible refine Has6.alloc ?_ _ | with_reducible refine Has6.drew ?_ | with_reducible refine Has6.drewN ?_ _))
            clear hKr Kr
            try simp only [Act.put, List.setIfInBounds_toArray, List.set_cons_zero, List.set_cons_succ]
            refine wpAnyH_ready (rs := [6]) (by kernel_rfl) (by simp) ?_
            refine AllReadyH.cons (by simp only [List.getElem?_toArray, List.getElem?_cons_succ, List.getElem?_cons_zero]; rfl) (fun Kr hKr => ?_) AllReadyH.nil
            refine step_appV (by rfl) _ _ (by rfl) (w2.heap.size + 1) ka j kc (kidsV 1 (els (xs.take j))) (by rfl) (owns_below hown (by (repeat (first | with_reducible exact Below.refl _ _ | with_reducible assumption | with_reducible refine below_drewN ?_ _ | with_reducible refine Below.drew ?_ | with_reducible refine below_row ?_ (by first | omega | (simp; done) | (simp; omega)) _ | with_reducible refine Below.alloc ?_ (by first | omega | (simp; done) | (simp; omega)) _ | with_reducible refine Below.setCell ?_ (by first | omega | (simp; done) | (simp; omega)) _)))) wr.heap.size (by rfl) [.int .i64 1, .int .u64 y, .string ⟨#[]⟩, nilS, .int .i64 0, nilS] rfl (kid_one _ _ _) (by (repeat (first | with_reducible exact Blk.new _ _ _ | with_reducible assumption | with_reducible refine Blk.newAt (by first | rfl | (simp; done) | (simp; omega)) _ _ | with_reducible refine Blk.alloc ?_ _ | with_reducible refine Blk.drewN ?_ _ | with_reducible refine Blk.drew ?_ | with_reducible refine Blk.other ?_ (by first | omega | (simp; done) | (simp; omega)) _))) hjm (by (first | omega | (simp; done) | (simp; omega))) ?_; intro a5 c5 w3 hown3 hg3; have hb3 := below_of_grown (B := w2.heap.size + 1) hg3 (by (first | omega | (simp; done) | (simp; omega))) (ge_of_owns hown); have hBv3 : Blk w3 w2.heap.size 29 #[.int .i64 23, .int .u64 0, .string ⟨#[]⟩, .slice ka j kc, .int .i64 0, nilS] := Blk.below (by (repeat (first | with_reducible exact Blk.new _ _ _ | with_reducible assumption | with_reducible refine Blk.newAt (by first | rfl | (simp; done) | (simp; omega)) _ _ | with_reducible refine Blk.alloc ?_ _ | with_reducible refine Blk.drewN ?_ _ | with_reducible refine Blk.drew ?_ | with_reducible refine Blk.other ?_ (by first | omega | (simp; done) | (simp; omega)) _))) hb3 (by omega); have hH3 : Has6 w3 w2.heap.size := ⟨_, hBv3, rfl⟩; have hf3 := hBv3.frozen 3; have hq3 := hBv3.cell (i := 3) rfl
            refine hKr.out _ _ ?hS6_21 (fun hHeld => ?hR6_21)
            case hS6_21 => (repeat (first | with_reducible assumption | with_reducible refine Has6.set ?_ _ _ | with_reducible refine Has6.alloc ?_ _ | with_reducible refine Has6.drew ?_ | with_reducible refine Has6.drewN ?_ _))
            clear hKr Kr
            try simp only [Act.put, List.setIfInBounds_toArray, List.set_cons_zero, List.set_cons_succ]
            refine wpAnyH_take (i := 7) (v := ?_) (by simp only [List.getElem?_toArray, List.getElem?_cons_succ, List.getElem?_cons_zero]; rfl) (by kernel_rfl) (by kernel_rfl) (by kernel_rfl) (by intro _ _ _ h; exact h) (Or.inl ⟨by rfl, ?h7_22⟩) (by assumption) ?r7_22
            case h7_22 => (intro w hSw; (try dsimp only at hSw); go_simp; try with_reducible rfl)
            try simp only [Act.put, List.setIfInBounds_toArray, List.set_cons_zero, List.set_cons_succ]
            refine wpAnyH_ready (rs := [8]) (by kernel_rfl) (by simp) ?_
            refine AllReadyH.cons (by simp only [List.getElem?_toArray, List.getElem?_cons_succ, List.getElem?_cons_zero]; rfl) (fun Kr hKr => ?_) AllReadyH.nil
            go_simp
            refine hKr.out _ _ ?hS8_23 (fun hHeld => ?hR8_23)
            case hS8_23 => (repeat (first | with_reducible assumption | with_reducible refine Has6.set ?_ _ _ | with_reducible refine Has6.alloc ?_ _ | with_reducible refine Has6.drew ?_ | with_reducible refine Has6.drewN ?_ _))
            clear hKr Kr
            try simp only [Act.put, List.setIfInBounds_toArray, List.set_cons_zero, List.set_cons_succ]
            refine wpAnyH_done (by kernel_rfl) ?_ _
            go_wp2_with fail
            have hbE : Below w.heap.size w w3 := Below.trans (b := _) (by (repeat (first | with_reducible exact Below.refl _ _ | with_reducible assumption | with_reducible refine below_drewN ?_ _ | with_reducible refine Below.drew ?_ | with_reducible refine below_row ?_ (by first | omega | (simp; done) | (simp; omega)) _ | with_reducible refine Below.alloc ?_ (by first | omega | (simp; done) | (simp; omega)) _ | with_reducible refine Below.setCell ?_ (by first | omega | (simp; done) | (simp; omega)) _))) (hb3.mono (by omega))
            go_roundw
            case rel => exact ⟨j + 1, a5, c5, by omega, by go_num, hBv3.set 3 _, owns_set (by rw [HS2.out]; exact hown3) (by simp) _, hbE.setCell (by simp; omega) _⟩
            case measure => simp [intOf]; omega
      · obtain rfl : j = m := by omega
        have hown' : wr.ownsRow (w2.heap.size + 1) 29 6 (.slice ka j kc) j (kidsV 1 (els xs)) := by
          rw [List.take_of_length_le (by rw [← HM.out]; exact Nat.le_refl _)] at hown; exact hown
        have hrk := Rd.of_owns hown'
        have hr2 := Rd.below hbw (Nat.le_refl _) hr
        clear hown hown' hcv3
        by_cases hs : j ≤ 300
        · have e1 : decide ((j : Int) > 300) = false := by simp; omega
          have himp := fun W h => implWrite xs HR.out (by rw [← HM.out]; omega) a0 c0 W h
          have hwh := whole_arrHd 86 1 1 (by omega) ⟨rfl, rfl⟩ (els xs) (fun e he => by simp only [els, List.mem_map] at he; obtain ⟨x, hx, rfl⟩ := he; exact elem_of x (HR.out x hx)) (by rw [els_len, ← HM.out]; omega) (by rw [flat_len, ← HM.out]; omega) (by rw [flat_len, els_len]; omega)
          obtain ⟨out, hout⟩ : ∃ out, out = arrHd 86 (els xs).length (flat (els xs)).length ++ flat (els xs) := ⟨_, rfl⟩
          rw [← hout] at himp hwh
          have HO := Lib.hid hout
          clear hout
          have hwr := fun a n c W hv hk => wrote_wholeA _ 1 (els xs) (by rw [els_len, ← HM.out]; omega) hwh a n c ka kc W hv hk
          rw [← HM.out] at himp
          rw [els_len, ← HM.out] at hwr
          have HI := Lib.hid himp
          have HW := Lib.hid hwr
          clear himp hwh hwr
          go_wp2_with fail
          refine (HI.out _ hr2).mono ?_
          rintro e w4 ⟨a4, n4, c4, rfl, hv4, hb4⟩
          have hBv4 := Blk.below hBv hb4 hlv
          have hbw4 := hbw.trans (hb4.mono hsz)
          have hk4 := Rd.below hb4 (Nat.le_refl _) hrk
          have q0 := hBv4.cell (i := 0) rfl
          have q1 := hBv4.cell (i := 1) rfl
          have q2 := hBv4.cell (i := 2) rfl
          have q3 := hBv4.cell (i := 3) rfl
          have q4 := hBv4.cell (i := 4) rfl
          have q5 := hBv4.cell (i := 5) rfl
          go_wp2_with fail
          refine (HW.out a4 n4 c4 _ hv4 hk4).mono ?_
          rintro e w5 ⟨rfl, hb5⟩
          go_wp2_with fail
          go_ret
          exact ⟨rfl, hbw4.trans (hb5.mono hbw4.size)⟩
        · have e1 : decide ((j : Int) > 300) = true := by simp; omega
          go_wp2_with fail
          go_ret
          exact ⟨rfl, hbw⟩
  · have e0 : decide ((m : Int) > 2147483647) = true := by simp; omega
    go_enter Tryd.func8, Tryd.ntmps8
    go_wp2_with fail
    go_ret
    exact ⟨rfl, Below.refl _ _⟩


theorem rd_bools {w : World} {x : Addr} {len cap : Nat} {B : Nat → Bool} (hl : len ≤ cap) (hc : ∀ i, i < cap → w.cell? (x.add i) = some (.bool (B i))) : Rd w (some x) (vals ((List.range len).map B)) := by
  by_cases h0 : len = 0
  · subst h0; exact .inl (by simp [vals])
  · obtain ⟨b, off, spot⟩ := x
    have h1 := hc 0 (by omega)
    have hsp : spot = none := by simpa [Addr.add] using World.cell?_spot h1
    subst hsp
    refine .inr ⟨b, off, rfl, fun i v hi => ?_⟩
    have hil : i < len := by
      have := (List.getElem?_eq_some_iff.1 hi).1
      simpa [vals] using this
    have e : (⟨b, off, none⟩ : Addr).add i = ⟨b, off + i, none⟩ := by unfold Addr.add; split <;> simp_all
    rw [← e, hc i (by omega)]
    simp [vals, hil] at hi
    rw [← hi]
end Go.Proofs.YtkbfppjniaejnaaDoor
