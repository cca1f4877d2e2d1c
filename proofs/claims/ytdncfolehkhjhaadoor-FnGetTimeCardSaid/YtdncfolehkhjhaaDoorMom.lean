/- spec.MomentData, laws.moment. -/
import Derived.Test.YtdncfolehkhjhaaDoorRTm
import Derived.Test.YtdncfolehkhjhaaDoorBigB
import Derived.Deep.DeepCutAuto
namespace Go.Proofs.YtdncfolehkhjhaaDoor
open Go.RowKit
set_option linter.unusedVariables false
set_option linter.unusedSimpArgs false

/-- 'append(row, ys...)': values of one cell. -/
theorem appM {w : World} {ops : Array Oper} {rest : List Oper} {o : Oper} {act : Act} {Q : Exit → Act → World → Prop} (hgd : o.guard = none) (s x : Operand) (T E : TypeId) (z : Value) (by_ : Nat)
    (ho : o.op = .call { callee := .builtin .append, args := #[s, x], argTypes := #[T, T] })
    (hT : Tryd.prog.underlying T = some (.slice E)) (hinfo : (Tryd.prog.info? E).map (fun i => (i.zero, i.size, i.bytes)) = some (some z, 1, by_)) (hz1 : z.cells.size = 1) (hby : by_ ≤ 64)
    (B : Nat) (a : Option Addr) (n c : Nat) (xs : List Value) (hs : act.eval s = .slice a n c) (hown : w.ownsRow B E 1 (.slice a n c) n xs)
    (b off m cx : Nat) (ys : List Value) (hone : ∀ v ∈ ys, v.oneCell' = true) (hx : act.eval x = .slice (some ⟨b, off, none⟩) m cx) (hm : ys.length = m) (hb : ∀ i v, ys[i]? = some v → w.cell? ⟨b, off + i, none⟩ = some v) (hsz : n + m ≤ 1099511627775) (hB : B ≤ w.heap.size) (N : Nat) (hN : N = n + m)
    (h : ∀ a' c' w', w'.ownsRow B E 1 (.slice a' N c') N (xs ++ ys) → w.grownBy w' (Value.ownBlock (.slice a n c)) → wpList Tryd.prog ops Q rest (act.put o.dst (.slice a' N c')) w') : wpList Tryd.prog ops Q (o :: rest) act w := by
  subst hN
  obtain ⟨i, hi, hz, h1, h2⟩ := info_parts hinfo
  have hb2 : (n + m) * by_ ≤ 1099511627776 * 64 := Nat.mul_le_mul (by omega) hby
  refine wpList_append_own w hgd s x T ho B E i z 1 by_ hT hi hz h1 h2 hz1 (by omega) _ n xs hs hown ⟨b, off, none⟩ m cx ys hx (by omega) ?_ hone (by simp only [maxLen]; omega) (by omega) hB ?_
  · intro j u hj
    have e : (⟨b, off, none⟩ : Addr).add j = ⟨b, off + j, none⟩ := by unfold Addr.add; split <;> simp_all
    rw [e]
    exact hb j u hj
  · intro v' w' ho2 hg _
    obtain ⟨a', c', rfl⟩ := slice_of_owns ho2
    exact h a' c' w' ho2 hg
theorem lit1S (w : World) (v : Value) : (w.alloc (.cells #[v] 9)).ownsRow w.heap.size 9 1 (.slice (some ⟨w.heap.size, 0, none⟩) 1 1) 1 [v] :=
  World.ownsRow_lit w #[v] 1 (Nat.le_refl _) (by simp [maxLen]) rfl
/-- A row of texts of one's own reads as them. -/
theorem rowS_at {w : World} {B : Nat} {a : Option Addr} {n c : Nat} {xs : List Value} (h : w.ownsRow B 9 1 (.slice a n c) n xs) (h0 : 0 < xs.length) : ∃ b off, a = some ⟨b, off, none⟩ ∧ ∀ i v, xs[i]? = some v → w.cell? ⟨b, off + i, none⟩ = some v := by
  rcases Rd.of_owns h with h1 | ⟨b, off, h2, h3⟩
  · rw [h1] at h0; simp at h0
  · exact ⟨b, off, h2, h3⟩

/-- A row of bytes in this world and behind its draws, as a string. -/
def Bs (a : Option Addr) (k c : Nat) (t : ByteArray) (w : World) : Prop := (convert 35 9 (.slice a k c)).run Tryd.prog w = .ok (.string t) w ∧ (convert 35 9 (.slice a k c)).run Tryd.prog w.drew = .ok (.string t) w.drew ∧ ∀ q, (convert 35 9 (.slice a k c)).run Tryd.prog (w.drewN q) = .ok (.string t) (w.drewN q)
theorem conv_own {w : World} {B : Nat} {a : Option Addr} {n c : Nat} {l : List Int} (h : O8 w B a n c l) : (convert 35 9 (.slice a n c)).run Tryd.prog w = .ok (.string (strOfNums l)) w :=
  h.vw.string Tryd.prog 35 5 9 Tryd.underlying35 Tryd.underlying5 Tryd.underlying9
theorem bigs_any (u : Int) (h0 : 0 ≤ u) (h1 : u < 18446744073709551616) (k : Nat) (hk : k ≤ 8) (k' : Int) (hk' : k' = k) (t : ByteArray) (ht : t = strOfNums (beL u k)) (w : World) :
    Calls Tryd.prog 28 #[.int .u64 u, .int .i64 k'] w fun e w' => ∃ a c, e = .returned (.slice a k c) ∧ (∀ W, Below w'.heap.size w' W → Bs a k c t W) ∧ Below w.heap.size w w' := by
  subst ht hk'
  refine (big_any u h0 h1 k hk w).mono ?_
  rintro e w' ⟨a, c, h2, h3, h4⟩
  refine ⟨a, c, h2, fun W hW => ?_, h4⟩
  have hv := fun U (h : Below w'.heap.size w' U) => (h3.vw.below h (Nat.le_refl _)).string Tryd.prog 35 5 9 Tryd.underlying35 Tryd.underlying5 Tryd.underlying9
  exact ⟨hv W hW, hv W.drew hW.drew, fun q => hv _ (below_drewN hW q)⟩

/-- The forms of a moment's data. -/
def MomL (sec ns : Int) (l : List Int) : Prop := l = beL ns 4 ++ beL (sec % 18446744073709551616) 8 ∨ (0 ≤ sec ∧ sec < 17179869184 ∧ l = beL (ns * 17179869184 + sec) 8) ∨ (0 ≤ sec ∧ sec < 4294967296 ∧ ns = 0 ∧ l = beL sec 4)
theorem strOfNums_app (a b : List Int) : strOfNums a ++ strOfNums b = strOfNums (a ++ b) := by
  apply ByteArray.ext
  simp [strOfNums]

theorem or34 (ns sec : Int) (hn0 : 0 ≤ ns) (hn1 : ns < 1000000000) (h0 : 0 ≤ sec) (h1 : sec < 17179869184) : bits .or .u64 (ns * 17179869184) sec = ns * 17179869184 + sec := by
  rw [u64_or _ _ (by omega) (by omega) h0 (by omega), nat_join 34 _ _ (by omega) (by omega)]
  omega

set_option maxRecDepth 100000 in
set_option maxHeartbeats 4000000 in
theorem mom_any (sec ns : Int) (k : Int) (hs0 : -68719476736 < sec) (hs1 : sec < 68719476736) (hn0 : 0 ≤ ns) (hn1 : ns < 1000000000) (hk0 : 0 ≤ k) (hk1 : k ≤ 2) (w : World) :
    Calls Tryd.prog 12 #[.int .i64 sec, .int .u32 ns, .int .i64 k] w fun e w' => ∃ l, MomL sec ns l ∧ e = .returned (.string (strOfNums l)) ∧ Below w.heap.size w w' := by
  obtain ⟨u, hu, hu2⟩ : ∃ u : Int, u = sec % 18446744073709551616 ∧ IntKind.u64.wrap sec = u := ⟨_, rfl, by rw [wrap_u64]⟩
  obtain ⟨m, hm, hm2⟩ : ∃ m : Int, m = ns ∧ IntKind.u64.wrap ns = m := ⟨_, rfl, by rw [wrap_u64]; omega⟩
  have hu0 : 0 ≤ u ∧ u < 18446744073709551616 := by omega
  obtain ⟨t4, ht4⟩ : ∃ t, t = strOfNums (beL m 4) := ⟨_, rfl⟩
  obtain ⟨t8, ht8⟩ : ∃ t, t = strOfNums (beL u 8) := ⟨_, rfl⟩
  have HB1 := Lib.hid (fun W => bigs_any m (by omega) (by omega) 4 (by omega) 4 rfl t4 ht4 W)
  have HB2 := Lib.hid (fun W => bigs_any u hu0.1 hu0.2 8 (by omega) 8 rfl t8 ht8 W)
  obtain ⟨tl, htl, htl2⟩ : ∃ t, t = t4 ++ t8 ∧ t = strOfNums (beL ns 4 ++ beL (sec % 18446744073709551616) 8) := ⟨_, rfl, by rw [ht4, ht8, strOfNums_app, hm, hu]⟩
  have hz4 : t4.size = 4 := by rw [ht4, strOfNums_size, beL_len]
  have hz8 : t8.size = 8 := by rw [ht8, strOfNums_size, beL_len]
  have hzs : ¬ (9223372036854775807 < t4.size + t8.size) := by omega
  clear ht4 ht8 hz4 hz8
  have HTL := Lib.hid htl
  have HTL2 := Lib.hid htl2
  have HBD := Lib.hid (show (-68719476736 < sec ∧ sec < 68719476736) ∧ 0 ≤ ns ∧ ns < 1000000000 from ⟨⟨hs0, hs1⟩, hn0, hn1⟩)
  have HUV := Lib.hid hu
  have HMV := Lib.hid hm
  clear hu hm hs0 hs1 hn0 hn1 hu0 htl htl2
  go_enter Tryd.func12, Tryd.ntmps12
  go_upto_region 1 with fail
  go_cut [7] (fun s7 wx => s7 = .string tl ∧ Below w.heap.size w wx)
  case first =>
    refine wp_region_held_drew (S := fun W => Below w.heap.size w W) (by kernel_rfl) ?hSz1 (fun hHeld => ?hRz1)
    case hSz1 => (exact (by (repeat (first | with_reducible exact Below.refl _ _ | with_reducible assumption | with_reducible refine below_drewN ?_ _ | with_reducible refine Below.drew ?_ | with_reducible refine below_row ?_ (by first | omega | (simp; done) | (simp; omega)) _ | with_reducible refine Below.alloc ?_ (by first | omega | (simp; done) | (simp; omega)) _ | with_reducible refine Below.setCell ?_ (by first | omega | (simp; done) | (simp; omega)) _))))
    refine wpAnyH_take (i := 0) (v := ?_) (by simp only [List.getElem?_toArray, List.getElem?_cons_succ, List.getElem?_cons_zero]; rfl) (by kernel_rfl) (by kernel_rfl) (by kernel_rfl) (by intro _ _ _ h; exact h) (Or.inl ⟨by rfl, ?h0_2⟩) (by assumption) ?r0_2
    case h0_2 => (intro w hSw; (try dsimp only at hSw); go_simp; try with_reducible rfl)
    try simp only [Act.put, List.setIfInBounds_toArray, List.set_cons_zero, List.set_cons_succ]
    refine wpAnyH_take (i := 1) (v := ?_) (by simp only [List.getElem?_toArray, List.getElem?_cons_succ, List.getElem?_cons_zero]; rfl) (by kernel_rfl) (by kernel_rfl) (by kernel_rfl) (by intro _ _ _ h; exact h) (Or.inl ⟨by rfl, ?h1_3⟩) (by assumption) ?r1_3
    case h1_3 => (intro w hSw; (try dsimp only at hSw); go_simp; try with_reducible rfl)
    try simp only [Act.put, List.setIfInBounds_toArray, List.set_cons_zero, List.set_cons_succ]
    refine wpAnyH_take (i := 4) (v := ?_) (by simp only [List.getElem?_toArray, List.getElem?_cons_succ, List.getElem?_cons_zero]; rfl) (by kernel_rfl) (by kernel_rfl) (by kernel_rfl) (by intro _ _ _ h; exact h) (Or.inl ⟨by rfl, ?h4_4⟩) (by assumption) ?r4_4
    case h4_4 => (intro w hSw; (try dsimp only at hSw); go_simp; try with_reducible rfl)
    try simp only [Act.put, List.setIfInBounds_toArray, List.set_cons_zero, List.set_cons_succ]
    refine wpAnyH_take (i := 5) (v := ?_) (by simp only [List.getElem?_toArray, List.getElem?_cons_succ, List.getElem?_cons_zero]; rfl) (by kernel_rfl) (by kernel_rfl) (by kernel_rfl) (by intro _ _ _ h; exact h) (Or.inl ⟨by rfl, ?h5_5⟩) (by assumption) ?r5_5
    case h5_5 => (intro w hSw; (try dsimp only at hSw); go_simp; try with_reducible rfl)
    try simp only [Act.put, List.setIfInBounds_toArray, List.set_cons_zero, List.set_cons_succ]
    refine wpAnyH_ready (rs := [2]) (by kernel_rfl) (by simp) ?_
    refine AllReadyH.cons (by simp only [List.getElem?_toArray, List.getElem?_cons_succ, List.getElem?_cons_zero]; rfl) (fun Kr hKr => ?_) AllReadyH.nil
    go_simp
    go_wp2_with (go_at_call 28; refine (HB1.out _).mono ?_; rintro e w1 ⟨a1, c1, rfl, hk1, hb10⟩; obtain ⟨y1, y2, y3⟩ := hk1 w1 (Below.refl _ _); have hb1 : Below w.heap.size w w1 := Below.trans (b := _) (by (repeat (first | with_reducible exact Below.refl _ _ | with_reducible assumption | with_reducible refine below_drewN ?_ _ | with_reducible refine Below.drew ?_ | with_reducible refine below_row ?_ (by first | omega | (simp; done) | (simp; omega)) _ | with_reducible refine Below.alloc ?_ (by first | omega | (simp; done) | (simp; omega)) _ | with_reducible refine Below.setCell ?_ (by first | omega | (simp; done) | (simp; omega)) _))) hb10)
    refine hKr.out _ _ ?hS2_6 (fun hHeld => ?hR2_6)
    case hS2_6 => (exact (by (repeat (first | with_reducible exact Below.refl _ _ | with_reducible assumption | with_reducible refine below_drewN ?_ _ | with_reducible refine Below.drew ?_ | with_reducible refine below_row ?_ (by first | omega | (simp; done) | (simp; omega)) _ | with_reducible refine Below.alloc ?_ (by first | omega | (simp; done) | (simp; omega)) _ | with_reducible refine Below.setCell ?_ (by first | omega | (simp; done) | (simp; omega)) _))))
    clear hKr Kr
    try simp only [Act.put, List.setIfInBounds_toArray, List.set_cons_zero, List.set_cons_succ]
    refine wpAnyH_ready (rs := [3, 6]) (by kernel_rfl) (by simp) ?_
    refine AllReadyH.cons (by simp only [List.getElem?_toArray, List.getElem?_cons_succ, List.getElem?_cons_zero]; rfl) (fun Kr hKr => ?_) (AllReadyH.cons (by simp only [List.getElem?_toArray, List.getElem?_cons_succ, List.getElem?_cons_zero]; rfl) (fun Kr hKr => ?_) AllReadyH.nil)
    · go_simp
      refine hKr.out _ _ ?hS3_9 (fun hHeld => ?hR3_9)
      case hS3_9 => (exact (by (repeat (first | with_reducible exact Below.refl _ _ | with_reducible assumption | with_reducible refine below_drewN ?_ _ | with_reducible refine Below.drew ?_ | with_reducible refine below_row ?_ (by first | omega | (simp; done) | (simp; omega)) _ | with_reducible refine Below.alloc ?_ (by first | omega | (simp; done) | (simp; omega)) _ | with_reducible refine Below.setCell ?_ (by first | omega | (simp; done) | (simp; omega)) _))))
      clear hKr Kr
      try simp only [Act.put, List.setIfInBounds_toArray, List.set_cons_zero, List.set_cons_succ]
      refine wpAnyH_ready (rs := [6]) (by kernel_rfl) (by simp) ?_
      refine AllReadyH.cons (by simp only [List.getElem?_toArray, List.getElem?_cons_succ, List.getElem?_cons_zero]; rfl) (fun Kr hKr => ?_) AllReadyH.nil
      go_simp
      go_wp2_with (go_at_call 28; refine (HB2.out _).mono ?_; rintro e w2 ⟨a2, c2, rfl, hk2, hb20⟩; obtain ⟨z1, z2, z3⟩ := hk2 w2 (Below.refl _ _); obtain ⟨W9, hq, hq2⟩ : ∃ W9, Below w1.heap.size w1 W9 ∧ Below W9.heap.size W9 w2 := ⟨_, (by (repeat (first | with_reducible exact Below.refl _ _ | with_reducible assumption | with_reducible refine below_drewN ?_ _ | with_reducible refine Below.drew ?_ | with_reducible refine below_row ?_ (by first | omega | (simp; done) | (simp; omega)) _ | with_reducible refine Below.alloc ?_ (by first | omega | (simp; done) | (simp; omega)) _ | with_reducible refine Below.setCell ?_ (by first | omega | (simp; done) | (simp; omega)) _))), hb20⟩; have hq12 : Below w1.heap.size w1 w2 := hq.trans (hq2.mono hq.size); obtain ⟨x1, x2, x3⟩ := hk1 w2 hq12; have hb2 : Below w.heap.size w w2 := hb1.trans (hq12.mono hb1.size))
      refine hKr.out _ _ ?hS6_10 (fun hHeld => ?hR6_10)
      case hS6_10 => (exact (by (repeat (first | with_reducible exact Below.refl _ _ | with_reducible assumption | with_reducible refine below_drewN ?_ _ | with_reducible refine Below.drew ?_ | with_reducible refine below_row ?_ (by first | omega | (simp; done) | (simp; omega)) _ | with_reducible refine Below.alloc ?_ (by first | omega | (simp; done) | (simp; omega)) _ | with_reducible refine Below.setCell ?_ (by first | omega | (simp; done) | (simp; omega)) _))))
      clear hKr Kr
      try simp only [Act.put, List.setIfInBounds_toArray, List.set_cons_zero, List.set_cons_succ]
      refine wpAnyH_ready (rs := [7]) (by kernel_rfl) (by simp) ?_
      refine AllReadyH.cons (by simp only [List.getElem?_toArray, List.getElem?_cons_succ, List.getElem?_cons_zero]; rfl) (fun Kr hKr => ?_) AllReadyH.nil
      go_simp
      refine hKr.out _ _ ?hS7_11 (fun hHeld => ?hR7_11)
      case hS7_11 => (exact (by (repeat (first | with_reducible exact Below.refl _ _ | with_reducible assumption | with_reducible refine below_drewN ?_ _ | with_reducible refine Below.drew ?_ | with_reducible refine below_row ?_ (by first | omega | (simp; done) | (simp; omega)) _ | with_reducible refine Below.alloc ?_ (by first | omega | (simp; done) | (simp; omega)) _ | with_reducible refine Below.setCell ?_ (by first | omega | (simp; done) | (simp; omega)) _))))
      clear hKr Kr
      try simp only [Act.put, List.setIfInBounds_toArray, List.set_cons_zero, List.set_cons_succ]
      refine wpAnyH_take (i := 8) (v := ?_) (by simp only [List.getElem?_toArray, List.getElem?_cons_succ, List.getElem?_cons_zero]; rfl) (by kernel_rfl) (by kernel_rfl) (by kernel_rfl) (by intro _ _ _ h; exact h) (Or.inl ⟨by rfl, ?h8_12⟩) (by assumption) ?r8_12
      case h8_12 => (intro w hSw; (try dsimp only at hSw); go_simp; try with_reducible rfl)
      try simp only [Act.put, List.setIfInBounds_toArray, List.set_cons_zero, List.set_cons_succ]
      refine wpAnyH_take (i := 9) (v := ?_) (by simp only [List.getElem?_toArray, List.getElem?_cons_succ, List.getElem?_cons_zero]; rfl) (by kernel_rfl) (by kernel_rfl) (by kernel_rfl) (by intro _ _ _ h; exact h) (Or.inl ⟨by rfl, ?h9_13⟩) (by assumption) ?r9_13
      case h9_13 => (intro w hSw; (try dsimp only at hSw); go_simp; try with_reducible rfl)
      try simp only [Act.put, List.setIfInBounds_toArray, List.set_cons_zero, List.set_cons_succ]
      refine wpAnyH_done (by kernel_rfl) ?_ _
      go_wp2_with fail
      go_meet
      exact ⟨congrArg Value.string HTL.out.symm, by (repeat (first | with_reducible exact Below.refl _ _ | with_reducible assumption | with_reducible refine below_drewN ?_ _ | with_reducible refine Below.drew ?_ | with_reducible refine below_row ?_ (by first | omega | (simp; done) | (simp; omega)) _ | with_reducible refine Below.alloc ?_ (by first | omega | (simp; done) | (simp; omega)) _ | with_reducible refine Below.setCell ?_ (by first | omega | (simp; done) | (simp; omega)) _))⟩
    · go_simp
      go_wp2_with (go_at_call 28; refine (HB2.out _).mono ?_; rintro e w2 ⟨a2, c2, rfl, hk2, hb20⟩; obtain ⟨z1, z2, z3⟩ := hk2 w2 (Below.refl _ _); obtain ⟨W9, hq, hq2⟩ : ∃ W9, Below w1.heap.size w1 W9 ∧ Below W9.heap.size W9 w2 := ⟨_, (by (repeat (first | with_reducible exact Below.refl _ _ | with_reducible assumption | with_reducible refine below_drewN ?_ _ | with_reducible refine Below.drew ?_ | with_reducible refine below_row ?_ (by first | omega | (simp; done) | (simp; omega)) _ | with_reducible refine Below.alloc ?_ (by first | omega | (simp; done) | (simp; omega)) _ | with_reducible refine Below.setCell ?_ (by first | omega | (simp; done) | (simp; omega)) _))), hb20⟩; have hq12 : Below w1.heap.size w1 w2 := hq.trans (hq2.mono hq.size); obtain ⟨x1, x2, x3⟩ := hk1 w2 hq12; have hb2 : Below w.heap.size w w2 := hb1.trans (hq12.mono hb1.size))
      refine hKr.out _ _ ?hS6_15 (fun hHeld => ?hR6_15)
      case hS6_15 => (exact (by (repeat (first | with_reducible exact Below.refl _ _ | with_reducible assumption | with_reducible refine below_drewN ?_ _ | with_reducible refine Below.drew ?_ | with_reducible refine below_row ?_ (by first | omega | (simp; done) | (simp; omega)) _ | with_reducible refine Below.alloc ?_ (by first | omega | (simp; done) | (simp; omega)) _ | with_reducible refine Below.setCell ?_ (by first | omega | (simp; done) | (simp; omega)) _))))
      clear hKr Kr
      try simp only [Act.put, List.setIfInBounds_toArray, List.set_cons_zero, List.set_cons_succ]
      refine wpAnyH_ready (rs := [3, 7]) (by kernel_rfl) (by simp) ?_
      refine AllReadyH.cons (by simp only [List.getElem?_toArray, List.getElem?_cons_succ, List.getElem?_cons_zero]; rfl) (fun Kr hKr => ?_) (AllReadyH.cons (by simp only [List.getElem?_toArray, List.getElem?_cons_succ, List.getElem?_cons_zero]; rfl) (fun Kr hKr => ?_) AllReadyH.nil)
      · go_simp
        refine hKr.out _ _ ?hS3_18 (fun hHeld => ?hR3_18)
        case hS3_18 => (exact (by (repeat (first | with_reducible exact Below.refl _ _ | with_reducible assumption | with_reducible refine below_drewN ?_ _ | with_reducible refine Below.drew ?_ | with_reducible refine below_row ?_ (by first | omega | (simp; done) | (simp; omega)) _ | with_reducible refine Below.alloc ?_ (by first | omega | (simp; done) | (simp; omega)) _ | with_reducible refine Below.setCell ?_ (by first | omega | (simp; done) | (simp; omega)) _))))
        clear hKr Kr
        try simp only [Act.put, List.setIfInBounds_toArray, List.set_cons_zero, List.set_cons_succ]
        refine wpAnyH_ready (rs := [7]) (by kernel_rfl) (by simp) ?_
        refine AllReadyH.cons (by simp only [List.getElem?_toArray, List.getElem?_cons_succ, List.getElem?_cons_zero]; rfl) (fun Kr hKr => ?_) AllReadyH.nil
        go_simp
        refine hKr.out _ _ ?hS7_19 (fun hHeld => ?hR7_19)
        case hS7_19 => (exact (by (repeat (first | with_reducible exact Below.refl _ _ | with_reducible assumption | with_reducible refine below_drewN ?_ _ | with_reducible refine Below.drew ?_ | with_reducible refine below_row ?_ (by first | omega | (simp; done) | (simp; omega)) _ | with_reducible refine Below.alloc ?_ (by first | omega | (simp; done) | (simp; omega)) _ | with_reducible refine Below.setCell ?_ (by first | omega | (simp; done) | (simp; omega)) _))))
        clear hKr Kr
        try simp only [Act.put, List.setIfInBounds_toArray, List.set_cons_zero, List.set_cons_succ]
        refine wpAnyH_take (i := 8) (v := ?_) (by simp only [List.getElem?_toArray, List.getElem?_cons_succ, List.getElem?_cons_zero]; rfl) (by kernel_rfl) (by kernel_rfl) (by kernel_rfl) (by intro _ _ _ h; exact h) (Or.inl ⟨by rfl, ?h8_20⟩) (by assumption) ?r8_20
        case h8_20 => (intro w hSw; (try dsimp only at hSw); go_simp; try with_reducible rfl)
        try simp only [Act.put, List.setIfInBounds_toArray, List.set_cons_zero, List.set_cons_succ]
        refine wpAnyH_take (i := 9) (v := ?_) (by simp only [List.getElem?_toArray, List.getElem?_cons_succ, List.getElem?_cons_zero]; rfl) (by kernel_rfl) (by kernel_rfl) (by kernel_rfl) (by intro _ _ _ h; exact h) (Or.inl ⟨by rfl, ?h9_21⟩) (by assumption) ?r9_21
        case h9_21 => (intro w hSw; (try dsimp only at hSw); go_simp; try with_reducible rfl)
        try simp only [Act.put, List.setIfInBounds_toArray, List.set_cons_zero, List.set_cons_succ]
        refine wpAnyH_done (by kernel_rfl) ?_ _
        go_wp2_with fail
        go_meet
        exact ⟨congrArg Value.string HTL.out.symm, by (repeat (first | with_reducible exact Below.refl _ _ | with_reducible assumption | with_reducible refine below_drewN ?_ _ | with_reducible refine Below.drew ?_ | with_reducible refine below_row ?_ (by first | omega | (simp; done) | (simp; omega)) _ | with_reducible refine Below.alloc ?_ (by first | omega | (simp; done) | (simp; omega)) _ | with_reducible refine Below.setCell ?_ (by first | omega | (simp; done) | (simp; omega)) _))⟩
      · go_simp
        refine hKr.out _ _ ?hS7_23 (fun hHeld => ?hR7_23)
        case hS7_23 => (exact (by (repeat (first | with_reducible exact Below.refl _ _ | with_reducible assumption | with_reducible refine below_drewN ?_ _ | with_reducible refine Below.drew ?_ | with_reducible refine below_row ?_ (by first | omega | (simp; done) | (simp; omega)) _ | with_reducible refine Below.alloc ?_ (by first | omega | (simp; done) | (simp; omega)) _ | with_reducible refine Below.setCell ?_ (by first | omega | (simp; done) | (simp; omega)) _))))
        clear hKr Kr
        try simp only [Act.put, List.setIfInBounds_toArray, List.set_cons_zero, List.set_cons_succ]
        refine wpAnyH_ready (rs := [3]) (by kernel_rfl) (by simp) ?_
        refine AllReadyH.cons (by simp only [List.getElem?_toArray, List.getElem?_cons_succ, List.getElem?_cons_zero]; rfl) (fun Kr hKr => ?_) AllReadyH.nil
        go_simp
        refine hKr.out _ _ ?hS3_24 (fun hHeld => ?hR3_24)
        case hS3_24 => (exact (by (repeat (first | with_reducible exact Below.refl _ _ | with_reducible assumption | with_reducible refine below_drewN ?_ _ | with_reducible refine Below.drew ?_ | with_reducible refine below_row ?_ (by first | omega | (simp; done) | (simp; omega)) _ | with_reducible refine Below.alloc ?_ (by first | omega | (simp; done) | (simp; omega)) _ | with_reducible refine Below.setCell ?_ (by first | omega | (simp; done) | (simp; omega)) _))))
        clear hKr Kr
        try simp only [Act.put, List.setIfInBounds_toArray, List.set_cons_zero, List.set_cons_succ]
        refine wpAnyH_take (i := 8) (v := ?_) (by simp only [List.getElem?_toArray, List.getElem?_cons_succ, List.getElem?_cons_zero]; rfl) (by kernel_rfl) (by kernel_rfl) (by kernel_rfl) (by intro _ _ _ h; exact h) (Or.inl ⟨by rfl, ?h8_25⟩) (by assumption) ?r8_25
        case h8_25 => (intro w hSw; (try dsimp only at hSw); go_simp; try with_reducible rfl)
        try simp only [Act.put, List.setIfInBounds_toArray, List.set_cons_zero, List.set_cons_succ]
        refine wpAnyH_take (i := 9) (v := ?_) (by simp only [List.getElem?_toArray, List.getElem?_cons_succ, List.getElem?_cons_zero]; rfl) (by kernel_rfl) (by kernel_rfl) (by kernel_rfl) (by intro _ _ _ h; exact h) (Or.inl ⟨by rfl, ?h9_26⟩) (by assumption) ?r9_26
        case h9_26 => (intro w hSw; (try dsimp only at hSw); go_simp; try with_reducible rfl)
        try simp only [Act.put, List.setIfInBounds_toArray, List.set_cons_zero, List.set_cons_succ]
        refine wpAnyH_done (by kernel_rfl) ?_ _
        go_wp2_with fail
        go_meet
        exact ⟨congrArg Value.string HTL.out.symm, by (repeat (first | with_reducible exact Below.refl _ _ | with_reducible assumption | with_reducible refine below_drewN ?_ _ | with_reducible refine Below.drew ?_ | with_reducible refine below_row ?_ (by first | omega | (simp; done) | (simp; omega)) _ | with_reducible refine Below.alloc ?_ (by first | omega | (simp; done) | (simp; omega)) _ | with_reducible refine Below.setCell ?_ (by first | omega | (simp; done) | (simp; omega)) _))⟩
  case rest =>
    obtain ⟨rfl, hb⟩ := hcut
    obtain ⟨⟨hs0, hs1⟩, hn0, hn1⟩ := HBD.out
    have hsz := hb.size
    have hcl : ∀ o, Below w.heap.size w (wc.alloc o) := fun o => hb.alloc hsz o
    have hz1 : (Value.string ⟨#[]⟩).cells.size = 1 := by simp [Value.cells]
    by_cases c34 : 0 ≤ sec ∧ sec < 17179869184
    · obtain ⟨ca, cb⟩ := c34
      obtain ⟨p, hp, hp2⟩ : ∃ p : Int, p = ns * 17179869184 + sec ∧ bits .or .u64 (ns * 17179869184) sec = p := ⟨_, rfl, or34 ns sec hn0 hn1 ca cb⟩
      clear hu2 hm2
      obtain ⟨tp, htp⟩ : ∃ t, t = strOfNums (beL p 8) := ⟨_, rfl⟩
      have HP := Lib.hid (fun W => bigs_any p (by omega) (by omega) 8 (by omega) 8 rfl tp htp W)
      have HTP := Lib.hid (show tp = strOfNums (beL (ns * 17179869184 + sec) 8) by rw [htp, hp])
      clear htp hp
      by_cases c32 : sec < 4294967296 ∧ ns = 0
      · obtain ⟨cc, cd⟩ := c32
        obtain ⟨tq, htq⟩ : ∃ t, t = strOfNums (beL sec 4) := ⟨_, rfl⟩
        have HQ := Lib.hid (fun W => bigs_any sec (by omega) (by omega) 4 (by omega) 4 rfl tq htq W)
        have HTQ := Lib.hid htq
        clear htq
        obtain rfl | rfl | rfl : k = 0 ∨ k = 1 ∨ k = 2 := by omega
        all_goals
          have cd2 : (ns == 0) = true := by simpa using cd
          have hp3 : bits .or .u64 0 sec = p := by rw [← hp2, cd, Int.zero_mul]
          go_wp2_with fail
          refine (HP.out _).mono ?_
          rintro e w1 ⟨a1, c1, rfl, hk1, hb1⟩
          obtain ⟨y1, y2, y3⟩ := hk1 w1 (Below.refl _ _)
          have hb1w : Below w.heap.size w w1 := (hcl _).trans (hb1.mono (hcl _).size)
          have hs1w := hb1w.size
          have hL : Blk w1 wc.heap.size 9 #[.string tl] := (Blk.new wc _ _).below hb1 (by simp)
          have hLc : ∀ o i v, [Value.string tl][i]? = some v → (w1.alloc o).cell? ⟨wc.heap.size, 0 + i, none⟩ = some v := fun o i v h => by rw [Nat.zero_add]; exact (hL.alloc o).cell (by simpa using h)
          go_wp2_with (at_builtin; refine appM (by rfl) _ _ 73 9 (.string ⟨#[]⟩) 16 (by rfl) Tryd.underlying73 (by kernel_rfl) hz1 (by omega) w1.heap.size (some ⟨w1.heap.size, 0, none⟩) 1 1 [.string tp] (by rfl) (lit1S w1 (.string tp)) wc.heap.size 0 1 1 [.string tl] (by intro v hv; simp at hv; subst hv; rfl) (by rfl) rfl (hLc _) (by omega) (by simp) 2 rfl ?_; intro a2 c2 w2 ho2 hg2; have hb2 := below_of_grown (B := w1.heap.size) hg2 (by simp) (ge_of_owns (lit1S w1 (.string tp))))
          have hb2w : Below w.heap.size w w2 := hb1w.trans (Below.trans (b := _) ((Below.refl _ _).alloc hs1w _) (hb2.mono hs1w))
          have hs2 := hb2w.size
          clear hL hLc y1 y2 y3 hk1
          go_wp2_with fail
          refine (HQ.out _).mono ?_
          rintro e w3 ⟨a3, c3, rfl, hk3, hb3⟩
          obtain ⟨u1, u2, u3⟩ := hk3 w3 (Below.refl _ _)
          have hb3w := hb2w.trans (hb3.mono hs2)
          have hs3 := hb3w.size
          have ho23 := owns_below ho2 hb3
          obtain ⟨gb, go, hga, hgc⟩ := rowS_at ho23 (by simp)
          subst hga
          have hgc2 : ∀ o i v, [Value.string tp, Value.string tl][i]? = some v → (w3.alloc o).cell? ⟨gb, go + i, none⟩ = some v := fun o i v h => by rw [World.cell?_alloc_some _ _ _ (by rw [hgc i v h]; rfl)]; exact hgc i v h
          go_wp2_with (at_builtin; refine appM (by rfl) _ _ 73 9 (.string ⟨#[]⟩) 16 (by rfl) Tryd.underlying73 (by kernel_rfl) hz1 (by omega) w3.heap.size (some ⟨w3.heap.size, 0, none⟩) 1 1 [.string tq] (by rfl) (lit1S w3 (.string tq)) gb go 2 c2 [.string tp, .string tl] (by intro v hv; simp at hv; rcases hv with rfl | rfl <;> rfl) (by rfl) rfl (hgc2 _) (by omega) (by simp) 3 rfl ?_; intro a4 c4 w4 ho4 hg4; have hb4 := below_of_grown (B := w3.heap.size) hg4 (by simp) (ge_of_owns (lit1S w3 (.string tq))); obtain ⟨gb4, go4, hga4, hgc4⟩ := rowS_at ho4 (by simp); subst hga4; have r0 := hgc4 0 _ rfl; have r1 := hgc4 1 _ rfl; have r2 := hgc4 2 _ rfl; simp only [Nat.add_zero] at r0)
          have hb4w : Below w.heap.size w w4 := hb3w.trans (Below.trans (b := _) ((Below.refl _ _).alloc hs3 _) (hb4.mono hs3))
          go_ret
          first | exact ⟨_, .inr (.inr ⟨ca, cc, cd, rfl⟩), congrArg (fun t => Ending.returned (.string t)) HTQ.out, hb4w⟩ | exact ⟨_, .inr (.inl ⟨ca, cb, rfl⟩), congrArg (fun t => Ending.returned (.string t)) HTP.out, hb4w⟩ | exact ⟨_, .inl rfl, congrArg (fun t => Ending.returned (.string t)) HTL2.out, hb4w⟩
      · have cn : ¬ (sec < 4294967296) ∨ ¬ (ns = 0) := by omega
        skip
        obtain rfl | rfl | rfl : k = 0 ∨ k = 1 ∨ k = 2 := by omega
        all_goals
          have hcn : ¬ (sec < 4294967296) ∨ (sec < 4294967296 ∧ (ns == 0) = false) := by
            by_cases h : sec < 4294967296
            · right; exact ⟨h, by simp; omega⟩
            · exact .inl h
          clear cn
          rcases hcn with cn | ⟨cc, cn⟩
          all_goals
            go_wp2_with fail
            refine (HP.out _).mono ?_
            rintro e w1 ⟨a1, c1, rfl, hk1, hb1⟩
            obtain ⟨y1, y2, y3⟩ := hk1 w1 (Below.refl _ _)
            have hb1w : Below w.heap.size w w1 := (hcl _).trans (hb1.mono (hcl _).size)
            have hs1w := hb1w.size
            have hL : Blk w1 wc.heap.size 9 #[.string tl] := (Blk.new wc _ _).below hb1 (by simp)
            have hLc : ∀ o i v, [Value.string tl][i]? = some v → (w1.alloc o).cell? ⟨wc.heap.size, 0 + i, none⟩ = some v := fun o i v h => by rw [Nat.zero_add]; exact (hL.alloc o).cell (by simpa using h)
            go_wp2_with (at_builtin; refine appM (by rfl) _ _ 73 9 (.string ⟨#[]⟩) 16 (by rfl) Tryd.underlying73 (by kernel_rfl) hz1 (by omega) w1.heap.size (some ⟨w1.heap.size, 0, none⟩) 1 1 [.string tp] (by rfl) (lit1S w1 (.string tp)) wc.heap.size 0 1 1 [.string tl] (by intro v hv; simp at hv; subst hv; rfl) (by rfl) rfl (hLc _) (by omega) (by simp) 2 rfl ?_; intro a2 c2 w2 ho2 hg2; have hb2 := below_of_grown (B := w1.heap.size) hg2 (by simp) (ge_of_owns (lit1S w1 (.string tp))); obtain ⟨gb, go, hga, hgc⟩ := rowS_at ho2 (by simp); subst hga; have r0 := hgc 0 _ rfl; have r1 := hgc 1 _ rfl; simp only [Nat.add_zero] at r0)
            have hb2w : Below w.heap.size w w2 := hb1w.trans (Below.trans (b := _) ((Below.refl _ _).alloc hs1w _) (hb2.mono hs1w))
            have hs2 := hb2w.size
            clear hL hLc y1 y2 y3 hk1
            go_ret
            first | exact ⟨_, .inr (.inl ⟨ca, cb, rfl⟩), congrArg (fun t => Ending.returned (.string t)) HTP.out, hb2w⟩ | exact ⟨_, .inl rfl, congrArg (fun t => Ending.returned (.string t)) HTL2.out, hb2w⟩
    · have cn : ¬ (0 ≤ sec) ∨ ¬ (sec < 17179869184) := by omega
      clear c34
      rcases cn with cn | cn
      all_goals
        obtain rfl | rfl | rfl : k = 0 ∨ k = 1 ∨ k = 2 := by omega
        all_goals
          go_wp2_with fail
          go_ret
          exact ⟨_, .inl rfl, congrArg (fun t => Ending.returned (.string t)) HTL2.out, hcl _⟩
end Go.Proofs.YtdncfolehkhjhaaDoor
