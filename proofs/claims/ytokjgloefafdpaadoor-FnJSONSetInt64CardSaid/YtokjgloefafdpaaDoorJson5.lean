/- spec.ReadJSON at an array of numbers. -/
import Derived.Test.YtokjgloefafdpaaDoorJson4
namespace Go.Proofs.YtokjgloefafdpaaDoor
open Go.RowKit Go.Lib
set_option linter.unusedVariables false
set_option linter.unusedSimpArgs false

theorem results_ct {P : Program} {fn : Func} {p u : Tmp} {ty : TypeId} (h : fn.results = #[.cell p ty, .tmp u]) (tmps : Array Value) (w : World) (g : Nat) (t : TypeId) (cs : Array Value) (d : TypeDesc)
    (hp : tmps.getD p undef = .pointer (some ⟨g, 0, none⟩)) (hg : Blk w g t cs)
    (hu : P.underlying ty = some d) (hd : (match d with | .struct _ | .array _ _ => true | _ => false) = true) (hi : (P.info? ty).map (·.size) = some cs.size) :
    (results fn tmps).run P w = .ok (.tuple #[.agg cs, tmps.getD u undef]) w := by
  have hp' : tmps[p]?.getD undef = .pointer (some ⟨g, 0, none⟩) := by simpa using hp
  simp [results, h, hp', asAddr, run_loadVar_row w g t ty cs (0, 0) d hg hu hd hi]
theorem blk_row {w : World} {g k t : Nat} {cs : Array Value} (h : Blk w g t cs) (hne : g ≠ k) (c2 : Array Value) : Blk (w.setRow k c2) g t cs := by
  unfold Blk
  rw [setRow_other w k g c2 hne]
  exact h

set_option maxRecDepth 100000 in
set_option maxHeartbeats 2000000 in
theorem value_arr (s : ByteArray) (ps : List (Int × Int)) (i e0 : Nat) (hb : Bt s i 91) (hE : ElAt s ps (i + 1) e0) (hs : s.size ≤ 1000000) (hm : ps.length ≤ 1000) (J : Nat) (w : World) (hJ : JT w J s i) :
    Calls Tryd.prog 28 #[.pointer (some ⟨J, 0, none⟩), .int .i64 50] w fun e w' => ∃ ka kc, e = .returned (.agg #[.int .i64 8, .int .u64 0, .string ⟨#[]⟩, .int .i64 0, .slice ka ps.length kc]) ∧ JT w' J s e0 ∧ w.grownBy w' (some J) ∧ Rd w' ka (l5s ps) ∧ (∀ x, ka = some x → w.heap.size ≤ x.block) := by
  have hJl := Blk.lt hJ
  have hlt := hb.lt
  have HBK := Lib.hid (blank_no J s i 91 (w.alloc (.cells pz 29)) (Blk.alloc hJ _) hb (by decide) hs)
  have HN := Lib.hid (fun W h => list_nums s ps i e0 hE hs hm J W h)
  have HJ := Lib.hid hJ
  have hli : ¬ ((s.size : Int) ≤ (i : Int)) := by omega
  have hix : ∀ w : World, (Instr.index 9 (.string s) (.int .i64 (i : Int))).run Tryd.prog w = .ok (.int .u8 91) w := hb.index
  have HW1 := Lib.hid (fun W (h : JT W J s i) => word_no wNull 110 rfl J s i 91 W h hb (by decide) hs (by decide))
  have HW2 := Lib.hid (fun W (h : JT W J s i) => word_no wTrue 116 rfl J s i 91 W h hb (by decide) hs (by decide))
  have HW3 := Lib.hid (fun W (h : JT W J s i) => word_no wFalse 102 rfl J s i 91 W h hb (by decide) hs (by decide))
  obtain ⟨m, hmm⟩ : ∃ m, m = ps.length := ⟨_, rfl⟩
  rw [← hmm] at HN ⊢
  clear hJ hb hE hmm hm
  go_enter Tryd.func28, Tryd.ntmps28
  go_wp2_with fail
  refine HBK.out.mono ?_
  rintro e w1 ⟨rfl, q, rfl⟩
  have hJ1 : JT ((w.alloc (.cells pz 29)).drewN q) J s i := Blk.drewN (Blk.alloc HJ.out _) q
  have hP1 : Blk ((w.alloc (.cells pz 29)).drewN q) w.heap.size 29 pz := Blk.drewN (Blk.new w _ _) q
  have hg1 : w.grownBy ((w.alloc (.cells pz 29)).drewN q) (some J) := jg_trans (World.grownBy_alloc w _ _) (jg_drewN _ q J)
  generalize (w.alloc (.cells pz 29)).drewN q = w1 at *
  have q0 : w1.cell? ⟨J, 0, none⟩ = some (.string s) := Blk.cell hJ1 rfl
  have q1 : w1.cell? ⟨J, 1, none⟩ = some (.int .i64 (i : Int)) := Blk.cell hJ1 rfl
  have q2 : w1.cell? ⟨J, 2, none⟩ = some (.bool false) := Blk.cell hJ1 rfl
  have HK1 := Lib.hid (And.intro hJ1 (And.intro hP1 hg1))
  clear hJ1 hP1 hg1 HBK
  go_wp2_with fail
  go_quiet (fail)
  have hK2 : JT (w1.drewN nq) J s i ∧ Blk (w1.drewN nq) w.heap.size 29 pz ∧ w.grownBy (w1.drewN nq) (some J) := ⟨HK1.out.1.drewN nq, Blk.drewN HK1.out.2.1 nq, jg_trans HK1.out.2.2 (jg_drewN w1 nq J)⟩
  generalize w1.drewN nq = w2 at *
  clear q0 q1 q2
  have q0 : w2.cell? ⟨J, 0, none⟩ = some (.string s) := Blk.cell hK2.1 rfl
  have q1 : w2.cell? ⟨J, 1, none⟩ = some (.int .i64 (i : Int)) := Blk.cell hK2.1 rfl
  have HK2 := Lib.hid hK2
  clear hK2
  go_wp2_with fail
  go_quiet (fail)
  have hK3 : JT (w2.drewN nq) J s i ∧ Blk (w2.drewN nq) w.heap.size 29 pz ∧ w.grownBy (w2.drewN nq) (some J) := ⟨HK2.out.1.drewN nq, Blk.drewN HK2.out.2.1 nq, jg_trans HK2.out.2.2 (jg_drewN w2 nq J)⟩
  generalize w2.drewN nq = w3 at *
  have HK3 := Lib.hid hK3
  clear hK3 q0 q1
  go_wp2_with fail
  refine (HW1.out w3 HK3.out.1).mono ?_
  rintro e w4 ⟨rfl, q4, rfl⟩
  have HK4 := Lib.hid (show JT (w3.drewN q4) J s i ∧ Blk (w3.drewN q4) w.heap.size 29 pz ∧ w.grownBy (w3.drewN q4) (some J) from ⟨HK3.out.1.drewN q4, Blk.drewN HK3.out.2.1 q4, jg_trans HK3.out.2.2 (jg_drewN w3 q4 J)⟩)
  generalize w3.drewN q4 = w4 at *
  go_wp2_with fail
  refine (HW2.out w4 HK4.out.1).mono ?_
  rintro e w5 ⟨rfl, q5, rfl⟩
  have HK5 := Lib.hid (show JT (w4.drewN q5) J s i ∧ Blk (w4.drewN q5) w.heap.size 29 pz ∧ w.grownBy (w4.drewN q5) (some J) from ⟨HK4.out.1.drewN q5, Blk.drewN HK4.out.2.1 q5, jg_trans HK4.out.2.2 (jg_drewN w4 q5 J)⟩)
  generalize w4.drewN q5 = w5 at *
  go_wp2_with fail
  refine (HW3.out w5 HK5.out.1).mono ?_
  rintro e w6 ⟨rfl, q6, rfl⟩
  have HK6 := Lib.hid (show JT (w5.drewN q6) J s i ∧ Blk (w5.drewN q6) w.heap.size 29 pz ∧ w.grownBy (w5.drewN q6) (some J) ∧ w.heap.size + 1 ≤ (w5.drewN q6).heap.size from ⟨HK5.out.1.drewN q6, Blk.drewN HK5.out.2.1 q6, jg_trans HK5.out.2.2 (jg_drewN w5 q6 J), (Blk.drewN HK5.out.2.1 q6).lt⟩)
  generalize w5.drewN q6 = w6 at *
  go_wp2_with fail
  refine (HN.out w6 HK6.out.1).mono ?_
  rintro e w7 ⟨ka, kc, rfl, hJ7, hg7, hr7, hka⟩
  have hP7 : Blk w7 w.heap.size 29 pz := by
    unfold Blk
    rw [hg7.block w.heap.size HK6.out.2.1.lt (fun e => by injection e; omega)]
    exact HK6.out.2.1
  have HK7 := Lib.hid (And.intro hJ7 (And.intro (jg_trans HK6.out.2.2.1 hg7) (And.intro hr7 (fun x hx => Nat.le_trans HK6.out.2.2.2 (hka x hx)))))
  clear hJ7 hg7 hr7 hka
  go_wp2_with (refine wpList_store_row (by rfl) 29 _ _ (by rfl) w.heap.size _ (by rfl) (by rfl) _ _ hP7 (by kernel_rfl) (by rfl) (by simp [Value.oneCell', pz]) ?_)
  refine bodyPost_ret (results_cJ rfl _ _ w.heap.size 29 _ _ rfl (hP7.row _) Tryd.underlying29 rfl (by kernel_rfl)) rfl ⟨ka, kc, rfl, ?_, ?_, ?_, ?_⟩
  · exact jt_row HK7.out.1 (by omega) _
  · exact jg_row HK7.out.2.1 (Nat.le_refl _) _
  · exact rd_row HK7.out.2.2.1 _ (fun x hx => by have := HK7.out.2.2.2 x hx; omega)
  · intro x hx; have := HK7.out.2.2.2 x hx; omega

set_option maxRecDepth 100000 in
set_option maxHeartbeats 2000000 in
theorem readJSON_nums (s : ByteArray) (ps : List (Int × Int)) (hb : Bt s 0 91) (hE : ElAt s ps 1 s.size) (hs : s.size ≤ 1000000) (hm : ps.length ≤ 1000) (w : World) :
    Calls Tryd.prog 12 #[.string s] w fun e w' => ∃ ka kc, e = .returned (.tuple #[.agg #[.int .i64 8, .int .u64 0, .string ⟨#[]⟩, .int .i64 0, .slice ka ps.length kc], .bool true]) ∧ Rd w' ka (l5s ps) ∧ (∀ x, ka = some x → w.heap.size ≤ x.block) ∧ Below w.heap.size w w' := by
  have HV := Lib.hid (fun J W h => value_arr s ps 0 s.size hb (by simpa using hE) hs hm J W h)
  have HB := Lib.hid (fun J W h => blank_end J s W h hs)
  obtain ⟨m, hmm⟩ : ∃ m, m = ps.length := ⟨_, rfl⟩
  rw [← hmm] at HV ⊢
  clear hb hE hmm hm
  go_enter Tryd.func12, Tryd.ntmps12
  go_wp2_with fail
  have hJ1 : JT ((w.alloc (.cells #[.int .i64 0, .int .u64 0, .string ⟨#[]⟩, .int .i64 0, .slice none 0 0] 29)).alloc (.cells #[.string s, .int .i64 0, .bool false] 72)) (w.heap.size + 1) s 0 := Blk.newAt (by simp) _ _
  have hP1 : Blk ((w.alloc (.cells #[.int .i64 0, .int .u64 0, .string ⟨#[]⟩, .int .i64 0, .slice none 0 0] 29)).alloc (.cells #[.string s, .int .i64 0, .bool false] 72)) w.heap.size 29 #[.int .i64 0, .int .u64 0, .string ⟨#[]⟩, .int .i64 0, .slice none 0 0] := Blk.alloc (Blk.new w _ _) _
  have hg1 : w.grownBy ((w.alloc (.cells #[.int .i64 0, .int .u64 0, .string ⟨#[]⟩, .int .i64 0, .slice none 0 0] 29)).alloc (.cells #[.string s, .int .i64 0, .bool false] 72)) (some (w.heap.size + 1)) := jg_alloc (World.grownBy_alloc w _ _) _
  refine (HV.out _ _ hJ1).mono ?_
  rintro e w3 ⟨ka, kc, rfl, hJ3, hg3, hr3, hka⟩
  have hP3 := hP1
  unfold Blk at hP3
  rw [← hg3.block w.heap.size (by simp; omega) (fun e => by injection e; omega)] at hP3
  have hP3' : Blk w3 w.heap.size 29 #[.int .i64 0, .int .u64 0, .string ⟨#[]⟩, .int .i64 0, .slice none 0 0] := hP3
  have hg13 := jg_trans hg1 hg3
  have hs3 : w.heap.size + 2 ≤ w3.heap.size := by have := hg3.size; simpa using this
  have hka' : ∀ x, ka = some x → w.heap.size + 2 ≤ x.block := fun x hx => by have := hka x hx; simpa using this
  have HK3 := Lib.hid (And.intro hJ3 (And.intro hP3' (And.intro hg13 (And.intro hr3 hka'))))
  clear hJ1 hP1 hg1 hJ3 hP3 hP3' hg3 hg13 hr3 hka hka'
  go_wp2_with fail
  obtain ⟨g5, hg5⟩ : ∃ g5, g5 = w3.heap.size := ⟨_, rfl⟩
  have hJ4 : JT (w3.alloc (.cells #[.int .i64 8, .int .u64 0, .string ⟨#[]⟩, .int .i64 0, .slice ka m kc] 29)) (w.heap.size + 1) s s.size := Blk.alloc HK3.out.1 _
  have hT4 : Blk (w3.alloc (.cells #[.int .i64 8, .int .u64 0, .string ⟨#[]⟩, .int .i64 0, .slice ka m kc] 29)) g5 29 #[.int .i64 8, .int .u64 0, .string ⟨#[]⟩, .int .i64 0, .slice ka m kc] := Blk.newAt hg5 _ _
  have hP4 : Blk (w3.alloc (.cells #[.int .i64 8, .int .u64 0, .string ⟨#[]⟩, .int .i64 0, .slice ka m kc] 29)) w.heap.size 29 _ := Blk.alloc HK3.out.2.1 _
  have hr4 : Rd (w3.alloc (.cells #[.int .i64 8, .int .u64 0, .string ⟨#[]⟩, .int .i64 0, .slice ka m kc] 29)) ka (l5s ps) := HK3.out.2.2.2.1.below ((Below.refl _ _).alloc (Nat.le_refl _) _) (Nat.le_refl _)
  have hgr : w.grownBy (w3.alloc (.cells #[.int .i64 8, .int .u64 0, .string ⟨#[]⟩, .int .i64 0, .slice ka m kc] 29)) (some (w.heap.size + 1)) := jg_alloc HK3.out.2.2.1 _
  rw [← hg5]
  have hg5l : w.heap.size + 2 ≤ g5 := by omega
  clear hg5
  refine (HB.out _ _ hJ4).mono ?_
  rintro e w4 ⟨rfl, q, rfl⟩
  have HK := Lib.hid (And.intro (Blk.drewN hJ4 q) (And.intro (Blk.drewN hT4 q) (And.intro (Blk.drewN hP4 q) (And.intro (Rd.drewN hr4 q) (jg_trans hgr (jg_drewN _ q _))))))
  have HKA := Lib.hid HK3.out.2.2.2.2
  clear hJ4 hT4 hP4 hr4 hgr HK3
  generalize (w3.alloc (.cells #[.int .i64 8, .int .u64 0, .string ⟨#[]⟩, .int .i64 0, .slice ka m kc] 29)).drewN q = w5 at *
  have KS : ∀ V : World, Blk V (w.heap.size + 1) 72 #[.string s, .int .i64 (s.size : Int), .bool false] → Blk V g5 29 #[.int .i64 8, .int .u64 0, .string ⟨#[]⟩, .int .i64 0, .slice ka m kc] → (V.cell? ⟨w.heap.size + 1, 0, none⟩ = some (.string s) ∧ V.cell? ⟨w.heap.size + 1, 1, none⟩ = some (.int .i64 (s.size : Int)) ∧ V.cell? ⟨w.heap.size + 1, 2, none⟩ = some (.bool false) ∧ V.cell? ⟨g5, 0, none⟩ = some (.int .i64 8) ∧ V.cell? ⟨g5, 1, none⟩ = some (.int .u64 0) ∧ V.cell? ⟨g5, 2, none⟩ = some (.string ⟨#[]⟩) ∧ V.cell? ⟨g5, 3, none⟩ = some (.int .i64 0) ∧ V.cell? ⟨g5, 4, none⟩ = some (.slice ka m kc)) :=
    fun V h1 h2 => ⟨h1.cell rfl, h1.cell rfl, h1.cell rfl, h2.cell rfl, h2.cell rfl, h2.cell rfl, h2.cell rfl, h2.cell rfl⟩
  go_wp2_with fail
  refine wp_region_held_drew (S := fun V => V.cell? ⟨w.heap.size + 1, 0, none⟩ = some (.string s) ∧ V.cell? ⟨w.heap.size + 1, 1, none⟩ = some (.int .i64 (s.size : Int)) ∧ V.cell? ⟨w.heap.size + 1, 2, none⟩ = some (.bool false) ∧ V.cell? ⟨g5, 0, none⟩ = some (.int .i64 8) ∧ V.cell? ⟨g5, 1, none⟩ = some (.int .u64 0) ∧ V.cell? ⟨g5, 2, none⟩ = some (.string ⟨#[]⟩) ∧ V.cell? ⟨g5, 3, none⟩ = some (.int .i64 0) ∧ V.cell? ⟨g5, 4, none⟩ = some (.slice ka m kc)) (by kernel_rfl) ?hSz1 (fun hHeld => ?hRz1)
  case hSz1 => (first | exact KS _ (Blk.drew HK.out.1) (Blk.drew HK.out.2.1) | exact KS _ (blk_row (Blk.drew HK.out.1) (by omega) _) (blk_row (Blk.drew HK.out.2.1) (by omega) _))
  refine wpAnyH_take (i := 0) (v := ?_) (by simp only [List.getElem?_toArray, List.getElem?_cons_succ, List.getElem?_cons_zero]; rfl) (by kernel_rfl) (by kernel_rfl) (by kernel_rfl) (by intro _ _ _ h; exact h) (Or.inl ⟨by rfl, ?h0_2⟩) (by assumption) ?r0_2
  case h0_2 => (intro w hSw; (try dsimp only at hSw); go_simp; try with_reducible rfl)
  try simp only [Act.put, List.setIfInBounds_toArray, List.set_cons_zero, List.set_cons_succ]
  refine wpAnyH_take (i := 1) (v := ?_) (by simp only [List.getElem?_toArray, List.getElem?_cons_succ, List.getElem?_cons_zero]; rfl) (by kernel_rfl) (by kernel_rfl) (by kernel_rfl) (by intro _ _ _ h; exact h) (Or.inl ⟨by rfl, ?h1_3⟩) (by assumption) ?r1_3
  case h1_3 => (intro w hSw; (try dsimp only at hSw); go_simp; try with_reducible rfl)
  try simp only [Act.put, List.setIfInBounds_toArray, List.set_cons_zero, List.set_cons_succ]
  refine wpAnyH_take (i := 2) (v := ?_) (by simp only [List.getElem?_toArray, List.getElem?_cons_succ, List.getElem?_cons_zero]; rfl) (by kernel_rfl) (by kernel_rfl) (by kernel_rfl) (by intro _ _ _ h; exact h) (Or.inl ⟨by rfl, ?h2_4⟩) (by assumption) ?r2_4
  case h2_4 => (intro w hSw; (try dsimp only at hSw); go_simp; try with_reducible rfl)
  try simp only [Act.put, List.setIfInBounds_toArray, List.set_cons_zero, List.set_cons_succ]
  refine wpAnyH_take (i := 3) (v := ?_) (by simp only [List.getElem?_toArray, List.getElem?_cons_succ, List.getElem?_cons_zero]; rfl) (by kernel_rfl) (by kernel_rfl) (by kernel_rfl) (by intro _ _ _ h; exact h) (Or.inl ⟨by rfl, ?h3_5⟩) (by assumption) ?r3_5
  case h3_5 => (intro w hSw; (try dsimp only at hSw); go_simp; try with_reducible rfl)
  try simp only [Act.put, List.setIfInBounds_toArray, List.set_cons_zero, List.set_cons_succ]
  refine wpAnyH_take (i := 4) (v := ?_) (by simp only [List.getElem?_toArray, List.getElem?_cons_succ, List.getElem?_cons_zero]; rfl) (by kernel_rfl) (by kernel_rfl) (by kernel_rfl) (by intro _ _ _ h; exact h) (Or.inl ⟨by rfl, ?h4_6⟩) (by assumption) ?r4_6
  case h4_6 => (intro w hSw; (try dsimp only at hSw); go_simp; try with_reducible rfl)
  try simp only [Act.put, List.setIfInBounds_toArray, List.set_cons_zero, List.set_cons_succ]
  refine wpAnyH_take (i := 5) (v := ?_) (by simp only [List.getElem?_toArray, List.getElem?_cons_succ, List.getElem?_cons_zero]; rfl) (by kernel_rfl) (by kernel_rfl) (by kernel_rfl) (by intro _ _ _ h; exact h) (Or.inl ⟨by rfl, ?h5_7⟩) (by assumption) ?r5_7
  case h5_7 => (intro w hSw; (try dsimp only at hSw); go_simp; try with_reducible rfl)
  try simp only [Act.put, List.setIfInBounds_toArray, List.set_cons_zero, List.set_cons_succ]
  refine wpAnyH_take (i := 6) (v := ?_) (by simp only [List.getElem?_toArray, List.getElem?_cons_succ, List.getElem?_cons_zero]; rfl) (by kernel_rfl) (by kernel_rfl) (by kernel_rfl) (by intro _ _ _ h; exact h) (Or.inl ⟨by rfl, ?h6_8⟩) (by assumption) ?r6_8
  case h6_8 => (intro w hSw; (try dsimp only at hSw); go_simp; try with_reducible rfl)
  try simp only [Act.put, List.setIfInBounds_toArray, List.set_cons_zero, List.set_cons_succ]
  refine wpAnyH_take (i := 7) (v := ?_) (by simp only [List.getElem?_toArray, List.getElem?_cons_succ, List.getElem?_cons_zero]; rfl) (by kernel_rfl) (by kernel_rfl) (by kernel_rfl) (by intro _ _ _ h; exact h) (Or.inl ⟨by rfl, ?h7_9⟩) (by assumption) ?r7_9
  case h7_9 => (intro w hSw; (try dsimp only at hSw); go_simp; try with_reducible rfl)
  try simp only [Act.put, List.setIfInBounds_toArray, List.set_cons_zero, List.set_cons_succ]
  refine wpAnyH_take (i := 8) (v := ?_) (by simp only [List.getElem?_toArray, List.getElem?_cons_succ, List.getElem?_cons_zero]; rfl) (by kernel_rfl) (by kernel_rfl) (by kernel_rfl) (by intro _ _ _ h; exact h) (Or.inl ⟨by rfl, ?h8_10⟩) (by assumption) ?r8_10
  case h8_10 => (intro w hSw; (try dsimp only at hSw); go_simp; try with_reducible rfl)
  try simp only [Act.put, List.setIfInBounds_toArray, List.set_cons_zero, List.set_cons_succ]
  refine wpAnyH_take (i := 9) (v := ?_) (by simp only [List.getElem?_toArray, List.getElem?_cons_succ, List.getElem?_cons_zero]; rfl) (by kernel_rfl) (by kernel_rfl) (by kernel_rfl) (by intro _ _ _ h; exact h) (Or.inl ⟨by rfl, ?h9_11⟩) (by assumption) ?r9_11
  case h9_11 => (intro w hSw; (try dsimp only at hSw); go_simp; try with_reducible rfl)
  try simp only [Act.put, List.setIfInBounds_toArray, List.set_cons_zero, List.set_cons_succ]
  refine wpAnyH_take (i := 10) (v := ?_) (by simp only [List.getElem?_toArray, List.getElem?_cons_succ, List.getElem?_cons_zero]; rfl) (by kernel_rfl) (by kernel_rfl) (by kernel_rfl) (by intro _ _ _ h; exact h) (Or.inl ⟨by rfl, ?h10_12⟩) (by assumption) ?r10_12
  case h10_12 => (intro w hSw; (try dsimp only at hSw); go_simp; try with_reducible rfl)
  try simp only [Act.put, List.setIfInBounds_toArray, List.set_cons_zero, List.set_cons_succ]
  refine wpAnyH_take (i := 11) (v := ?_) (by simp only [List.getElem?_toArray, List.getElem?_cons_succ, List.getElem?_cons_zero]; rfl) (by kernel_rfl) (by kernel_rfl) (by kernel_rfl) (by intro _ _ _ h; exact h) (Or.inl ⟨by rfl, ?h11_13⟩) (by assumption) ?r11_13
  case h11_13 => (intro w hSw; (try dsimp only at hSw); go_simp; try with_reducible rfl)
  try simp only [Act.put, List.setIfInBounds_toArray, List.set_cons_zero, List.set_cons_succ]
  refine wpAnyH_take (i := 12) (v := ?_) (by simp only [List.getElem?_toArray, List.getElem?_cons_succ, List.getElem?_cons_zero]; rfl) (by kernel_rfl) (by kernel_rfl) (by kernel_rfl) (by intro _ _ _ h; exact h) (Or.inl ⟨by rfl, ?h12_14⟩) (by assumption) ?r12_14
  case h12_14 => (intro w hSw; (try dsimp only at hSw); go_simp; try with_reducible rfl)
  try simp only [Act.put, List.setIfInBounds_toArray, List.set_cons_zero, List.set_cons_succ]
  refine wpAnyH_take (i := 13) (v := ?_) (by simp only [List.getElem?_toArray, List.getElem?_cons_succ, List.getElem?_cons_zero]; rfl) (by kernel_rfl) (by kernel_rfl) (by kernel_rfl) (by intro _ _ _ h; exact h) (Or.inl ⟨by rfl, ?h13_15⟩) (by assumption) ?r13_15
  case h13_15 => (intro w hSw; (try dsimp only at hSw); go_simp; try with_reducible rfl)
  try simp only [Act.put, List.setIfInBounds_toArray, List.set_cons_zero, List.set_cons_succ]
  refine wpAnyH_take (i := 14) (v := ?_) (by simp only [List.getElem?_toArray, List.getElem?_cons_succ, List.getElem?_cons_zero]; rfl) (by kernel_rfl) (by kernel_rfl) (by kernel_rfl) (by intro _ _ _ h; exact h) (Or.inl ⟨by rfl, ?h14_16⟩) (by assumption) ?r14_16
  case h14_16 => (intro w hSw; (try dsimp only at hSw); go_simp; try with_reducible rfl)
  try simp only [Act.put, List.setIfInBounds_toArray, List.set_cons_zero, List.set_cons_succ]
  refine wpAnyH_ready (rs := [15]) (by kernel_rfl) (by simp) ?_
  refine AllReadyH.cons (by simp only [List.getElem?_toArray, List.getElem?_cons_succ, List.getElem?_cons_zero]; rfl) (fun Kr hKr => ?_) AllReadyH.nil
  rw [if_pos (by rfl)]
  refine wp_store_row 29 _ _ (by rfl) w.heap.size _ (by rfl) (by rfl) _ _ (Blk.drew HK.out.2.2.1) (by kernel_rfl) (by rfl) (by simp [Value.oneCell']) ?_
  refine hKr.out _ _ ?hS15_17 (fun hHeld => ?hR15_17)
  case hS15_17 => (first | exact KS _ (Blk.drew HK.out.1) (Blk.drew HK.out.2.1) | exact KS _ (blk_row (Blk.drew HK.out.1) (by omega) _) (blk_row (Blk.drew HK.out.2.1) (by omega) _))
  clear hKr Kr
  try simp only [Act.put, List.setIfInBounds_toArray, List.set_cons_zero, List.set_cons_succ]
  refine wpAnyH_take (i := 16) (v := ?_) (by simp only [List.getElem?_toArray, List.getElem?_cons_succ, List.getElem?_cons_zero]; rfl) (by kernel_rfl) (by kernel_rfl) (by kernel_rfl) (by intro _ _ _ h; exact h) (Or.inl ⟨by rfl, ?h16_18⟩) (by assumption) ?r16_18
  case h16_18 => (intro w hSw; (try dsimp only at hSw); go_simp; try with_reducible rfl)
  try simp only [Act.put, List.setIfInBounds_toArray, List.set_cons_zero, List.set_cons_succ]
  refine wpAnyH_done (by kernel_rfl) ?_ _
  go_wp2_with fail
  have hfin := (Blk.drew HK.out.2.2.1).row #[.int .i64 8, .int .u64 0, .string ⟨#[]⟩, .int .i64 0, .slice ka m kc]
  refine bodyPost_ret (results_ct rfl _ _ w.heap.size 29 _ _ rfl hfin Tryd.underlying29 rfl (by kernel_rfl)) rfl ⟨ka, kc, rfl, ?_, ?_, ?_⟩
  · exact rd_row (Rd.drew HK.out.2.2.2.1) _ (fun x hx => by have := HKA.out x hx; omega)
  · intro x hx; have := HKA.out x hx; omega
  · refine below_row ?_ (Nat.le_refl _) _
    have hbl : Below w.heap.size w w5 := (Below.refl _ _).grown HK.out.2.2.2.2 (Nat.le_refl _) (fun k hk => by injection hk with hk; omega)
    exact hbl.drew
end Go.Proofs.YtokjgloefafdpaaDoor
