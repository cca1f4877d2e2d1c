/- spec's reader of JSON: value at a number. -/
import Derived.Test.YtokjgloefafdpaaDoorJson2
namespace Go.Proofs.YtokjgloefafdpaaDoor
open Go.RowKit Go.Lib
set_option linter.unusedVariables false
set_option linter.unusedSimpArgs false

/-- The three words begin with letters. -/
def wNull : ByteArray := { data := #[110, 117, 108, 108] }
def wTrue : ByteArray := { data := #[116, 114, 117, 101] }
def wFalse : ByteArray := { data := #[102, 97, 108, 115, 101] }

/-- What a number's text is read as. -/
def NumAt (s : ByteArray) (i n : Nat) (k num : Int) : Prop := ∀ (J : Nat) (w : World), JT w J s i →
  Calls Tryd.prog 42 #[.pointer (some ⟨J, 0, none⟩)] w fun e w' => e = .returned (pkN k num) ∧ JT w' J s (i + n) ∧ w.grownBy w' (some J)

set_option maxRecDepth 100000 in
set_option maxHeartbeats 2000000 in
theorem value_num (s : ByteArray) (i n : Nat) (k num : Int) (hN : NumAt s i n k num) (b : UInt8) (hb : Bt s i b) (hbv : b.toNat = 45 ∨ 48 ≤ b.toNat ∧ b.toNat ≤ 57) (hs : s.size ≤ 1000000) (J : Nat) (lv : Int) (hlv : 1 ≤ lv) (hlv2 : lv ≤ 1000) (w : World) (hJ : JT w J s i) :
    Calls Tryd.prog 28 #[.pointer (some ⟨J, 0, none⟩), .int .i64 lv] w fun e w' => e = .returned (pkN k num) ∧ JT w' J s (i + n) ∧ w.grownBy w' (some J) := by
  have hJl := Blk.lt hJ
  have hlt := hb.lt
  have HBK := Lib.hid (blank_no J s i b (w.alloc (.cells pz 29)) (Blk.alloc hJ _) hb (by omega) hs)
  have HN := Lib.hid hN
  have HJ := Lib.hid hJ
  have hlv3 : ¬ (lv ≤ 0) := by omega
  have hli : ¬ ((s.size : Int) ≤ (i : Int)) := by omega
  have hix := hb.index
  have HW1 := Lib.hid (fun W (h : JT W J s i) => word_no wNull 110 rfl J s i b W h hb (by rintro rfl; exact absurd hbv (by decide)) hs (by decide))
  have HW2 := Lib.hid (fun W (h : JT W J s i) => word_no wTrue 116 rfl J s i b W h hb (by rintro rfl; exact absurd hbv (by decide)) hs (by decide))
  have HW3 := Lib.hid (fun W (h : JT W J s i) => word_no wFalse 102 rfl J s i b W h hb (by rintro rfl; exact absurd hbv (by decide)) hs (by decide))
  obtain ⟨v, hv⟩ : ∃ v : Int, v = (b.toNat : Int) := ⟨_, rfl⟩
  rw [← hv] at hix
  have e1 : (v == 34) = false := by simp; omega
  have e2 : (v == 91) = false := by simp; omega
  have e3 : (v == 123) = false := by simp; omega
  clear hN hJ hb hbv hv
  go_enter Tryd.func28, Tryd.ntmps28
  go_wp2_with fail
  refine HBK.out.mono ?_
  rintro e w1 ⟨rfl, q, rfl⟩
  have hJ1 : JT ((w.alloc (.cells pz 29)).drewN q) J s i := Blk.drewN (Blk.alloc HJ.out _) q
  have hP1 : Blk ((w.alloc (.cells pz 29)).drewN q) w.heap.size 29 pz := Blk.drewN (Blk.new w _ _) q
  have hg1 : w.grownBy ((w.alloc (.cells pz 29)).drewN q) (some J) := jg_trans (World.grownBy_alloc w _ _) (jg_drewN _ q J)
  generalize (w.alloc (.cells pz 29)).drewN q = w1 at *
  have q0 : w1.cell? ⟨J, 0, none⟩ = some (.string s) := Blk.cell hJ1 rfl
  have q1 : w1.cell? ⟨J, 1, none⟩ = some (.int .i64 (i : Int)) := Blk.cell hJ1 rfl
  have q2 : w1.cell? ⟨J, 2, none⟩ = some (.bool false) := Blk.cell hJ1 rfl
  have HK1 := Lib.hid (And.intro hJ1 (And.intro hP1 hg1))
  clear hJ1 hP1 hg1 HBK
  go_wp2_with fail
  go_quiet (fail)
  have hK2 : JT (w1.drewN nq) J s i ∧ Blk (w1.drewN nq) w.heap.size 29 pz ∧ w.grownBy (w1.drewN nq) (some J) := ⟨HK1.out.1.drewN nq, Blk.drewN HK1.out.2.1 nq, jg_trans HK1.out.2.2 (jg_drewN w1 nq J)⟩
  generalize w1.drewN nq = w2 at *
  clear q0 q1 q2
  have q0 : w2.cell? ⟨J, 0, none⟩ = some (.string s) := Blk.cell hK2.1 rfl
  have q1 : w2.cell? ⟨J, 1, none⟩ = some (.int .i64 (i : Int)) := Blk.cell hK2.1 rfl
  have HK2 := Lib.hid hK2
  clear hK2
  go_wp2_with fail
  go_quiet (fail)
  have hK3 : JT (w2.drewN nq) J s i ∧ Blk (w2.drewN nq) w.heap.size 29 pz ∧ w.grownBy (w2.drewN nq) (some J) := ⟨HK2.out.1.drewN nq, Blk.drewN HK2.out.2.1 nq, jg_trans HK2.out.2.2 (jg_drewN w2 nq J)⟩
  generalize w2.drewN nq = w3 at *
  have HK3 := Lib.hid hK3
  clear hK3 q0 q1
  go_wp2_with fail
  refine (HW1.out w3 HK3.out.1).mono ?_
  rintro e w4 ⟨rfl, q4, rfl⟩
  have HK4 := Lib.hid (show JT (w3.drewN q4) J s i ∧ Blk (w3.drewN q4) w.heap.size 29 pz ∧ w.grownBy (w3.drewN q4) (some J) from ⟨HK3.out.1.drewN q4, Blk.drewN HK3.out.2.1 q4, jg_trans HK3.out.2.2 (jg_drewN w3 q4 J)⟩)
  generalize w3.drewN q4 = w4 at *
  go_wp2_with fail
  refine (HW2.out w4 HK4.out.1).mono ?_
  rintro e w5 ⟨rfl, q5, rfl⟩
  have HK5 := Lib.hid (show JT (w4.drewN q5) J s i ∧ Blk (w4.drewN q5) w.heap.size 29 pz ∧ w.grownBy (w4.drewN q5) (some J) from ⟨HK4.out.1.drewN q5, Blk.drewN HK4.out.2.1 q5, jg_trans HK4.out.2.2 (jg_drewN w4 q5 J)⟩)
  generalize w4.drewN q5 = w5 at *
  go_wp2_with fail
  refine (HW3.out w5 HK5.out.1).mono ?_
  rintro e w6 ⟨rfl, q6, rfl⟩
  have HK6 := Lib.hid (show JT (w5.drewN q6) J s i ∧ Blk (w5.drewN q6) w.heap.size 29 pz ∧ w.grownBy (w5.drewN q6) (some J) from ⟨HK5.out.1.drewN q6, Blk.drewN HK5.out.2.1 q6, jg_trans HK5.out.2.2 (jg_drewN w5 q6 J)⟩)
  generalize w5.drewN q6 = w6 at *
  go_wp2_with fail
  refine (HN.out J w6 HK6.out.1).mono ?_
  rintro e w7 ⟨rfl, hJ7, hg7⟩
  have hP7 : Blk w7 w.heap.size 29 pz := by
    unfold Blk
    rw [hg7.block w.heap.size HK6.out.2.1.lt (fun e => by injection e; omega)]
    exact HK6.out.2.1
  have HK7 := Lib.hid (And.intro hJ7 (jg_trans HK6.out.2.2 hg7))
  clear hJ7 hg7
  unfold pkN
  go_wp2_with (refine wpList_store_row (by rfl) 29 _ _ (by rfl) w.heap.size _ (by rfl) (by rfl) _ _ hP7 (by kernel_rfl) (by rfl) (by simp [Value.oneCell', pz]) ?_)
  refine bodyPost_ret (results_cJ rfl _ _ w.heap.size 29 _ _ rfl (hP7.row _) Tryd.underlying29 rfl (by kernel_rfl)) rfl ⟨rfl, ?_, ?_⟩
  · exact jt_row HK7.out.1 (by omega) _
  · exact jg_row HK7.out.2 (Nat.le_refl _) _
end Go.Proofs.YtokjgloefafdpaaDoor
