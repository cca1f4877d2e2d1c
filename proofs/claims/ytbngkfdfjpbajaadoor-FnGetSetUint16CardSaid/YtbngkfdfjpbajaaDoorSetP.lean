/- What spec.PutPack writes of an array of numbers; laws.sameItems, laws.left. -/
import Derived.Test.YtbngkfdfjpbajaaDoorUnm
import Derived.Test.YtbngkfdfjpbajaaDoorPutPk3
namespace Go.Proofs.YtbngkfdfjpbajaaDoor
open Go.RowKit Go.Maps Go.Lib
set_option linter.unusedVariables false
set_option linter.unusedSimpArgs false

def YesRes (w : World) (e : Ending) (w' : World) : Prop := e = .returned (.bool true) ∧ Below w.heap.size w w'
set_option maxHeartbeats 1000000 in
theorem same_u16 (vs : List Int) (a b : Option Addr) (c1 c2 : Nat) (w : World) (hm : vs.length ≤ 1000) (hr1 : Rd w a (vs.map (Value.int .u16))) (hr2 : Rd w b (vs.map (Value.int .u16))) :
    Calls Tryd.prog 13 #[.slice a vs.length c1, .slice b vs.length c2] w (YesRes w) := by
  obtain ⟨m, hmv⟩ : ∃ m, m = vs.length := ⟨_, rfl⟩
  rw [← hmv] at hm ⊢
  have HM := Lib.hid hmv
  have H1 := Lib.hid hr1
  have H2 := Lib.hid hr2
  clear hmv hr1 hr2
  go_enter Tryd.func13, Tryd.ntmps13
  go_wp2_with fail
  go_loopw [13] (fun i wr => ∃ j : Nat, j ≤ m ∧ i = .int .i64 j ∧ Hid (Below w.heap.size w wr)) (fun i _ => m - (intOf i).toNat)
  case atStart => exact ⟨0, Nat.zero_le _, rfl, Lib.hid (Below.refl _ _)⟩
  case round =>
    obtain ⟨j, hj, rfl, hbr⟩ := hrel
    by_cases hlt : j < m
    · have hli : (j : Int) < m := by omega
      have hjv : j < vs.length := by have := HM.out; omega
      obtain ⟨b1, o1, rfl, g1⟩ := (H1.out.below hbr.out (Nat.le_refl _)).at_ (by simp; omega)
      obtain ⟨b2, o2, rfl, g2⟩ := (H2.out.below hbr.out (Nat.le_refl _)).at_ (by simp; omega)
      obtain ⟨v, hv⟩ : ∃ v, v = vs[j] := ⟨_, rfl⟩
      have k1 : wr.cell? ⟨b1, o1 + j, none⟩ = some (.int .u16 v) := by rw [g1 j (by simp; omega), hv]; simp [List.getD, List.getElem?_eq_getElem hjv]
      have k2 : wr.cell? ⟨b2, o2 + j, none⟩ = some (.int .u16 v) := by rw [g2 j (by simp; omega), hv]; simp [List.getD, List.getElem?_eq_getElem hjv]
      clear g1 g2 hv
      go_wp2_with fail
      go_quiet (fail)
      go_wp2_with fail
      go_roundw
      case rel => exact ⟨j + 1, by omega, by go_num, Lib.hid (below_drewN hbr.out _)⟩
      case measure => simp [intOf]; omega
    · have hli : ¬ (j : Int) < m := by omega
      obtain rfl : j = m := by omega
      go_wp2_with fail
      go_ret
      exact ⟨rfl, hbr.out⟩
set_option maxHeartbeats 1000000 in
theorem same_u64 (vs : List Int) (a b : Option Addr) (c1 c2 : Nat) (w : World) (hm : vs.length ≤ 1000) (hr1 : Rd w a (vs.map (Value.int .u64))) (hr2 : Rd w b (vs.map (Value.int .u64))) :
    Calls Tryd.prog 17 #[.slice a vs.length c1, .slice b vs.length c2] w (YesRes w) := by
  obtain ⟨m, hmv⟩ : ∃ m, m = vs.length := ⟨_, rfl⟩
  rw [← hmv] at hm ⊢
  have HM := Lib.hid hmv
  have H1 := Lib.hid hr1
  have H2 := Lib.hid hr2
  clear hmv hr1 hr2
  go_enter Tryd.func17, Tryd.ntmps17
  go_wp2_with fail
  go_loopw [13] (fun i wr => ∃ j : Nat, j ≤ m ∧ i = .int .i64 j ∧ Hid (Below w.heap.size w wr)) (fun i _ => m - (intOf i).toNat)
  case atStart => exact ⟨0, Nat.zero_le _, rfl, Lib.hid (Below.refl _ _)⟩
  case round =>
    obtain ⟨j, hj, rfl, hbr⟩ := hrel
    by_cases hlt : j < m
    · have hli : (j : Int) < m := by omega
      have hjv : j < vs.length := by have := HM.out; omega
      obtain ⟨b1, o1, rfl, g1⟩ := (H1.out.below hbr.out (Nat.le_refl _)).at_ (by simp; omega)
      obtain ⟨b2, o2, rfl, g2⟩ := (H2.out.below hbr.out (Nat.le_refl _)).at_ (by simp; omega)
      obtain ⟨v, hv⟩ : ∃ v, v = vs[j] := ⟨_, rfl⟩
      have k1 : wr.cell? ⟨b1, o1 + j, none⟩ = some (.int .u64 v) := by rw [g1 j (by simp; omega), hv]; simp [List.getD, List.getElem?_eq_getElem hjv]
      have k2 : wr.cell? ⟨b2, o2 + j, none⟩ = some (.int .u64 v) := by rw [g2 j (by simp; omega), hv]; simp [List.getD, List.getElem?_eq_getElem hjv]
      clear g1 g2 hv
      go_wp2_with fail
      go_quiet (fail)
      go_wp2_with fail
      go_roundw
      case rel => exact ⟨j + 1, by omega, by go_num, Lib.hid (below_drewN hbr.out _)⟩
      case measure => simp [intOf]; omega
    · have hli : ¬ (j : Int) < m := by omega
      obtain rfl : j = m := by omega
      go_wp2_with fail
      go_ret
      exact ⟨rfl, hbr.out⟩

theorem conv_of8 {w : World} {a : Option Addr} {n c : Nat} {l : List Int} (h : Vw w a n c l) :
    (convert 28 9 (.slice a n c)).run Tryd.prog w = .ok (.string (strOfNums l)) w :=
  h.string Tryd.prog 28 5 9 Tryd.underlying28 Tryd.underlying5 Tryd.underlying9
theorem leftS_any (l : List Int) (a1 : Option Addr) (n1 c1 : Nat) (a2 : Option Addr) (n2 c2 : Nat) (w : World) (h1 : Vw w a1 n1 c1 l) (h2 : Vw w a2 n2 c2 l) :
    Calls Tryd.prog 15 #[.slice a1 n1 c1, .slice a2 n2 c2] w fun e w' => e = .returned (.bool true) ∧ w' = w := by
  have g1 := conv_of8 h1
  have g2 := conv_of8 h2
  go_enter Tryd.func15, Tryd.ntmps15
  go_wp2_with fail
  go_ret
  exact ⟨rfl, rfl⟩

/-- A number's node; an array of them. -/
def kidN (x : Int) : Pk := .mk 3 x ⟨#[]⟩ 0 []
def arrN (xs : List Int) : Pk := .mk 8 0 ⟨#[]⟩ 0 (xs.map kidN)
theorem kidN_enc {x : Int} {l : List Int} (h : (kidN x).Enc l) : PosL x l := by
  have h1 := enc_leaf (by decide) h
  unfold PEnc at h1
  rcases h1 with ⟨h, _⟩ | ⟨h, _⟩ | ⟨h, _⟩ | ⟨_, h⟩ | ⟨h, _⟩ | ⟨h, _⟩ | ⟨h, _⟩ | ⟨h, _⟩ | ⟨h, _⟩ | ⟨h, _⟩ | ⟨h, _⟩
  all_goals first | exact h | (exact absurd h (by decide))
theorem encL_N : ∀ (xs : List Int) (l : List Int), Pk.EncL (xs.map kidN) l → ∃ es, PEs xs es ∧ l = es.flatten
  | [], l, h => by
    have : l = [] := by simpa [Pk.EncL] using h
    exact ⟨[], ⟨rfl, fun i h => absurd h (by simp)⟩, by simp [this]⟩
  | x :: xs, l, h => by
    simp only [List.map_cons, Pk.EncL] at h
    obtain ⟨a, b, ha, hb, rfl⟩ := h
    obtain ⟨es, he, rfl⟩ := encL_N xs b hb
    refine ⟨a :: es, ⟨by simp [he.1], fun i hi => ?_⟩, by simp⟩
    cases i with
    | zero => simpa using kidN_enc ha
    | succ i => simpa using he.2 i (by simpa using hi)
theorem arrN_enc {xs : List Int} {l : List Int} (h : (arrN xs).Enc l) : ∃ hd es, HeadL xs.length 144 16 formsA hd ∧ PEs xs es ∧ l = hd ++ es.flatten := by
  unfold arrN at h
  simp only [Pk.Enc] at h
  rcases h with ⟨h, _⟩ | ⟨_, hd, r, h1, h2, rfl⟩ | ⟨h, _⟩
  · exact absurd rfl h.1
  · obtain ⟨es, he, rfl⟩ := encL_N xs r h2
    exact ⟨hd, es, by simpa using h1, he, rfl⟩
  · exact absurd h (by decide)
theorem arrN_fits (xs : List Int) (hm : xs.length ≤ 100) : (arrN xs).fits ∧ (arrN xs).nodes ≤ 2000 := by
  have h1 : ∀ xs : List Int, Pk.fitsL (xs.map kidN) ∧ Pk.nodesL (xs.map kidN) = xs.length := by
    intro xs
    induction xs with
    | nil => simp [Pk.fitsL, Pk.nodesL]
    | cons x r ih =>
      refine ⟨?_, ?_⟩
      · simp only [List.map_cons, Pk.fitsL]
        refine ⟨?_, ih.1⟩
        unfold kidN
        simp only [Pk.fits]
        exact ⟨by unfold FitN; refine ⟨by decide, by decide, fun h => absurd h (by decide), fun h => absurd h (by decide), by decide, by decide, by simp, by decide⟩, trivial⟩
      · simp only [List.map_cons, Pk.nodesL, ih.2]
        unfold kidN
        simp [Pk.nodes, Pk.nodesL]; omega
  unfold arrN
  refine ⟨?_, ?_⟩
  · simp only [Pk.fits]
    exact ⟨by unfold FitN; refine ⟨by decide, by decide, fun h => absurd h (by decide), fun h => absurd h (by decide), by decide, by decide, by simp; omega, by decide⟩, (h1 xs).1⟩
  · simp only [Pk.nodes, (h1 xs).2]; omega
def l5N (x : Int) : List Value := [.int .i64 3, .int .u64 x, .string ⟨#[]⟩, .int .i64 0, .slice none 0 0]
def l5Ns (xs : List Int) : List Value := xs.flatMap l5N
theorem l5Ns_len : ∀ ps : List Int, (l5Ns ps).length = ps.length * 5
  | [] => rfl
  | p :: r => by unfold l5Ns; rw [List.flatMap_cons, List.length_append]; have := l5Ns_len r; unfold l5Ns at this; rw [this]; simp [l5N]; omega
theorem l5Ns_snoc (ps : List Int) (j : Nat) (h : j < ps.length) : l5Ns (ps.take (j + 1)) = l5Ns (ps.take j) ++ l5N ps[j] := by
  unfold l5Ns; rw [List.take_add_one, List.getElem?_eq_getElem h, Option.toList_some, List.flatMap_append]; simp
theorem l5Ns_get : ∀ (ps : List Int) (i r : Nat) (h : i < ps.length), r < 5 → (l5Ns ps)[i * 5 + r]? = (l5N ps[i])[r]?
  | [], i, r, h, _ => absurd h (by simp)
  | p :: ps, 0, r, _, hr => by
    unfold l5Ns
    rw [List.flatMap_cons, Nat.zero_mul, Nat.zero_add, List.getElem?_append_left (by simp [l5N]; omega)]
    rfl
  | p :: ps, i + 1, r, h, hr => by
    have ih := l5Ns_get ps i r (by simpa using h) hr
    unfold l5Ns at ih ⊢
    rw [List.flatMap_cons, List.getElem?_append_right (by simp [l5N]; omega)]
    simp only [List.getElem_cons_succ]
    rw [← ih]
    congr 1
    simp [l5N]; omega
theorem blkN_grown {w w' : World} {g t n c B : Nat} {a : Option Addr} {cs : Array Value} (h : Blk w g t cs) (hg : w.grownBy w' (Value.ownBlock (.slice a n c))) (ha : ∀ x, a = some x → B ≤ x.block) (hB : g < B) : Blk w' g t cs := by
  unfold Blk
  rw [hg.block g h.lt (fun e => ?_)]
  · exact h
  · cases a with
    | none => cases e
    | some x => injection e with e; have := ha x rfl; omega
theorem infoPkS : (Tryd.prog.info? 25).map (fun i => (i.zero.map (·.cells.size), i.size, i.bytes)) = some (some 5, 5, 64) := by kernel_rfl
/-- The array as it lies in memory. -/
theorem arrN_at {w : World} {xs : List Int} {ka : Option Addr} {kc : Nat} (hr : Rd w ka (l5Ns xs)) (hx : ∀ x ∈ xs, 0 ≤ x ∧ x < 18446744073709551616) (hc : xs.length ≤ kc) (hc2 : kc ≤ 9223372036854775807) :
    PkAt w (arrN xs) (pkV 8 0 ⟨#[]⟩ 0 ka xs.length kc) := by
  have h := PkAt.mk (w := w) 8 0 0 ⟨#[]⟩ (xs.map kidN) ka kc (fun i => .agg (l5N (xs.getD i 0)).toArray) ⟨by decide, by decide, by decide, by decide, by simpa using hc, hc2⟩ ?_ ?_
  · rw [List.length_map] at h; exact h
  · rcases hr with h0 | ⟨b, off, ha, hcell⟩
    · left
      have := l5Ns_len xs
      rw [h0] at this
      simp at this ⊢
      cases xs with
      | nil => rfl
      | cons x r => simp at this
    · right
      refine ⟨b, off, ha, fun i hi q v hv => ?_⟩
      have hi' : i < xs.length := by simpa using hi
      have hv' : (l5N xs[i])[q]? = some v := by simpa [Value.cells, List.getD, List.getElem?_eq_getElem hi'] using hv
      have hq : q < 5 := by have := (List.getElem?_eq_some_iff.1 hv').1; simpa [l5N] using this
      rw [Nat.add_assoc]
      exact hcell _ _ (by rw [l5Ns_get xs i q hi' hq]; exact hv')
  · intro i hi
    have hi' : i < xs.length := by simpa using hi
    have hxi := hx xs[i] (List.getElem_mem hi')
    rw [List.getElem_map]
    have h2 := PkAt.mk (w := w) 3 xs[i] 0 ⟨#[]⟩ [] none 0 (fun _ => undef) ⟨by decide, hxi, by decide, by decide, by simp, by decide⟩ (.inl rfl) (fun i h => absurd h (by simp))
    simp only [List.getD, List.getElem?_eq_getElem hi', Option.getD_some]
    exact h2
end Go.Proofs.YtbngkfdfjpbajaaDoor
