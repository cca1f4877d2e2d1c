/- Values of MessagePack as they lie in memory; spec.Packs, spec.fewPacks. -/
import Derived.Test.YtdncfolehkhjhaaDoorPick
namespace Go.Proofs.YtdncfolehkhjhaaDoor
open Go.RowKit
set_option linter.unusedVariables false
set_option linter.unusedSimpArgs false

inductive Pk where
  | mk (k num : Int) (t : ByteArray) (ext : Int) (kids : List Pk)

mutual
def Pk.nodes : Pk → Nat
  | .mk _ _ _ _ ks => 1 + Pk.nodesL ks
def Pk.nodesL : List Pk → Nat
  | [] => 0
  | k :: ks => k.nodes + Pk.nodesL ks
end
theorem nodesL_snoc (ks : List Pk) (j : Nat) (h : j < ks.length) : Pk.nodesL (ks.take (j + 1)) = Pk.nodesL (ks.take j) + ks[j].nodes := by
  induction ks generalizing j with
  | nil => simp at h
  | cons k ks ih =>
    cases j with
    | zero => simp [Pk.nodesL]
    | succ j =>
      have := ih j (by simpa using h)
      simp only [List.take_succ_cons, Pk.nodesL, List.getElem_cons_succ] at this ⊢
      omega
theorem nodesL_take_le (ks : List Pk) (j : Nat) : Pk.nodesL (ks.take j) ≤ Pk.nodesL ks := by
  induction ks generalizing j with
  | nil => simp
  | cons k ks ih =>
    cases j with
    | zero => simp [Pk.nodesL]
    | succ j =>
      have := ih j
      simp only [List.take_succ_cons, Pk.nodesL]
      omega
theorem nodes_pos : ∀ t : Pk, 1 ≤ t.nodes
  | .mk _ _ _ _ ks => by simp [Pk.nodes]
theorem nodesL_len (ks : List Pk) : ks.length ≤ Pk.nodesL ks := by
  induction ks with
  | nil => simp
  | cons k ks ih =>
    have := nodes_pos k
    simp only [Pk.nodesL, List.length_cons]
    omega

abbrev pkV (k num : Int) (t : ByteArray) (ext : Int) (a : Option Addr) (n c : Nat) : Value := .agg #[.int .i64 k, .int .u64 num, .string t, .int .i64 ext, .slice a n c]

/-- A value reads as a tree. -/
inductive PkAt (w : World) : Pk → Value → Prop
  | mk (k num ext : Int) (t : ByteArray) (kids : List Pk) (a : Option Addr) (c : Nat) (vs : Nat → Value)
    (hr : (-9223372036854775808 ≤ k ∧ k < 9223372036854775808) ∧ (0 ≤ num ∧ num < 18446744073709551616) ∧ (-9223372036854775808 ≤ ext ∧ ext < 9223372036854775808) ∧ t.size ≤ 9223372036854775807 ∧ kids.length ≤ c ∧ c ≤ 9223372036854775807)
    (hc : kids.length = 0 ∨ ∃ b off, a = some ⟨b, off, none⟩ ∧ ∀ i, i < kids.length → ∀ q v, (vs i).cells[q]? = some v → w.cell? ⟨b, off + i * 5 + q, none⟩ = some v)
    (hk : ∀ i (h : i < kids.length), PkAt w kids[i] (vs i)) : PkAt w (.mk k num t ext kids) (pkV k num t ext a kids.length c)

/-- An element of a node: its value, its cells. -/
theorem kid_cells {w w' : World} {kids : List Pk} {a : Option Addr} {vs : Nat → Value} (hc : kids.length = 0 ∨ ∃ b off, a = some ⟨b, off, none⟩ ∧ ∀ i, i < kids.length → ∀ q v, (vs i).cells[q]? = some v → w.cell? ⟨b, off + i * 5 + q, none⟩ = some v)
    (hb : Below w.heap.size w w') (j : Nat) (hj : j < kids.length) (hk : PkAt w kids[j] (vs j)) :
    ∃ b off k num t ext a' n c, a = some ⟨b, off, none⟩ ∧ vs j = pkV k num t ext a' n c ∧ w'.cell? ⟨b, off + j * 5, none⟩ = some (.int .i64 k) ∧ w'.cell? ⟨b, off + j * 5 + 1, none⟩ = some (.int .u64 num) ∧ w'.cell? ⟨b, off + j * 5 + 2, none⟩ = some (.string t) ∧ w'.cell? ⟨b, off + j * 5 + 3, none⟩ = some (.int .i64 ext) ∧ w'.cell? ⟨b, off + j * 5 + 4, none⟩ = some (.slice a' n c) := by
  rcases hc with h0 | ⟨b, off, ha, hx⟩
  · omega
  · obtain ⟨vj, hvj⟩ : ∃ v, v = vs j := ⟨_, rfl⟩
    obtain ⟨tj, htj⟩ : ∃ t, t = kids[j] := ⟨_, rfl⟩
    rw [← hvj, ← htj] at hk
    have hx' := hx j hj
    rw [← hvj] at hx'
    cases hk with
    | mk k num ext t kids' a' c vs' hr hc' hk' =>
      have get : ∀ q v, (pkV k num t ext a' kids'.length c).cells[q]? = some v → w'.cell? ⟨b, off + j * 5 + q, none⟩ = some v := fun q v hv => by
        have h1 := hx' q v hv
        have := World.block_lt_of_cell? w _ h1
        rw [hb.cell (p := ⟨b, off + j * 5 + q, none⟩) this]; exact h1
      exact ⟨b, off, k, num, t, ext, a', _, c, ha, hvj.symm, get 0 _ rfl, get 1 _ rfl, get 2 _ rfl, get 3 _ rfl, get 4 _ rfl⟩

set_option maxRecDepth 100000 in
set_option maxHeartbeats 4000000 in
theorem packs_any {w0 : World} {t : Pk} {v : Value} (h : PkAt w0 t v) : t.nodes ≤ 2000 → ∀ w, Below w0.heap.size w0 w →
    Calls Tryd.prog 35 #[v] w fun e w' => e = .returned (.int .i64 t.nodes) ∧ Below w.heap.size w w' := by
  induction h with
  | mk k num ext t kids a c vs hr hc hk ih =>
    intro hn w hx
    obtain ⟨hr1, hr2, hr3, hr4, hr5, hr6⟩ := hr
    obtain ⟨m, hm⟩ : ∃ m, m = kids.length := ⟨_, rfl⟩
    have hml := nodesL_len kids
    have hnd : (Pk.mk k num t ext kids).nodes = 1 + Pk.nodesL kids := by simp [Pk.nodes]
    rw [hnd] at hn
    rw [← hm] at hr5 hml ⊢
    have HM := Lib.hid hm
    have HN := Lib.hid hnd
    have HI := Lib.hid ih
    have HK := Lib.hid hk
    have HC := Lib.hid hc
    have HX := Lib.hid hx
    clear hm hnd ih hk hc hx
    unfold pkV
    go_enter Tryd.func35, Tryd.ntmps35
    go_wp2_with fail
    go_loopw [3, 9] (fun s i wr => ∃ j, j ≤ m ∧ i = .int .i64 j ∧ s = .int .i64 ((1 + Pk.nodesL (kids.take j) : Nat) : Int) ∧ Below w.heap.size w wr) (fun _ i _ => m - (intOf i).toNat)
    case atStart => exact ⟨0, Nat.zero_le _, rfl, by simp [Pk.nodesL], by (repeat (first | with_reducible exact Below.refl _ _ | with_reducible assumption | with_reducible refine below_drewN ?_ _ | with_reducible refine Below.drew ?_ | with_reducible refine below_row ?_ (by first | omega | (simp; done) | (simp; omega)) _ | with_reducible refine Below.alloc ?_ (by first | omega | (simp; done) | (simp; omega)) _ | with_reducible refine Below.setCell ?_ (by first | omega | (simp; done) | (simp; omega)) _))⟩
    case round =>
      obtain ⟨j, hj, rfl, rfl, hbw⟩ := hrel
      have hsz := hbw.size
      have hle := nodesL_take_le kids j
      by_cases hlt : j < m
      · have hje : j < kids.length := by rw [← HM.out]; exact hlt
        have hxr : Below w0.heap.size w0 wr := HX.out.trans (hbw.mono HX.out.size)
        obtain ⟨b, off, k', num', t', ext', a', n', c', rfl, hvs, q0, q1, q2, q3, q4⟩ := kid_cells HC.out hxr j hje (HK.out j hje)
        have hsn := nodesL_snoc kids j hje
        have hle2 := nodesL_take_le kids (j + 1)
        have hcall := HI.out j hje (by omega)
        rw [hvs] at hcall
        obtain ⟨nd, hnd⟩ : ∃ nd, nd = kids[j].nodes := ⟨_, rfl⟩
        rw [← hnd] at hsn hcall
        have HS := Lib.hid hsn
        have HA := Lib.hid hcall
        have hbd : nd ≤ 2000 := by omega
        have hbd2 : Pk.nodesL (kids.take j) + nd ≤ 2000 := by omega
        have HVS := Lib.hid hvs
        have HND := Lib.hid hnd
        clear hsn hcall hvs hnd hle2
        go_wp2_with fail
        refine (HA.out _ (HX.out.trans ((Below.trans (b := _) hbw (by (repeat (first | with_reducible exact Below.refl _ _ | with_reducible assumption | with_reducible refine below_drewN ?_ _ | with_reducible refine Below.drew ?_ | with_reducible refine below_row ?_ (by first | omega | (simp; done) | (simp; omega)) _ | with_reducible refine Below.alloc ?_ (by first | omega | (simp; done) | (simp; omega)) _ | with_reducible refine Below.setCell ?_ (by first | omega | (simp; done) | (simp; omega)) _)))).mono HX.out.size))).mono ?_
        rintro e w1 ⟨rfl, hb1⟩
        go_wp2_with fail
        go_roundw
        case rel => exact ⟨j + 1, by omega, by go_num, by rw [HS.out]; go_num, Below.trans (b := _) (by (repeat (first | with_reducible exact Below.refl _ _ | with_reducible assumption | with_reducible refine below_drewN ?_ _ | with_reducible refine Below.drew ?_ | with_reducible refine below_row ?_ (by first | omega | (simp; done) | (simp; omega)) _ | with_reducible refine Below.alloc ?_ (by first | omega | (simp; done) | (simp; omega)) _ | with_reducible refine Below.setCell ?_ (by first | omega | (simp; done) | (simp; omega)) _))) (hb1.mono (by (first | omega | (simp; done) | (simp; omega))))⟩
        case measure => simp [intOf]; omega
      · obtain rfl : j = m := by omega
        have et : kids.take j = kids := List.take_of_length_le (by rw [← HM.out]; exact Nat.le_refl _)
        rw [et]
        clear et
        go_wp2_with fail
        go_ret
        exact ⟨by rw [HN.out]; rfl, hbw⟩
end Go.Proofs.YtdncfolehkhjhaaDoor
