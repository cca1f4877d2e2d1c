/- Values of MessagePack as they lie in memory; spec.Packs, spec.fewPacks. -/
import Derived.Test.YtfaangichifbgaaDoorPick
namespace Go.Proofs.YtfaangichifbgaaDoor
open Go.RowKit
set_option linter.unusedVariables false
set_option linter.unusedSimpArgs false

inductive Pk where
  | mk (k num : Int) (t : ByteArray) (ext : Int) (kids : List Pk)

mutual
def Pk.nodes : Pk → Nat
  | .mk _ _ _ _ ks => 1 + Pk.nodesL ks
def Pk.nodesL : List Pk → Nat
  | [] => 0
  | k :: ks => k.nodes + Pk.nodesL ks
end
theorem nodesL_snoc (ks : List Pk) (j : Nat) (h : j < ks.length) : Pk.nodesL (ks.take (j + 1)) = Pk.nodesL (ks.take j) + ks[j].nodes := by
  induction ks generalizing j with
  | nil => simp at h
  | cons k ks ih =>
    cases j with
    | zero => simp [Pk.nodesL]
    | succ j =>
      have := ih j (by simpa using h)
      simp only [List.take_succ_cons, Pk.nodesL, List.getElem_cons_succ] at this ⊢
      omega
theorem nodesL_take_le (ks : List Pk) (j : Nat) : Pk.nodesL (ks.take j) ≤ Pk.nodesL ks := by
  induction ks generalizing j with
  | nil => simp
  | cons k ks ih =>
    cases j with
    | zero => simp [Pk.nodesL]
    | succ j =>
      have := ih j
      simp only [List.take_succ_cons, Pk.nodesL]
      omega
theorem nodes_pos : ∀ t : Pk, 1 ≤ t.nodes
  | .mk _ _ _ _ ks => by simp [Pk.nodes]
theorem nodesL_len (ks : List Pk) : ks.length ≤ Pk.nodesL ks := by
  induction ks with
  | nil => simp
  | cons k ks ih =>
    have := nodes_pos k
    simp only [Pk.nodesL, List.length_cons]
    omega

abbrev pkV (k num : Int) (t : ByteArray) (ext : Int) (a : Option Addr) (n c : Nat) : Value := .agg #[.int .i64 k, .int .u64 num, .string t, .int .i64 ext, .slice a n c]

/-- A value reads as a tree. -/
inductive PkAt (w : World) : Pk → Value → Prop
  | mk (k num ext : Int) (t : ByteArray) (kids : List Pk) (a : Option Addr) (c : Nat) (vs : Nat → Value)
    (hr : (-9223372036854775808 ≤ k ∧ k < 9223372036854775808) ∧ (0 ≤ num ∧ num < 18446744073709551616) ∧ (-9223372036854775808 ≤ ext ∧ ext < 9223372036854775808) ∧ t.size ≤ 9223372036854775807 ∧ kids.length ≤ c ∧ c ≤ 9223372036854775807)
    (hc : kids.length = 0 ∨ ∃ b off, a = some ⟨b, off, none⟩ ∧ ∀ i, i < kids.length → ∀ q v, (vs i).cells[q]? = some v → w.cell? ⟨b, off + i * 5 + q, none⟩ = some v)
    (hk : ∀ i (h : i < kids.length), PkAt w kids[i] (vs i)) : PkAt w (.mk k num t ext kids) (pkV k num t ext a kids.length c)

/-- An element of a node: its value, its cells. -/
theorem kid_cells {w w' : World} {kids : List Pk} {a : Option Addr} {vs : Nat → Value} (hc : kids.length = 0 ∨ ∃ b off, a = some ⟨b, off, none⟩ ∧ ∀ i, i < kids.length → ∀ q v, (vs i).cells[q]? = some v → w.cell? ⟨b, off + i * 5 + q, none⟩ = some v)
    (hb : Below w.heap.size w w') (j : Nat) (hj : j < kids.length) (hk : PkAt w kids[j] (vs j)) :
    ∃ b off k num t ext a' n c, a = some ⟨b, off, none⟩ ∧ vs j = pkV k num t ext a' n c ∧ w'.cell? ⟨b, off + j * 5, none⟩ = some (.int .i64 k) ∧ w'.cell? ⟨b, off + j * 5 + 1, none⟩ = some (.int .u64 num) ∧ w'.cell? ⟨b, off + j * 5 + 2, none⟩ = some (.string t) ∧ w'.cell? ⟨b, off + j * 5 + 3, none⟩ = some (.int .i64 ext) ∧ w'.cell? ⟨b, off + j * 5 + 4, none⟩ = some (.slice a' n c) := by
  rcases hc with h0 | ⟨b, off, ha, hx⟩
  · omega
  · obtain ⟨vj, hvj⟩ : ∃ v, v = vs j := ⟨_, rfl⟩
    obtain ⟨tj, htj⟩ : ∃ t, t = kids[j] := ⟨_, rfl⟩
    rw [← hvj, ← htj] at hk
    have hx' := hx j hj
    rw [← hvj] at hx'
    cases hk with
    | mk k num ext t kids' a' c vs' hr hc' hk' =>
      have get : ∀ q v, (pkV k num t ext a' kids'.length c).cells[q]? = some v → w'.cell? ⟨b, off + j * 5 + q, none⟩ = some v := fun q v hv => by
        have h1 := hx' q v hv
        have := World.block_lt_of_cell? w _ h1
        rw [hb.cell (p := ⟨b, off + j * 5 + q, none⟩) this]; exact h1
      exact ⟨b, off, k, num, t, ext, a', _, c, ha, hvj.symm, get 0 _ rfl, get 1 _ rfl, get 2 _ rfl, get 3 _ rfl, get 4 _ rfl⟩

end Go.Proofs.YtfaangichifbgaaDoor
