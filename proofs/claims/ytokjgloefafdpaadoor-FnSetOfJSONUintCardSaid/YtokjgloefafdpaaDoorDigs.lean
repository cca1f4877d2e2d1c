/- laws.digitsOf, laws.jsonList: numerals, a list of JSON with blanks or without. -/
import Derived.Test.YtokjgloefafdpaaDoorJsonP
import Derived.Test.YtokjgloefafdpaaDoorRd
import Derived.Lib.ParseIntB
namespace Go.Proofs.YtokjgloefafdpaaDoor
open Go.RowKit Go.Lib
set_option linter.unusedVariables false
set_option linter.unusedSimpArgs false

theorem parseM (M : Nat) (hM : M ≤ 18446744073709551615) : ∀ (ds : List UInt8) (acc : Nat), (∀ d ∈ ds, 48 ≤ d.toNat ∧ d.toNat ≤ 57) → ds.foldl (fun a b => 10 * a + (b.toNat - 48)) acc ≤ M → parseUintM M acc ds = .ok (ds.foldl (fun a b => 10 * a + (b.toNat - 48)) acc)
  | [], acc, _, _ => rfl
  | c :: r, acc, hd, hle => by
    have hc := hd c (by simp)
    have mono : ∀ (es : List UInt8) (a : Nat), a ≤ es.foldl (fun a b => 10 * a + (b.toNat - 48)) a := by
      intro es
      induction es with
      | nil => intro a; exact Nat.le_refl _
      | cons e t ih => intro a; exact Nat.le_trans (by show a ≤ 10 * a + (e.toNat - 48); omega) (ih _)
    rw [List.foldl_cons] at hle ⊢
    have h1 := mono r (10 * acc + (c.toNat - 48))
    have e : acc * 10 + (c.toNat - 48) = 10 * acc + (c.toNat - 48) := by omega
    unfold parseUintM
    rw [if_pos hc, if_neg (by omega), if_neg (by omega), e]
    exact parseM M hM r _ (fun d h => hd d (by simp [h])) hle
theorem parse_dec (B u : Nat) (hB : 2 ^ B ≤ 18446744073709551616) (h : u < 2 ^ B) : parseUintB B (decDigits u) = .ok u := by
  unfold parseUintB
  have hp := dec_pos u
  rw [if_neg (by intro e; rw [e] at hp; simp at hp)]
  have hv := dval_dec u
  unfold dval at hv
  rw [parseM (2 ^ B - 1) (by omega) (decDigits u) 0 (dec_digit u) (by rw [hv]; omega), hv]

/-- A text's bytes as a string of Go. -/
def strD (l : List UInt8) : ByteArray := ⟨l.toArray⟩
theorem strD_app (a b : List UInt8) : strD a ++ strD b = strD (a ++ b) := by
  apply ByteArray.ext
  rw [ByteArray.data_append]
  simp [strD]
theorem strD_size (l : List UInt8) : (strD l).size = l.length := by simp [strD, ByteArray.size]
theorem conv_D {w : World} {a : Option Addr} {n c : Nat} {l : List Int} (h : Vw w a n c l) :
    (convert 34 9 (.slice a n c)).run Tryd.prog w = .ok (.string (strOfNums l)) w :=
  h.string Tryd.prog 34 5 9 Tryd.underlying34 Tryd.underlying5 Tryd.underlying9

set_option maxRecDepth 100000 in
set_option maxHeartbeats 4000000 in
theorem digitsOf_any (u : Nat) (hu : u < 18446744073709551616) (w : World) :
    Calls Tryd.prog 19 #[.int .u64 (u : Int)] w fun e w' => e = .returned (.string (strD (decDigits u))) ∧ Below w.heap.size w w' := by
  by_cases h0 : u = 0
  · subst h0
    have e : strD (decDigits 0) = { data := #[48] } := by rw [decDigits]; rfl
    rw [e]
    go_enter Tryd.func19, Tryd.ntmps19
    go_wp2_with fail
    go_ret
    exact ⟨rfl, Below.refl _ _⟩
  · have hz : ((u : Int) == 0) = false := by simp; omega
    have HU := Lib.hid (show 0 < u by omega)
    go_enter Tryd.func19, Tryd.ntmps19
    go_wp2_with fail
    go_loopw [0, 3] (fun vv oo wr => ∃ (v : Nat) (L : List UInt8) (o : ByteArray), vv = .int .u64 (v : Int) ∧ oo = .string o ∧ v ≤ u ∧ Hid (o = strD L) ∧ Hid ((0 < v → decDigits u = decDigits v ++ L) ∧ (v = 0 → decDigits u = L)) ∧ Hid (Below w.heap.size w wr)) (fun vv _ _ => (intOf vv).toNat)
    case atStart => exact ⟨u, [], _, rfl, rfl, Nat.le_refl _, Lib.hid rfl, Lib.hid ⟨fun _ => by simp, fun h => absurd h h0⟩, Lib.hid (Below.refl _ _)⟩
    case round =>
      obtain ⟨v, L, o, rfl, rfl, hv, hO, hI, hbr⟩ := hrel
      have hbs := hbr.out.size
      by_cases hpos : 0 < v
      · have hli : (0 : Int) < (v : Int) := by omega
        obtain ⟨dg, hdg⟩ : ∃ dg : Nat, dg = 48 + v % 10 := ⟨_, rfl⟩
        have hd1 : (48 : Int) + (v : Int) % 10 = (dg : Int) := by omega
        have hcv : IntKind.u8.wrap (dg : Int) = (dg : Int) := by simp [IntKind.wrap, IntKind.bits, IntKind.signed]; omega
        have hcv2 : IntKind.u8.wrap ((48 : Int) + (v : Int) % 10) = (dg : Int) := by rw [hd1, hcv]
        have hlv := (Own.lit 5 wr [(dg : Int)] (by simp; omega) (by simp)).vw
        have hcn : (convert 34 9 (.slice (some ⟨wr.heap.size, 0, none⟩) 1 1)).run Tryd.prog (wr.alloc (.cells #[.int .u8 (dg : Int)] 5)) = .ok (.string (strOfNums [(dg : Int)])) (wr.alloc (.cells #[.int .u8 (dg : Int)] 5)) := conv_D hlv
        obtain ⟨st, hst⟩ : ∃ st, st = strOfNums [(dg : Int)] := ⟨_, rfl⟩
        rw [← hst] at hcn
        have hs1 : st.size = 1 := by rw [hst, strOfNums_size]; rfl
        have hL20 := dec_len u hu
        have hI2 := hI.out.1 hpos
        have ho20 : o.size ≤ 20 := by rw [hO.out, strD_size]; rw [hI2, List.length_append] at hL20; omega
        have HI2 := Lib.hid hI2
        have HST := Lib.hid hst
        have HDG := Lib.hid hdg
        clear hst hdg hlv hL20 hI2
        go_wp2_with fail
        go_roundw
        case rel =>
          refine ⟨v / 10, UInt8.ofNat dg :: L, _, congrArg (Value.int .u64) (by omega), rfl, by omega, Lib.hid ?_, Lib.hid ⟨fun h => ?_, fun h => ?_⟩, Lib.hid (hbr.out.alloc hbs _)⟩
          · rw [HST.out, hO.out, show strOfNums [(dg : Int)] = strD [UInt8.ofNat dg] from rfl, strD_app]; rfl
          · have hd : decDigits v = decDigits (v / 10) ++ [UInt8.ofNat (48 + v % 10)] := by conv => lhs; rw [decDigits, dif_neg (by omega)]
            rw [HI2.out, hd, HDG.out]; simp
          · have hd : decDigits v = [UInt8.ofNat (48 + v % 10)] := by rw [decDigits, dif_pos (by omega), Nat.mod_eq_of_lt (by omega)]
            rw [HI2.out, hd, HDG.out]; rfl
        case measure => simp [intOf]; omega
      · obtain rfl : v = 0 := by omega
        have hli : ¬ ((0 : Int) < ((0 : Nat) : Int)) := by omega
        go_wp2_with fail
        go_ret
        exact ⟨by show Ending.returned (Value.string o) = _; rw [hO.out]; exact congrArg (fun l => Ending.returned (Value.string (strD l))) (hI.out.2 (by first | rfl | trivial)).symm, hbr.out⟩

/-- A list of JSON, with blanks or without. -/
def prB (bl : Bool) : List UInt8 := if bl then [32] else []
def fmB (bl : Bool) (r : List (List UInt8)) : List UInt8 := r.flatMap (fun u => 44 :: (prB bl ++ u))
def acB (bl : Bool) : List (List UInt8) → List UInt8
  | [] => [91]
  | t :: r => 91 :: (prB bl ++ t ++ fmB bl r)
theorem acB_snoc (bl : Bool) (ts : List (List UInt8)) (t : List UInt8) : acB bl (ts ++ [t]) = acB bl ts ++ ((if ts = [] then [] else [44]) ++ (prB bl ++ t)) := by
  cases ts with
  | nil => simp [acB, fmB]
  | cons a r => simp [acB, fmB, List.append_assoc]
def jtB (bl : Bool) (ts : List (List UInt8)) : List UInt8 := acB bl ts ++ [93]
theorem acB_len (bl : Bool) (ts : List (List UInt8)) (h : ∀ t ∈ ts, t.length ≤ 20) : (acB bl ts).length ≤ 1 + 22 * ts.length := by
  have hp : (prB bl).length ≤ 1 := by unfold prB; split <;> simp
  have H : ∀ r : List (List UInt8), (∀ t ∈ r, t.length ≤ 20) → (fmB bl r).length ≤ 22 * r.length := by
    intro r
    induction r with
    | nil => intro _; simp [fmB]
    | cons a r ih =>
      intro h
      have h1 := h a (by simp)
      have h2 := ih (fun t ht => h t (by simp [ht]))
      unfold fmB at h2 ⊢
      rw [List.flatMap_cons, List.length_append, List.length_cons, List.length_append, List.length_cons]; omega
  cases ts with
  | nil => simp [acB]
  | cons a r =>
    have h1 := h a (by simp)
    have h2 := H r (fun t ht => h t (by simp [ht]))
    unfold acB
    rw [List.length_cons, List.length_append, List.length_append, List.length_cons]; omega

set_option maxRecDepth 100000 in
set_option maxHeartbeats 4000000 in
theorem jsonList_any (bl : Bool) (ts : List (List UInt8)) (a : Option Addr) (c : Nat) (w : World) (hr : Rd w a (ts.map fun t => Value.string (strD t))) (hm : ts.length ≤ 1000) (h20 : ∀ t ∈ ts, t.length ≤ 20) :
    Calls Tryd.prog 20 #[.slice a ts.length c, .bool bl] w fun e w' => e = .returned (.string (strD (jtB bl ts))) ∧ w' = w := by
  obtain ⟨m, hmm⟩ : ∃ m, m = ts.length := ⟨_, rfl⟩
  rw [← hmm] at hm ⊢
  have HM := Lib.hid hmm
  have HR := Lib.hid hr
  have H20 := Lib.hid h20
  clear hmm hr h20
  go_enter Tryd.func20, Tryd.ntmps20
  go_wp2_with fail
  go_loopw [5, 10] (fun oo i wr => ∃ (j : Nat) (o : ByteArray), j ≤ m ∧ i = .int .i64 j ∧ oo = .string o ∧ o.size ≤ 1 + 22 * j ∧ Hid (o = strD (acB bl (ts.take j))) ∧ wr = w) (fun _ i _ => m - (intOf i).toNat)
  case atStart => exact ⟨0, _, Nat.zero_le _, rfl, rfl, by decide, Lib.hid rfl, rfl⟩
  case round =>
    obtain ⟨j, o, hj, rfl, rfl, hos, hO, rfl⟩ := hrel
    by_cases hlt : j < m
    · have hli : (j : Int) < m := by omega
      have hjt : j < ts.length := by have := HM.out; omega
      obtain ⟨b0, o0, rfl, hc⟩ := HR.out.at_ (by simp; omega)
      obtain ⟨t, ht⟩ : ∃ t, t = ts[j] := ⟨_, rfl⟩
      have hcj : wr.cell? ⟨b0, o0 + j, none⟩ = some (.string (strD t)) := by rw [hc j (by simp; omega), ht]; simp [List.getD, List.getElem?_eq_getElem hjt]
      have hl := H20.out t (by rw [ht]; exact List.getElem_mem _)
      have hts : (strD t).size ≤ 20 := by rw [strD_size]; exact hl
      have htk : ts.take (j + 1) = ts.take j ++ [t] := by rw [List.take_add_one, List.getElem?_eq_getElem hjt, ht]; rfl
      have hne : ts.take j = [] ↔ j = 0 := by
        constructor
        · intro e; have := congrArg List.length e; rw [List.length_take] at this; simp only [List.length_nil] at this; omega
        · intro e; rw [e]; rfl
      have hsn := acB_snoc bl (ts.take j) t
      rw [← htk] at hsn
      have HNE := Lib.hid hne
      have HSN := Lib.hid hsn
      obtain ⟨st, hst⟩ : ∃ st, st = strD t := ⟨_, rfl⟩
      rw [← hst] at hcj hts
      have HST := Lib.hid hst
      clear ht hl htk hne hsn hst hc
      by_cases h0 : j = 0
      · subst h0
        simp only [Nat.add_zero] at hcj
        have hl0 : ¬ ((0 : Int) < 0) := by omega
        have e0 := HSN.out
        rw [if_pos (HNE.out.2 rfl)] at e0
        have HE := Lib.hid e0
        clear e0
        cases bl with
        | false =>
          go_wp2_with fail
          go_roundw
          case rel => exact ⟨0 + 1, _, by omega, rfl, rfl, by simp [ByteArray.size_append, show ({ data := #[32] } : ByteArray).size = 1 from rfl, show ({ data := #[44] } : ByteArray).size = 1 from rfl]; omega, Lib.hid (by rw [HE.out, hO.out, HST.out]; simp only [← strD_app]; simp [prB, ByteArray.append_assoc]; rfl), by first | rfl | trivial⟩
          case measure => simp [intOf]; omega
        | true =>
          go_wp2_with fail
          go_roundw
          case rel => exact ⟨0 + 1, _, by omega, rfl, rfl, by simp [ByteArray.size_append, show ({ data := #[32] } : ByteArray).size = 1 from rfl, show ({ data := #[44] } : ByteArray).size = 1 from rfl]; omega, Lib.hid (by rw [HE.out, hO.out, HST.out]; simp only [← strD_app]; simp [prB, ByteArray.append_assoc]; rfl), by first | rfl | trivial⟩
          case measure => simp [intOf]; omega
      · have hl0 : (0 : Int) < j := by omega
        have e0 := HSN.out
        rw [if_neg (fun e => h0 (HNE.out.1 e))] at e0
        have HE := Lib.hid e0
        clear e0
        cases bl with
        | false =>
          go_wp2_with fail
          go_roundw
          case rel => exact ⟨j + 1, _, by omega, congrArg (Value.int .i64) (by omega), rfl, by simp [ByteArray.size_append, show ({ data := #[32] } : ByteArray).size = 1 from rfl, show ({ data := #[44] } : ByteArray).size = 1 from rfl]; omega, Lib.hid (by rw [HE.out, hO.out, HST.out]; simp only [← strD_app]; simp [prB, ByteArray.append_assoc]; rfl), by first | rfl | trivial⟩
          case measure => simp [intOf]; omega
        | true =>
          go_wp2_with fail
          go_roundw
          case rel => exact ⟨j + 1, _, by omega, congrArg (Value.int .i64) (by omega), rfl, by simp [ByteArray.size_append, show ({ data := #[32] } : ByteArray).size = 1 from rfl, show ({ data := #[44] } : ByteArray).size = 1 from rfl]; omega, Lib.hid (by rw [HE.out, hO.out, HST.out]; simp only [← strD_app]; simp [prB, ByteArray.append_assoc]; rfl), by first | rfl | trivial⟩
          case measure => simp [intOf]; omega
    · have hli : ¬ (j : Int) < m := by omega
      obtain rfl : j = m := by omega
      go_wp2_with fail
      go_ret
      have h1 := hO.out
      rw [List.take_of_length_le (by have := HM.out; omega)] at h1
      exact ⟨by rw [jtB, ← strD_app, ← h1]; rfl, rfl⟩
end Go.Proofs.YtokjgloefafdpaaDoor
