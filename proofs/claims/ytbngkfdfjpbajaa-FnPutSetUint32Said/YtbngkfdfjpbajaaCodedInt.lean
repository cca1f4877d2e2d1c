/- spec.takeCoded at signed integers. -/
import Derived.Test.YtbngkfdfjpbajaaCoded
namespace Go.Proofs.Ytbngkfdfjpbajaa
open Go.RowKit
set_option linter.unusedVariables false

set_option maxRecDepth 100000 in
set_option maxHeartbeats 4000000 in
theorem takeCoded_int1p (a : Option Addr) (n c : Nat) (l : List Int) (lv : Int) (w0 : World) (hv : Vw w0 a n c l) (hk : 1 ≤ n) (u : Int) (hu : u = beN (l.take 1)) (hu0 : 0 ≤ u) (hu1 : u < 256) (hs : u < 128) :
    ∃ a', Vw w0 a' (n - 1) (c - 1) (l.drop 1) ∧ ∀ w, Below w0.heap.size w0 w → Calls Try.prog 25 #[.int .i64 208, .slice a n c, .int .i64 lv] w fun e w' => e = .returned (.tuple #[pk 3 u ⟨#[]⟩ 0, .slice a' (n - 1) (c - 1), .bool true]) ∧ Below w.heap.size w w' := by
  have hl : ilook codes (.int .i64 0) 208 = .int .i64 1 := rfl
  have hlk := look_codes _ _ hl
  have hmm := @run_makeMap Try.prog
  obtain ⟨a', hs', hv'⟩ := off_of hv 1 1 rfl hk
  have HU := Lib.hid hu
  have ht : 0 ≤ wrap64 (u * 72057594037927936) / 72057594037927936 := by unfold wrap64; omega
  clear hl hu
  refine ⟨a', hv', fun w hx => ?_⟩
  have hvw := Vw.below hx (Nat.le_refl _) hv
  go_enter Try.func25, Try.ntmps25
  go_wp2_with (refine wpList_inserts_n _ 73 3 3 Try.underlying73 Try.underlying3 17 23 codes (by simp [Act.eval]) (by simp [insOf, codes]) codes_apart ?_)
  go_wp2_with (go_at_call 37; refine (takeBig_ok _ _ _ 1 1 rfl l _ (((hvw.alloc _).alloc _).alloc _) _ hs' (by omega) (by omega)).mono ?_; rw [← HU.out]; rintro e w' ⟨rfl, nq, rfl⟩)
  refine bodyPost_ret (results_ctt rfl _ _ w.heap.size 31 _ _ rfl (blk_coded w _ _ nq _ _ _ _ _ _ rfl) Try.underlying31 rfl (by kernel_rfl)) rfl ⟨congrArg (fun x => Ending.returned (.tuple #[pk 3 x ⟨#[]⟩ 0, .slice a' (n - 1) (c - 1), .bool true])) rfl, ?_⟩
  (repeat (first | with_reducible exact Below.refl _ _ | with_reducible assumption | with_reducible refine below_drewN ?_ _ | with_reducible refine Below.drew ?_ | with_reducible refine below_row ?_ (by first | omega | (simp; done) | (simp; omega)) _ | with_reducible refine Below.alloc ?_ (by first | omega | (simp; done) | (simp; omega)) _ | with_reducible refine Below.setCell ?_ (by first | omega | (simp; done) | (simp; omega)) _))

set_option maxRecDepth 100000 in
set_option maxHeartbeats 4000000 in
theorem takeCoded_int1n (a : Option Addr) (n c : Nat) (l : List Int) (lv : Int) (w0 : World) (hv : Vw w0 a n c l) (hk : 1 ≤ n) (u : Int) (hu : u = beN (l.take 1)) (hu0 : 0 ≤ u) (hu1 : u < 256) (hs : 128 ≤ u) :
    ∃ a', Vw w0 a' (n - 1) (c - 1) (l.drop 1) ∧ ∀ w, Below w0.heap.size w0 w → Calls Try.prog 25 #[.int .i64 208, .slice a n c, .int .i64 lv] w fun e w' => e = .returned (.tuple #[pk 2 (u + 18446744073709551360) ⟨#[]⟩ 0, .slice a' (n - 1) (c - 1), .bool true]) ∧ Below w.heap.size w w' := by
  have hl : ilook codes (.int .i64 0) 208 = .int .i64 1 := rfl
  have hlk := look_codes _ _ hl
  have hmm := @run_makeMap Try.prog
  obtain ⟨a', hs', hv'⟩ := off_of hv 1 1 rfl hk
  have HU := Lib.hid hu
  have hval := Lib.hid (show IntKind.u64.wrap (wrap64 (u * 72057594037927936) / 72057594037927936) = u + 18446744073709551360 by unfold wrap64; rw [IntKind.wrap_u64]; omega)
  have ht : wrap64 (u * 72057594037927936) / 72057594037927936 < 0 := by unfold wrap64; omega
  clear hl hu
  refine ⟨a', hv', fun w hx => ?_⟩
  have hvw := Vw.below hx (Nat.le_refl _) hv
  go_enter Try.func25, Try.ntmps25
  go_wp2_with (refine wpList_inserts_n _ 73 3 3 Try.underlying73 Try.underlying3 17 23 codes (by simp [Act.eval]) (by simp [insOf, codes]) codes_apart ?_)
  go_wp2_with (go_at_call 37; refine (takeBig_ok _ _ _ 1 1 rfl l _ (((hvw.alloc _).alloc _).alloc _) _ hs' (by omega) (by omega)).mono ?_; rw [← HU.out]; rintro e w' ⟨rfl, nq, rfl⟩)
  refine bodyPost_ret (results_ctt rfl _ _ w.heap.size 31 _ _ rfl (blk_coded w _ _ nq _ _ _ _ _ _ rfl) Try.underlying31 rfl (by kernel_rfl)) rfl ⟨congrArg (fun x => Ending.returned (.tuple #[pk 2 x ⟨#[]⟩ 0, .slice a' (n - 1) (c - 1), .bool true])) hval.out, ?_⟩
  (repeat (first | with_reducible exact Below.refl _ _ | with_reducible assumption | with_reducible refine below_drewN ?_ _ | with_reducible refine Below.drew ?_ | with_reducible refine below_row ?_ (by first | omega | (simp; done) | (simp; omega)) _ | with_reducible refine Below.alloc ?_ (by first | omega | (simp; done) | (simp; omega)) _ | with_reducible refine Below.setCell ?_ (by first | omega | (simp; done) | (simp; omega)) _))

set_option maxRecDepth 100000 in
set_option maxHeartbeats 4000000 in
theorem takeCoded_int2p (a : Option Addr) (n c : Nat) (l : List Int) (lv : Int) (w0 : World) (hv : Vw w0 a n c l) (hk : 2 ≤ n) (u : Int) (hu : u = beN (l.take 2)) (hu0 : 0 ≤ u) (hu1 : u < 65536) (hs : u < 32768) :
    ∃ a', Vw w0 a' (n - 2) (c - 2) (l.drop 2) ∧ ∀ w, Below w0.heap.size w0 w → Calls Try.prog 25 #[.int .i64 209, .slice a n c, .int .i64 lv] w fun e w' => e = .returned (.tuple #[pk 3 u ⟨#[]⟩ 0, .slice a' (n - 2) (c - 2), .bool true]) ∧ Below w.heap.size w w' := by
  have hl : ilook codes (.int .i64 0) 209 = .int .i64 2 := rfl
  have hlk := look_codes _ _ hl
  have hmm := @run_makeMap Try.prog
  obtain ⟨a', hs', hv'⟩ := off_of hv 2 2 rfl hk
  have HU := Lib.hid hu
  have ht : 0 ≤ wrap64 (u * 281474976710656) / 281474976710656 := by unfold wrap64; omega
  clear hl hu
  refine ⟨a', hv', fun w hx => ?_⟩
  have hvw := Vw.below hx (Nat.le_refl _) hv
  go_enter Try.func25, Try.ntmps25
  go_wp2_with (refine wpList_inserts_n _ 73 3 3 Try.underlying73 Try.underlying3 17 23 codes (by simp [Act.eval]) (by simp [insOf, codes]) codes_apart ?_)
  go_wp2_with (go_at_call 37; refine (takeBig_ok _ _ _ 2 2 rfl l _ (((hvw.alloc _).alloc _).alloc _) _ hs' (by omega) (by omega)).mono ?_; rw [← HU.out]; rintro e w' ⟨rfl, nq, rfl⟩)
  refine bodyPost_ret (results_ctt rfl _ _ w.heap.size 31 _ _ rfl (blk_coded w _ _ nq _ _ _ _ _ _ rfl) Try.underlying31 rfl (by kernel_rfl)) rfl ⟨congrArg (fun x => Ending.returned (.tuple #[pk 3 x ⟨#[]⟩ 0, .slice a' (n - 2) (c - 2), .bool true])) rfl, ?_⟩
  (repeat (first | with_reducible exact Below.refl _ _ | with_reducible assumption | with_reducible refine below_drewN ?_ _ | with_reducible refine Below.drew ?_ | with_reducible refine below_row ?_ (by first | omega | (simp; done) | (simp; omega)) _ | with_reducible refine Below.alloc ?_ (by first | omega | (simp; done) | (simp; omega)) _ | with_reducible refine Below.setCell ?_ (by first | omega | (simp; done) | (simp; omega)) _))

set_option maxRecDepth 100000 in
set_option maxHeartbeats 4000000 in
theorem takeCoded_int2n (a : Option Addr) (n c : Nat) (l : List Int) (lv : Int) (w0 : World) (hv : Vw w0 a n c l) (hk : 2 ≤ n) (u : Int) (hu : u = beN (l.take 2)) (hu0 : 0 ≤ u) (hu1 : u < 65536) (hs : 32768 ≤ u) :
    ∃ a', Vw w0 a' (n - 2) (c - 2) (l.drop 2) ∧ ∀ w, Below w0.heap.size w0 w → Calls Try.prog 25 #[.int .i64 209, .slice a n c, .int .i64 lv] w fun e w' => e = .returned (.tuple #[pk 2 (u + 18446744073709486080) ⟨#[]⟩ 0, .slice a' (n - 2) (c - 2), .bool true]) ∧ Below w.heap.size w w' := by
  have hl : ilook codes (.int .i64 0) 209 = .int .i64 2 := rfl
  have hlk := look_codes _ _ hl
  have hmm := @run_makeMap Try.prog
  obtain ⟨a', hs', hv'⟩ := off_of hv 2 2 rfl hk
  have HU := Lib.hid hu
  have hval := Lib.hid (show IntKind.u64.wrap (wrap64 (u * 281474976710656) / 281474976710656) = u + 18446744073709486080 by unfold wrap64; rw [IntKind.wrap_u64]; omega)
  have ht : wrap64 (u * 281474976710656) / 281474976710656 < 0 := by unfold wrap64; omega
  clear hl hu
  refine ⟨a', hv', fun w hx => ?_⟩
  have hvw := Vw.below hx (Nat.le_refl _) hv
  go_enter Try.func25, Try.ntmps25
  go_wp2_with (refine wpList_inserts_n _ 73 3 3 Try.underlying73 Try.underlying3 17 23 codes (by simp [Act.eval]) (by simp [insOf, codes]) codes_apart ?_)
  go_wp2_with (go_at_call 37; refine (takeBig_ok _ _ _ 2 2 rfl l _ (((hvw.alloc _).alloc _).alloc _) _ hs' (by omega) (by omega)).mono ?_; rw [← HU.out]; rintro e w' ⟨rfl, nq, rfl⟩)
  refine bodyPost_ret (results_ctt rfl _ _ w.heap.size 31 _ _ rfl (blk_coded w _ _ nq _ _ _ _ _ _ rfl) Try.underlying31 rfl (by kernel_rfl)) rfl ⟨congrArg (fun x => Ending.returned (.tuple #[pk 2 x ⟨#[]⟩ 0, .slice a' (n - 2) (c - 2), .bool true])) hval.out, ?_⟩
  (repeat (first | with_reducible exact Below.refl _ _ | with_reducible assumption | with_reducible refine below_drewN ?_ _ | with_reducible refine Below.drew ?_ | with_reducible refine below_row ?_ (by first | omega | (simp; done) | (simp; omega)) _ | with_reducible refine Below.alloc ?_ (by first | omega | (simp; done) | (simp; omega)) _ | with_reducible refine Below.setCell ?_ (by first | omega | (simp; done) | (simp; omega)) _))

set_option maxRecDepth 100000 in
set_option maxHeartbeats 4000000 in
theorem takeCoded_int4p (a : Option Addr) (n c : Nat) (l : List Int) (lv : Int) (w0 : World) (hv : Vw w0 a n c l) (hk : 4 ≤ n) (u : Int) (hu : u = beN (l.take 4)) (hu0 : 0 ≤ u) (hu1 : u < 4294967296) (hs : u < 2147483648) :
    ∃ a', Vw w0 a' (n - 4) (c - 4) (l.drop 4) ∧ ∀ w, Below w0.heap.size w0 w → Calls Try.prog 25 #[.int .i64 210, .slice a n c, .int .i64 lv] w fun e w' => e = .returned (.tuple #[pk 3 u ⟨#[]⟩ 0, .slice a' (n - 4) (c - 4), .bool true]) ∧ Below w.heap.size w w' := by
  have hl : ilook codes (.int .i64 0) 210 = .int .i64 4 := rfl
  have hlk := look_codes _ _ hl
  have hmm := @run_makeMap Try.prog
  obtain ⟨a', hs', hv'⟩ := off_of hv 4 4 rfl hk
  have HU := Lib.hid hu
  have ht : 0 ≤ wrap64 (u * 4294967296) / 4294967296 := by unfold wrap64; omega
  clear hl hu
  refine ⟨a', hv', fun w hx => ?_⟩
  have hvw := Vw.below hx (Nat.le_refl _) hv
  go_enter Try.func25, Try.ntmps25
  go_wp2_with (refine wpList_inserts_n _ 73 3 3 Try.underlying73 Try.underlying3 17 23 codes (by simp [Act.eval]) (by simp [insOf, codes]) codes_apart ?_)
  go_wp2_with (go_at_call 37; refine (takeBig_ok _ _ _ 4 4 rfl l _ (((hvw.alloc _).alloc _).alloc _) _ hs' (by omega) (by omega)).mono ?_; rw [← HU.out]; rintro e w' ⟨rfl, nq, rfl⟩)
  refine bodyPost_ret (results_ctt rfl _ _ w.heap.size 31 _ _ rfl (blk_coded w _ _ nq _ _ _ _ _ _ rfl) Try.underlying31 rfl (by kernel_rfl)) rfl ⟨congrArg (fun x => Ending.returned (.tuple #[pk 3 x ⟨#[]⟩ 0, .slice a' (n - 4) (c - 4), .bool true])) rfl, ?_⟩
  (repeat (first | with_reducible exact Below.refl _ _ | with_reducible assumption | with_reducible refine below_drewN ?_ _ | with_reducible refine Below.drew ?_ | with_reducible refine below_row ?_ (by first | omega | (simp; done) | (simp; omega)) _ | with_reducible refine Below.alloc ?_ (by first | omega | (simp; done) | (simp; omega)) _ | with_reducible refine Below.setCell ?_ (by first | omega | (simp; done) | (simp; omega)) _))

set_option maxRecDepth 100000 in
set_option maxHeartbeats 4000000 in
theorem takeCoded_int4n (a : Option Addr) (n c : Nat) (l : List Int) (lv : Int) (w0 : World) (hv : Vw w0 a n c l) (hk : 4 ≤ n) (u : Int) (hu : u = beN (l.take 4)) (hu0 : 0 ≤ u) (hu1 : u < 4294967296) (hs : 2147483648 ≤ u) :
    ∃ a', Vw w0 a' (n - 4) (c - 4) (l.drop 4) ∧ ∀ w, Below w0.heap.size w0 w → Calls Try.prog 25 #[.int .i64 210, .slice a n c, .int .i64 lv] w fun e w' => e = .returned (.tuple #[pk 2 (u + 18446744069414584320) ⟨#[]⟩ 0, .slice a' (n - 4) (c - 4), .bool true]) ∧ Below w.heap.size w w' := by
  have hl : ilook codes (.int .i64 0) 210 = .int .i64 4 := rfl
  have hlk := look_codes _ _ hl
  have hmm := @run_makeMap Try.prog
  obtain ⟨a', hs', hv'⟩ := off_of hv 4 4 rfl hk
  have HU := Lib.hid hu
  have hval := Lib.hid (show IntKind.u64.wrap (wrap64 (u * 4294967296) / 4294967296) = u + 18446744069414584320 by unfold wrap64; rw [IntKind.wrap_u64]; omega)
  have ht : wrap64 (u * 4294967296) / 4294967296 < 0 := by unfold wrap64; omega
  clear hl hu
  refine ⟨a', hv', fun w hx => ?_⟩
  have hvw := Vw.below hx (Nat.le_refl _) hv
  go_enter Try.func25, Try.ntmps25
  go_wp2_with (refine wpList_inserts_n _ 73 3 3 Try.underlying73 Try.underlying3 17 23 codes (by simp [Act.eval]) (by simp [insOf, codes]) codes_apart ?_)
  go_wp2_with (go_at_call 37; refine (takeBig_ok _ _ _ 4 4 rfl l _ (((hvw.alloc _).alloc _).alloc _) _ hs' (by omega) (by omega)).mono ?_; rw [← HU.out]; rintro e w' ⟨rfl, nq, rfl⟩)
  refine bodyPost_ret (results_ctt rfl _ _ w.heap.size 31 _ _ rfl (blk_coded w _ _ nq _ _ _ _ _ _ rfl) Try.underlying31 rfl (by kernel_rfl)) rfl ⟨congrArg (fun x => Ending.returned (.tuple #[pk 2 x ⟨#[]⟩ 0, .slice a' (n - 4) (c - 4), .bool true])) hval.out, ?_⟩
  (repeat (first | with_reducible exact Below.refl _ _ | with_reducible assumption | with_reducible refine below_drewN ?_ _ | with_reducible refine Below.drew ?_ | with_reducible refine below_row ?_ (by first | omega | (simp; done) | (simp; omega)) _ | with_reducible refine Below.alloc ?_ (by first | omega | (simp; done) | (simp; omega)) _ | with_reducible refine Below.setCell ?_ (by first | omega | (simp; done) | (simp; omega)) _))

set_option maxRecDepth 100000 in
set_option maxHeartbeats 4000000 in
theorem takeCoded_int8p (a : Option Addr) (n c : Nat) (l : List Int) (lv : Int) (w0 : World) (hv : Vw w0 a n c l) (hk : 8 ≤ n) (u : Int) (hu : u = beN (l.take 8)) (hu0 : 0 ≤ u) (hu1 : u < 18446744073709551616) (hs : u < 9223372036854775808) :
    ∃ a', Vw w0 a' (n - 8) (c - 8) (l.drop 8) ∧ ∀ w, Below w0.heap.size w0 w → Calls Try.prog 25 #[.int .i64 211, .slice a n c, .int .i64 lv] w fun e w' => e = .returned (.tuple #[pk 3 u ⟨#[]⟩ 0, .slice a' (n - 8) (c - 8), .bool true]) ∧ Below w.heap.size w w' := by
  have hl : ilook codes (.int .i64 0) 211 = .int .i64 8 := rfl
  have hlk := look_codes _ _ hl
  have hmm := @run_makeMap Try.prog
  obtain ⟨a', hs', hv'⟩ := off_of hv 8 8 rfl hk
  have HU := Lib.hid hu
  have ht : 0 ≤ wrap64 u := by unfold wrap64; omega
  clear hl hu
  refine ⟨a', hv', fun w hx => ?_⟩
  have hvw := Vw.below hx (Nat.le_refl _) hv
  go_enter Try.func25, Try.ntmps25
  go_wp2_with (refine wpList_inserts_n _ 73 3 3 Try.underlying73 Try.underlying3 17 23 codes (by simp [Act.eval]) (by simp [insOf, codes]) codes_apart ?_)
  go_wp2_with (go_at_call 37; refine (takeBig_ok _ _ _ 8 8 rfl l _ (((hvw.alloc _).alloc _).alloc _) _ hs' (by omega) (by omega)).mono ?_; rw [← HU.out]; rintro e w' ⟨rfl, nq, rfl⟩)
  refine bodyPost_ret (results_ctt rfl _ _ w.heap.size 31 _ _ rfl (blk_coded w _ _ nq _ _ _ _ _ _ rfl) Try.underlying31 rfl (by kernel_rfl)) rfl ⟨congrArg (fun x => Ending.returned (.tuple #[pk 3 x ⟨#[]⟩ 0, .slice a' (n - 8) (c - 8), .bool true])) rfl, ?_⟩
  (repeat (first | with_reducible exact Below.refl _ _ | with_reducible assumption | with_reducible refine below_drewN ?_ _ | with_reducible refine Below.drew ?_ | with_reducible refine below_row ?_ (by first | omega | (simp; done) | (simp; omega)) _ | with_reducible refine Below.alloc ?_ (by first | omega | (simp; done) | (simp; omega)) _ | with_reducible refine Below.setCell ?_ (by first | omega | (simp; done) | (simp; omega)) _))

set_option maxRecDepth 100000 in
set_option maxHeartbeats 4000000 in
theorem takeCoded_int8n (a : Option Addr) (n c : Nat) (l : List Int) (lv : Int) (w0 : World) (hv : Vw w0 a n c l) (hk : 8 ≤ n) (u : Int) (hu : u = beN (l.take 8)) (hu0 : 0 ≤ u) (hu1 : u < 18446744073709551616) (hs : 9223372036854775808 ≤ u) :
    ∃ a', Vw w0 a' (n - 8) (c - 8) (l.drop 8) ∧ ∀ w, Below w0.heap.size w0 w → Calls Try.prog 25 #[.int .i64 211, .slice a n c, .int .i64 lv] w fun e w' => e = .returned (.tuple #[pk 2 u ⟨#[]⟩ 0, .slice a' (n - 8) (c - 8), .bool true]) ∧ Below w.heap.size w w' := by
  have hl : ilook codes (.int .i64 0) 211 = .int .i64 8 := rfl
  have hlk := look_codes _ _ hl
  have hmm := @run_makeMap Try.prog
  obtain ⟨a', hs', hv'⟩ := off_of hv 8 8 rfl hk
  have HU := Lib.hid hu
  have hval := Lib.hid (show IntKind.u64.wrap (wrap64 u) = u by unfold wrap64; rw [IntKind.wrap_u64]; omega)
  have ht : wrap64 u < 0 := by unfold wrap64; omega
  clear hl hu
  refine ⟨a', hv', fun w hx => ?_⟩
  have hvw := Vw.below hx (Nat.le_refl _) hv
  go_enter Try.func25, Try.ntmps25
  go_wp2_with (refine wpList_inserts_n _ 73 3 3 Try.underlying73 Try.underlying3 17 23 codes (by simp [Act.eval]) (by simp [insOf, codes]) codes_apart ?_)
  go_wp2_with (go_at_call 37; refine (takeBig_ok _ _ _ 8 8 rfl l _ (((hvw.alloc _).alloc _).alloc _) _ hs' (by omega) (by omega)).mono ?_; rw [← HU.out]; rintro e w' ⟨rfl, nq, rfl⟩)
  refine bodyPost_ret (results_ctt rfl _ _ w.heap.size 31 _ _ rfl (blk_coded w _ _ nq _ _ _ _ _ _ rfl) Try.underlying31 rfl (by kernel_rfl)) rfl ⟨congrArg (fun x => Ending.returned (.tuple #[pk 2 x ⟨#[]⟩ 0, .slice a' (n - 8) (c - 8), .bool true])) hval.out, ?_⟩
  (repeat (first | with_reducible exact Below.refl _ _ | with_reducible assumption | with_reducible refine below_drewN ?_ _ | with_reducible refine Below.drew ?_ | with_reducible refine below_row ?_ (by first | omega | (simp; done) | (simp; omega)) _ | with_reducible refine Below.alloc ?_ (by first | omega | (simp; done) | (simp; omega)) _ | with_reducible refine Below.setCell ?_ (by first | omega | (simp; done) | (simp; omega)) _))
end Go.Proofs.Ytbngkfdfjpbajaa
