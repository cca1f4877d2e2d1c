/- impl.NumberUint of floats, spec.Whole62, laws.floatValue: what they tell, of whatever float. -/
import Derived.Test.YtdncfolehkhjhaaDoorNumw
namespace Go.Proofs.YtdncfolehkhjhaaDoor
open Go Go.RowKit Ieee
set_option linter.unusedVariables false
set_option linter.unusedSimpArgs false

theorem conv_none {src dst : TypeId} (s : FloatKind) (k : IntKind) (b : Nat) (hs : (Tryd.prog.underlying src).isSome = true) (hd : Tryd.prog.underlying dst = some (.int k)) (h : floatToIntVal s b k = none) :
    ∃ nf : World → Int, ∀ W : World, (convert src dst (.float s b)).run Tryd.prog W = .ok (.int k (nf W)) W.drew := by
  obtain ⟨u, hs⟩ := Option.isSome_iff_exists.1 hs
  refine ⟨fun W => k.wrap (((Question.floatToInt s b k).cut (W.tape W.drawn (.floatToInt s b k)) : Nat) : Int), fun W => ?_⟩
  unfold floatToIntVal at h
  have hf : (Question.floatToInt s b k).forced = false := rfl
  split at h
  · rename_i m he
    split at h
    · cases h
    · rename_i hb
      cases u <;> simp [convert, run_underlying hs, run_underlying hd, Conv.floatToInt, he, hb, hf]
  · rename_i he
    cases u <;> simp [convert, run_underlying hs, run_underlying hd, Conv.floatToInt, he, hf]
set_option maxRecDepth 100000 in
set_option maxHeartbeats 4000000 in
theorem nu64 (x : Nat) (hx : x < 18446744073709551616) (w : World) (hT : TabAt 3 Go.Lib.deBruijn64tab w) :
    Calls Tryd.prog 6 #[.int .i64 3, .int .u64 x] w fun e w' => ∃ n ok, CuIs (double.read x) n ok ∧ e = .returned (.tuple #[.int .u64 n, .bool ok]) ∧ Below w.heap.size w w' := by
  refine nu_of 3 x x 5 _ w hT (number_64 x w) fun g W hB hT => ?_
  have hE := ex64_read x
  have hor : ∀ z, FloatKind.f64.format.order x z = (double.read x).order (double.read z) := fun z => rfl
  have hno : CuIs (double.read x) 0 false → (Calls Tryd.prog 21 #[.pointer (some ⟨g, 0, none⟩)] W fun e w' => e = .returned (.tuple #[.int .u64 0, .bool false]) ∧ Below W.heap.size W w') → Calls Tryd.prog 21 #[.pointer (some ⟨g, 0, none⟩)] W fun e w' => ∃ n ok, CuIs (double.read x) n ok ∧ e = .returned (.tuple #[.int .u64 n, .bool ok]) ∧ Below W.heap.size W w' :=
    fun h h2 => h2.mono fun e w' ⟨h3, h4⟩ => ⟨0, false, h, h3, h4⟩
  cases heq : double.read x with
  | nan s t =>
    rw [heq] at hE hno
    have hz : x % 9223372036854775808 ≠ 0 := hE.2
    refine hno rfl (cu64_n1 g x hx W hB hT ⟨by omega, by omega⟩ (.inr ?_))
    rw [hor, heq]; rfl
  | infinity s =>
    rw [heq] at hE hno
    have hz : x % 9223372036854775808 ≠ 0 := hE.2.2
    cases s
    · refine hno trivial (cu64_n2 g x hx W hB hT ⟨by omega, by omega⟩ (.inl ?_) ?_)
      · rw [hor, heq, rd_0]; rfl
      · rw [hor, heq, rd_c64]; rfl
    · refine hno trivial (cu64_n1 g x hx W hB hT ⟨by omega, by omega⟩ (.inl ?_))
      rw [hor, heq, rd_0]; rfl
  | number s m e =>
    rw [heq] at hE hno
    obtain ⟨D, T, u⟩ := units
    have hvz := vv_eq_zero m e
    have he : -1074 ≤ e := hE.2.1
    have hxx : ex64 x = decide (vv m e % D = 0) := by rw [u.d]; exact hE.2.2.2.1
    have hmz : m = 0 ↔ x % 9223372036854775808 = 0 := hE.2.2.2.2.2
    have o0 : FloatKind.f64.format.order x 0 = some (compare (sv s (vv m e)) (sv false (vv 0 (-1074)))) := by
      rw [hor, heq, rd_0]; exact order_num s false m 0 e (-1074) he (by omega)
    have oc : FloatKind.f64.format.order x 4895412794951729152 = some (compare (sv s (vv m e)) (sv false (vv 4503599627370496 12))) := by
      rw [hor, heq, rd_c64]; exact order_num s false m _ e _ he (by omega)
    rw [vv_zero] at o0
    rw [vv_c64 D T u] at oc
    have hti := toInt_num s m e he
    rw [← heq, ← u.d] at hti
    have hcu : ∀ n ok, (vv m e ≤ T → ok = (decide (s = false ∨ m = 0) && decide (vv m e % D = 0)) ∧ (ok = true → n = ((vv m e / D : Nat) : Int))) → CuIs (.number s m e) n ok := by
      intro n ok h
      unfold CuIs
      rw [← u.d, ← u.t]
      exact h
    have hpos := u.pos
    have hTt := u.t
    generalize vv m e = v at *
    clear u
    by_cases hneg : s = true ∧ m ≠ 0
    · obtain ⟨rfl, hm⟩ := hneg
      have hv : v ≠ 0 := fun h => hm (hvz.1 h)
      refine hno (hcu _ _ fun _ => ⟨by simp [hm], by simp⟩) (cu64_n1 g x hx W hB hT ⟨by omega, by omega⟩ (.inl ?_))
      rw [o0, cmp_lt (by simp [sv]; omega)]
    · have hs0 : s = false ∨ m = 0 := by
        cases s
        · exact .inl rfl
        · right; apply Classical.byContradiction; intro h; exact hneg ⟨rfl, h⟩
      have hsv : ∀ q : Nat, (m = 0 → q = 0) → sv s q = q := by
        intro q hq
        rcases hs0 with h | h
        · subst h; rfl
        · rw [hq h]; simp [sv]
      rw [hsv v hvz.2] at o0 oc
      rw [hsv (v / D) (fun h => by rw [hvz.2 h]; simp)] at hti
      have h1 : FloatKind.f64.format.order x 0 = some .gt ∨ FloatKind.f64.format.order x 0 = some .eq := by
        rw [o0]
        rcases cmp_ge (a := (v : Int)) (b := sv false 0) (by simp [sv]) with h | h
        · exact .inl (by rw [h])
        · exact .inr (by rw [h])
      by_cases hbig : 4 * T < v
      · have hm : m ≠ 0 := fun h => by have := hvz.2 h; omega
        refine hno (hcu _ _ fun h => by omega) (cu64_n2 g x hx W hB hT ⟨by omega, by omega⟩ h1 ?_)
        rw [oc, cmp_gt (by simp [sv]; omega)]
      · have h2 : FloatKind.f64.format.order x 4895412794951729152 = some .lt ∨ FloatKind.f64.format.order x 4895412794951729152 = some .eq := by
          rw [oc]
          rcases cmp_le (a := (v : Int)) (b := sv false (4 * T)) (by simp [sv]; omega) with h | h
          · exact .inl (by rw [h])
          · exact .inr (by rw [h])
        by_cases hw : v % D = 0
        · have hex : ex64 x = true := by rw [hxx]; simpa using hw
          have hfi : ∀ r, r = floatToIntVal .f64 x .u64 → r = if v / D < 18446744073709551616 then some ((v / D : Nat) : Int) else none := by
            rintro r rfl
            unfold floatToIntVal
            have : FloatKind.f64.decode x = double.read x := rfl
            rw [this, hti]
            have e1 : IntKind.u64.min = 0 := by decide
            have e2 : IntKind.u64.max = 18446744073709551615 := by decide
            simp only [e1, e2]
            by_cases hlt : v / D < 18446744073709551616
            · rw [if_pos hlt, if_pos (by generalize v / D = q at *; omega)]
            · rw [if_neg hlt, if_neg (by generalize v / D = q at *; omega)]
          have hfi := hfi _ rfl
          by_cases hlt : v / D < 18446744073709551616
          · rw [if_pos hlt] at hfi
            have hcv : ∀ W : World, (convert 32 22 (.float .f64 x)).run Tryd.prog W = .ok (.int .u64 ((v / D : Nat) : Int)) W := fun W => run_convert_float_int W 32 22 .f64 .u64 x _ (by kernel_rfl) Tryd.underlying22 hfi
            refine (cu64_yes g x hx W hB hT h1 h2 hex _ hcv).mono ?_
            rintro e w' ⟨h3, h4⟩
            exact ⟨_, true, hcu _ _ fun _ => ⟨by simp [hs0, hw], fun _ => rfl⟩, h3, h4⟩
          · rw [if_neg hlt] at hfi
            obtain ⟨nf, hcv⟩ := conv_none (src := 32) (dst := 22) .f64 .u64 x (by kernel_rfl) Tryd.underlying22 hfi
            refine (cu64_any g x hx W hB hT h1 h2 hex nf hcv).mono ?_
            rintro e w' ⟨n, h3, h4⟩
            refine ⟨_, true, hcu _ _ fun hle => ?_, h3, h4⟩
            exfalso
            have : v / D ≤ 4611686018427387904 := Nat.div_le_of_le_mul (by rw [Nat.mul_comm]; omega)
            omega
        · have hm : m ≠ 0 := fun h => hw (by rw [hvz.2 h]; simp)
          refine hno (hcu _ _ fun _ => ⟨by simp [hw], by simp⟩) (cu64_n3 g x hx W hB hT ⟨by omega, by omega⟩ h1 h2 (by rw [hxx]; simpa using hw))
set_option maxRecDepth 100000 in
set_option maxHeartbeats 4000000 in
theorem nu32 (x : Nat) (hx : x < 4294967296) (w : World) (hT : TabAt 3 Go.Lib.deBruijn64tab w) :
    Calls Tryd.prog 6 #[.int .i64 2, .int .u64 x] w fun e w' => ∃ n ok, CuIs (single.read x) n ok ∧ e = .returned (.tuple #[.int .u64 n, .bool ok]) ∧ Below w.heap.size w w' := by
  refine nu_of 2 x x 6 _ w hT (number_32 x hx w) fun g W hB hT => ?_
  have hE := ex32_read x
  have hor : ∀ z, FloatKind.f32.format.order x z = (single.read x).order (single.read z) := fun z => rfl
  have hno : CuIs (single.read x) 0 false → (Calls Tryd.prog 21 #[.pointer (some ⟨g, 0, none⟩)] W fun e w' => e = .returned (.tuple #[.int .u64 0, .bool false]) ∧ Below W.heap.size W w') → Calls Tryd.prog 21 #[.pointer (some ⟨g, 0, none⟩)] W fun e w' => ∃ n ok, CuIs (single.read x) n ok ∧ e = .returned (.tuple #[.int .u64 n, .bool ok]) ∧ Below W.heap.size W w' :=
    fun h h2 => h2.mono fun e w' ⟨h3, h4⟩ => ⟨0, false, h, h3, h4⟩
  cases heq : single.read x with
  | nan s t =>
    rw [heq] at hE hno
    have hz : x % 2147483648 ≠ 0 := hE.2
    refine hno rfl (cu32_n1 g x hx W hB hT ⟨by omega, by omega⟩ (.inr ?_))
    rw [hor, heq]; rfl
  | infinity s =>
    rw [heq] at hE hno
    have hz : x % 2147483648 ≠ 0 := hE.2.2
    cases s
    · refine hno trivial (cu32_n2 g x hx W hB hT ⟨by omega, by omega⟩ (.inl ?_) ?_)
      · rw [hor, heq, rs_0]; rfl
      · rw [hor, heq, rs_c64]; rfl
    · refine hno trivial (cu32_n1 g x hx W hB hT ⟨by omega, by omega⟩ (.inl ?_))
      rw [hor, heq, rs_0]; rfl
  | number s m e =>
    rw [heq] at hE hno
    obtain ⟨D, T, u⟩ := units
    have hvz := vv_eq_zero m e
    have he : -1074 ≤ e := by obtain ⟨_, _, _, _, _, _, h, _⟩ := hE; exact h
    have hxx : ex32 x = decide (vv m e % D = 0) := by rw [u.d]; obtain ⟨_, _, _, _, _, _, _, h, _⟩ := hE; exact h
    have hmz : m = 0 ↔ x % 2147483648 = 0 := by obtain ⟨_, _, _, _, _, _, _, _, _, h, _⟩ := hE; exact h
    have o0 : FloatKind.f32.format.order x 0 = some (compare (sv s (vv m e)) (sv false (vv 0 (-149)))) := by
      rw [hor, heq, rs_0]; exact order_num s false m 0 e (-149) he (by omega)
    have oc : FloatKind.f32.format.order x 1602224128 = some (compare (sv s (vv m e)) (sv false (vv 8388608 41))) := by
      rw [hor, heq, rs_c64]; exact order_num s false m _ e _ he (by omega)
    rw [vv_zero] at o0
    rw [vv_s64 D T u] at oc
    have hti := toInt_num s m e he
    rw [← heq, ← u.d] at hti
    have hcu : ∀ n ok, (vv m e ≤ T → ok = (decide (s = false ∨ m = 0) && decide (vv m e % D = 0)) ∧ (ok = true → n = ((vv m e / D : Nat) : Int))) → CuIs (.number s m e) n ok := by
      intro n ok h
      unfold CuIs
      rw [← u.d, ← u.t]
      exact h
    have hpos := u.pos
    have hTt := u.t
    generalize vv m e = v at *
    clear u
    by_cases hneg : s = true ∧ m ≠ 0
    · obtain ⟨rfl, hm⟩ := hneg
      have hv : v ≠ 0 := fun h => hm (hvz.1 h)
      refine hno (hcu _ _ fun _ => ⟨by simp [hm], by simp⟩) (cu32_n1 g x hx W hB hT ⟨by omega, by omega⟩ (.inl ?_))
      rw [o0, cmp_lt (by simp [sv]; omega)]
    · have hs0 : s = false ∨ m = 0 := by
        cases s
        · exact .inl rfl
        · right; apply Classical.byContradiction; intro h; exact hneg ⟨rfl, h⟩
      have hsv : ∀ q : Nat, (m = 0 → q = 0) → sv s q = q := by
        intro q hq
        rcases hs0 with h | h
        · subst h; rfl
        · rw [hq h]; simp [sv]
      rw [hsv v hvz.2] at o0 oc
      rw [hsv (v / D) (fun h => by rw [hvz.2 h]; simp)] at hti
      have h1 : FloatKind.f32.format.order x 0 = some .gt ∨ FloatKind.f32.format.order x 0 = some .eq := by
        rw [o0]
        rcases cmp_ge (a := (v : Int)) (b := sv false 0) (by simp [sv]) with h | h
        · exact .inl (by rw [h])
        · exact .inr (by rw [h])
      by_cases hbig : 4 * T < v
      · have hm : m ≠ 0 := fun h => by have := hvz.2 h; omega
        refine hno (hcu _ _ fun h => by omega) (cu32_n2 g x hx W hB hT ⟨by omega, by omega⟩ h1 ?_)
        rw [oc, cmp_gt (by simp [sv]; omega)]
      · have h2 : FloatKind.f32.format.order x 1602224128 = some .lt ∨ FloatKind.f32.format.order x 1602224128 = some .eq := by
          rw [oc]
          rcases cmp_le (a := (v : Int)) (b := sv false (4 * T)) (by simp [sv]; omega) with h | h
          · exact .inl (by rw [h])
          · exact .inr (by rw [h])
        by_cases hw : v % D = 0
        · have hex : ex32 x = true := by rw [hxx]; simpa using hw
          have hfi : ∀ r, r = floatToIntVal .f32 x .u64 → r = if v / D < 18446744073709551616 then some ((v / D : Nat) : Int) else none := by
            rintro r rfl
            unfold floatToIntVal
            have : FloatKind.f32.decode x = single.read x := rfl
            rw [this, hti]
            have e1 : IntKind.u64.min = 0 := by decide
            have e2 : IntKind.u64.max = 18446744073709551615 := by decide
            simp only [e1, e2]
            by_cases hlt : v / D < 18446744073709551616
            · rw [if_pos hlt, if_pos (by generalize v / D = q at *; omega)]
            · rw [if_neg hlt, if_neg (by generalize v / D = q at *; omega)]
          have hfi := hfi _ rfl
          by_cases hlt : v / D < 18446744073709551616
          · rw [if_pos hlt] at hfi
            have hcv : ∀ W : World, (convert 60 22 (.float .f32 x)).run Tryd.prog W = .ok (.int .u64 ((v / D : Nat) : Int)) W := fun W => run_convert_float_int W 60 22 .f32 .u64 x _ (by kernel_rfl) Tryd.underlying22 hfi
            refine (cu32_yes g x hx W hB hT h1 h2 hex _ hcv).mono ?_
            rintro e w' ⟨h3, h4⟩
            exact ⟨_, true, hcu _ _ fun _ => ⟨by simp [hs0, hw], fun _ => rfl⟩, h3, h4⟩
          · rw [if_neg hlt] at hfi
            obtain ⟨nf, hcv⟩ := conv_none (src := 60) (dst := 22) .f32 .u64 x (by kernel_rfl) Tryd.underlying22 hfi
            refine (cu32_any g x hx W hB hT h1 h2 hex nf hcv).mono ?_
            rintro e w' ⟨n, h3, h4⟩
            refine ⟨_, true, hcu _ _ fun hle => ?_, h3, h4⟩
            exfalso
            have : v / D ≤ 4611686018427387904 := Nat.div_le_of_le_mul (by rw [Nat.mul_comm]; omega)
            omega
        · have hm : m ≠ 0 := fun h => hw (by rw [hvz.2 h]; simp)
          refine hno (hcu _ _ fun _ => ⟨by simp [hw], by simp⟩) (cu32_n3 g x hx W hB hT ⟨by omega, by omega⟩ h1 h2 (by rw [hxx]; simpa using hw))
set_option maxRecDepth 100000 in
set_option maxHeartbeats 4000000 in
theorem w62_any (y : Nat) (w : World) :
    Calls Tryd.prog 8 #[.float .f64 y] w fun e w' => ∃ n is edge, W62 (double.read y) n is edge ∧ e = .returned (.tuple #[.int .i64 n, .bool is, .bool edge]) ∧ Below w.heap.size w w' := by
  have hE := ex64_read y
  have hor : ∀ a z, FloatKind.f64.format.order a z = (double.read a).order (double.read z) := fun a z => rfl
  cases heq : double.read y with
  | nan s t =>
    refine (w62_nan y (by rw [hor, heq]; rfl) w).mono ?_
    rintro e w' ⟨h1, h2⟩
    exact ⟨0, false, false, ⟨rfl, rfl⟩, h1, h2⟩
  | infinity s =>
    have h0 : FloatKind.f64.format.order y y = some .eq := by rw [hor, heq]; cases s <;> rfl
    cases s
    · refine (w62_gt y h0 (by rw [hor, heq, rd_c62]; rfl) w).mono ?_
      rintro e w' ⟨h1, h2⟩
      exact ⟨0, false, true, rfl, h1, h2⟩
    · refine (w62_lt y h0 (by rw [hor, heq, rd_c62]; rfl) (by rw [hor, heq, rd_m62]; rfl) w).mono ?_
      rintro e w' ⟨h1, h2⟩
      exact ⟨0, false, true, rfl, h1, h2⟩
  | number s m e =>
    rw [heq] at hE
    obtain ⟨D, T, u⟩ := units
    have he : -1074 ≤ e := hE.2.1
    have hm53 := hE.1
    have o0 : FloatKind.f64.format.order y y = some .eq := by
      rw [hor, heq, order_num s s m m e e he he, cmp_eq rfl]
    have oc : FloatKind.f64.format.order y 4886405595696988160 = some (compare (sv s (vv m e)) (sv false (vv 4503599627370496 10))) := by
      rw [hor, heq, rd_c62]; exact order_num s false m _ e _ he (by omega)
    have om : FloatKind.f64.format.order y 14109777632551763968 = some (compare (sv s (vv m e)) (sv true (vv 4503599627370496 10))) := by
      rw [hor, heq, rd_m62]; exact order_num s true m _ e _ he (by omega)
    rw [vv_c62 D T u] at oc om
    have hti := toInt_num s m e he
    rw [← heq] at hti
    have hbk := back s m e hm53 he
    have h62 : (2 : Nat) ^ 62 = 4611686018427387904 := by decide
    rw [h62] at hbk
    have hse := sv_eq s (vv m e)
    have hw62 : ∀ n is edge, ((T < vv m e ∧ edge = true) ∨ (vv m e ≤ T ∧ edge = false ∧ is = decide (vv m e % D = 0) ∧ n = sv s (vv m e / D))) → W62 (.number s m e) n is edge := by
      intro n is edge h
      unfold W62
      rw [← u.d, ← u.t]
      exact h
    rw [← u.d] at hti hbk hse
    rw [← u.t] at hbk
    have hpos := u.pos
    have hTt := u.t
    clear hE u
    obtain ⟨v, hv⟩ : ∃ v, v = vv m e := ⟨_, rfl⟩
    rw [← hv] at oc om hti hbk hse hw62
    by_cases hbig : T < v
    · cases s
      · refine (w62_gt y o0 (by rw [oc, cmp_gt (by simp [sv]; omega)]) w).mono ?_
        rintro e w' ⟨h1, h2⟩
        exact ⟨0, false, true, hw62 _ _ _ (.inl ⟨hbig, rfl⟩), h1, h2⟩
      · refine (w62_lt y o0 (by rw [oc, cmp_lt (by simp [sv]; omega)]) (by rw [om, cmp_lt (by simp [sv]; omega)]) w).mono ?_
        rintro e w' ⟨h1, h2⟩
        exact ⟨0, false, true, hw62 _ _ _ (.inl ⟨hbig, rfl⟩), h1, h2⟩
    · obtain ⟨n, hn⟩ : ∃ n, n = sv s (v / D) := ⟨_, rfl⟩
      have hle : v / D ≤ 4611686018427387904 := Nat.div_le_of_le_mul (by rw [Nat.mul_comm]; omega)
      have hnb : -4611686018427387904 ≤ n ∧ n ≤ 4611686018427387904 := by
        rw [hn]; generalize v / D = q at *; cases s <;> simp [sv] <;> omega
      rw [← hn] at hti
      obtain ⟨s', M, E, hz, hE2, hzv⟩ := hbk (by omega) n hn
      have hfi : floatToIntVal .f64 y .i64 = some n := by
        unfold floatToIntVal
        have : FloatKind.f64.decode y = double.read y := rfl
        rw [this, hti]
        have e1 : IntKind.i64.min = -9223372036854775808 := by decide
        have e2 : IntKind.i64.max = 9223372036854775807 := by decide
        simp only [e1, e2]
        rw [if_pos (by omega)]
      have hcv : ∀ W : World, (convert 32 2 (.float .f64 y)).run Tryd.prog W = .ok (.int .i64 n) W := fun W => run_convert_float_int W 32 2 .f64 .i64 y _ (by kernel_rfl) Tryd.underlying2 hfi
      obtain ⟨z, hzz⟩ : ∃ z, floatOfInt .f64 n = z := ⟨_, rfl⟩
      have hzr : double.read z = .number s' M E := by rw [← hzz]; exact hz
      have hb : (FloatKind.f64.format.order z y == some .eq) = decide (v % D = 0) := by
        rw [hor, hzr, heq, order_num s' s M m E e hE2 he, hzv, ← hv]
        by_cases hw : v % D = 0
        · rw [cmp_eq ((hse n hn).2 hw)]; simp [hw]
        · have hne : n * (D : Int) ≠ sv s v := fun h => hw ((hse n hn).1 h)
          by_cases hlt : n * (D : Int) < sv s v
          · rw [cmp_lt hlt]; simp [hw]
          · rw [cmp_gt (by omega)]; simp [hw]
      have g1 : FloatKind.f64.format.order y 4886405595696988160 = some .lt ∨ FloatKind.f64.format.order y 4886405595696988160 = some .eq := by
        rw [oc]
        rcases cmp_le (a := sv s v) (b := sv false T) (by cases s <;> simp [sv] <;> omega) with h | h
        · exact .inl (by rw [h])
        · exact .inr (by rw [h])
      have g2 : FloatKind.f64.format.order y 14109777632551763968 = some .gt ∨ FloatKind.f64.format.order y 14109777632551763968 = some .eq := by
        rw [om]
        rcases cmp_ge (a := sv s v) (b := sv true T) (by cases s <;> simp [sv] <;> omega) with h | h
        · exact .inl (by rw [h])
        · exact .inr (by rw [h])
      refine (w62_in y o0 g1 g2 n hcv z hzz _ hb w).mono ?_
      rintro e w' ⟨h1, h2⟩
      exact ⟨n, _, false, hw62 _ _ _ (.inr ⟨by omega, rfl, rfl, hn⟩), h1, h2⟩

/-- The value of a float of 32 bits as one of 64. -/
def Same32 (x : Nat) (d' : Datum) : Prop := (∃ s m e M E, single.read x = .number s m e ∧ d' = .number s M E ∧ vv M E = vv m e) ∨ (∃ s t s' t', single.read x = .nan s t ∧ d' = .nan s' t') ∨ ∃ s, single.read x = .infinity s ∧ d' = .infinity s
set_option maxRecDepth 100000 in
set_option maxHeartbeats 4000000 in
theorem fv_32any (x : Nat) (hx : x < 4294967296) (w : World) :
    Calls Tryd.prog 9 #[.int .i64 2, .int .u64 x] w fun e w' => ∃ y, Same32 x (double.read y) ∧ e = .returned (.float .f64 y) ∧ Below w.heap.size w w' := by
  have hE := ex32_read x
  have hdec : FloatKind.f32.decode x = single.read x := rfl
  have hne : FloatKind.f32 ≠ FloatKind.f64 := by decide
  cases heq : single.read x with
  | nan s t =>
    have hcv : ∃ yf : World → Nat, (∀ W, ∃ s' t', double.read (yf W) = .nan s' t') ∧ ∀ W : World, (convert 60 32 (.float .f32 x)).run Tryd.prog W = .ok (.float .f64 (yf W)) W.drew := by
      refine ⟨fun W => (Question.nanConv .f64 x).cut (W.tape W.drawn (.nanConv .f64 x)), fun W => ?_, fun W => ?_⟩
      · obtain ⟨t, ht⟩ : ∃ t, t = W.tape W.drawn (.nanConv .f64 x) := ⟨_, rfl⟩
        show ∃ s' t', double.read ((Question.nanConv .f64 x).cut (W.tape W.drawn (.nanConv .f64 x))) = .nan s' t'
        rw [← ht]
        have hc : (Question.nanConv .f64 x).cut t = (t % 2) * 9223372036854775808 + 9218868437227405312 + 1 + (t / 2) % 4503599627370495 := rfl
        obtain ⟨a, ha⟩ : ∃ a, a = t % 2 := ⟨_, rfl⟩
        obtain ⟨b, hb⟩ : ∃ b, b = t / 2 % 4503599627370495 := ⟨_, rfl⟩
        have ha1 : a < 2 := by omega
        have hb1 : b < 4503599627370495 := by omega
        rw [hc, ← ha, ← hb]
        clear ht hc ha hb
        rw [read_double, if_neg (by omega), if_neg (by omega), if_neg (by omega)]
        exact ⟨_, _, rfl⟩
      · have hf : (Question.nanConv .f64 x).forced = false := rfl
        rw [← hdec] at heq
        have hu : Tryd.prog.underlying 60 = some (.float .f32) := Tryd.underlying60
        simp [convert, run_underlying hu, run_underlying Tryd.underlying32, Conv.floatToFloat, heq, hf]
    obtain ⟨yf, hy, hcv⟩ := hcv
    refine (fv_32n x yf hx hcv w).mono ?_
    rintro e w' ⟨h1, h2⟩
    obtain ⟨s', t', h3⟩ := hy w
    exact ⟨_, .inr (.inl ⟨s, t, s', t', heq, h3⟩), h1, h2⟩
  | infinity s =>
    have hfb : floatToFloatBits .f32 x .f64 = some (FloatKind.f64.encode (.infinity s)) := by
      unfold floatToFloatBits
      rw [if_neg hne, hdec, heq]
    refine (fv_32 x _ hx (fun W => run_convert_float_float W 60 32 .f32 .f64 x _ (by kernel_rfl) Tryd.underlying32 hfb) w).mono ?_
    rintro e w' ⟨h1, h2⟩
    refine ⟨_, .inr (.inr ⟨s, heq, ?_⟩), h1, h2⟩
    cases s <;> decide +kernel
  | number s m e =>
    rw [heq] at hE
    obtain ⟨M, E, h1, h2, h3, h4, _⟩ := hE
    have hfb : floatToFloatBits .f32 x .f64 = some (FloatKind.f64.encode (.number s m e)) := by
      unfold floatToFloatBits
      rw [if_neg hne, hdec, heq]
      have : FloatKind.f64.decode (FloatKind.f64.encode (.number s m e)) = .number s M E := h1
      simp only [this]
      rfl
    refine (fv_32 x _ hx (fun W => run_convert_float_float W 60 32 .f32 .f64 x _ (by kernel_rfl) Tryd.underlying32 hfb) w).mono ?_
    rintro e' w' ⟨h5, h6⟩
    exact ⟨_, .inl ⟨s, m, e, M, E, heq, h1, h2⟩, h5, h6⟩
end Go.Proofs.YtdncfolehkhjhaaDoor
