/- divWW: two words divided by one, by its reciprocal. -/
import Derived.Test.YtodipcgilgigbaaGreatDoorX2
set_option linter.unusedVariables false
namespace Go.Proofs.YtodipcgilgigbaaGreatDoor.V
open Go Go.RowKit Go.Proofs.YtodipcgilgigbaaGreatDoor.I
attribute [local go_sem ↓] Go.wp_at_zero Go.wp_at_succ
set_option maxRecDepth 100000 in
set_option maxHeartbeats 2000000 in
theorem divww_walk (x1 x0 y m X1 X0 d s a b c z t z2 p1 p0 r0 bb r1 z3 k q : Nat) (w : World) (r : Int) (hs : s ≤ 63)
    (NZ : ∀ w, Calls Tryz.prog 90 #[.int .u64 y] w fun e w' => e = .returned (.int .u64 s) ∧ w = w')
    (e0 : s = 0 → X1 = x1 ∧ X0 = x0 ∧ d = y)
    (e1 : bits .or .u64 (IntKind.u64.wrap ((x1 : Int) * 2 ^ s)) ((x0 : Int) / 2 ^ (64 - s)) = (X1 : Int)) (e2 : IntKind.u64.wrap ((x0 : Int) * 2 ^ s) = X0) (e3 : IntKind.u64.wrap ((y : Int) * 2 ^ s) = d)
    (M1 : ∀ w, Calls Tryz.prog 191 #[.int .u64 m, .int .u64 X1] w fun e w' => e = .returned (.tuple #[.int .u64 a, .int .u64 b]) ∧ w = w')
    (A1 : ∀ w, Calls Tryz.prog 108 #[.int .u64 b, .int .u64 X0, .int .u64 0] w fun e w' => e = .returned (.tuple #[.int .u64 z, .int .u64 c]) ∧ w = w')
    (A2 : ∀ w, Calls Tryz.prog 108 #[.int .u64 a, .int .u64 X1, .int .u64 c] w fun e w' => e = .returned (.tuple #[.int .u64 t, .int .u64 z2]) ∧ w = w')
    (M2 : ∀ w, Calls Tryz.prog 191 #[.int .u64 d, .int .u64 t] w fun e w' => e = .returned (.tuple #[.int .u64 p1, .int .u64 p0]) ∧ w = w')
    (S1 : ∀ w, Calls Tryz.prog 193 #[.int .u64 X0, .int .u64 p0, .int .u64 0] w fun e w' => e = .returned (.tuple #[.int .u64 r0, .int .u64 bb]) ∧ w = w')
    (S2 : ∀ w, Calls Tryz.prog 193 #[.int .u64 X1, .int .u64 p1, .int .u64 bb] w fun e w' => e = .returned (.tuple #[.int .u64 r1, .int .u64 z3]) ∧ w = w')
    (hr : (((r1 : Int) * 18446744073709551616 + r0 - k * d) / 2 ^ s) = r) (hk : k * d ≤ r1 * 18446744073709551616 + r0) (hk2 : r1 * 18446744073709551616 + r0 < k * d + d) (hk3 : k ≤ 2) (hq : t + k = q) (hq1 : q < 18446744073709551616) (d0 : 9223372036854775808 ≤ d) (d1 : d < 18446744073709551616) (hr0 : r0 < 18446744073709551616) (hr1 : r1 ≤ 1) (hR : r1 * 18446744073709551616 + r0 < 18446744073709551616 + d) :
    Calls Tryz.prog 188 #[.int .u64 x1, .int .u64 x0, .int .u64 y, .int .u64 m] w fun e w' => e = .returned (.tuple #[.int .u64 q, .int .u64 r]) ∧ Below w.heap.size w w' := by
  have H := Lib.hid (And.intro e0 (And.intro hr (And.intro hk (And.intro hk2 (And.intro hk3 (And.intro hq (And.intro hq1 (And.intro d0 (And.intro d1 (And.intro hr0 (And.intro hr1 hR)))))))))))
  clear e0 hr hk hk2 hk3 hq hq1 d0 d1 hr0 hr1 hR
  go_enter Tryz.func188, Tryz.ntmps188
  go_upto_if 26 with (go_at_call 90; ((with_reducible refine (NZ _).mono ?_); rintro _ w1 ⟨rfl, rfl⟩))
  go_cut [0, 1, 2] (fun v0 v1 v2 wx => v0 = .int .u64 X1 ∧ v1 = .int .u64 X0 ∧ v2 = .int .u64 d ∧ wx = w)
  case first =>
    rcases Nat.eq_zero_or_pos s with h0 | h0
    · obtain ⟨rfl, rfl, rfl⟩ := H.out.1 h0
      subst h0
      go_wp2_with fail
      go_meet
      case rel => exact ⟨rfl, rfl, rfl, rfl⟩
    · have s0 : ((s : Int) != 0) = true := by simp; omega
      go_wp2_with fail
      go_meet
      case rel => exact ⟨rfl, rfl, rfl, rfl⟩
  case rest =>
    obtain ⟨rfl, rfl, rfl, rfl⟩ := hcut
    obtain ⟨_, hr, hk, hk2, hk3, hq, hq1, d0, d1, hr0, hr1, hR⟩ := H.out
    clear e1 e2 e3
    have hd3 : k = 0 ∨ k = 1 ∨ k = 2 := by omega
    have key : (r1 = 0 ∧ r0 < d ∧ k = 0) ∨ (r1 = 0 ∧ d ≤ r0 ∧ k = 1) ∨ (r1 = 1 ∧ 18446744073709551616 + r0 < 2 * d ∧ k = 1) ∨ (r1 = 1 ∧ (2 * d ≤ 18446744073709551616 + r0 ∧ r0 < d) ∧ k = 2) := by
      rcases hd3 with rfl | rfl | rfl <;> omega
    have HD := Lib.hid (And.intro d0 d1)
    clear hd3 hk hk2 hk3 hR hr1 d0 d1
    rcases key with ⟨rfl, k1, rfl⟩ | ⟨rfl, k1, rfl⟩ | ⟨rfl, k1, rfl⟩ | ⟨rfl, k1, rfl⟩
    · rw [show ((((0 : Nat) : Int) * 18446744073709551616 + r0 - ((0 : Nat) : Int) * d)) = (r0 : Int) by omega] at hr
      rw [Nat.add_zero] at hq
      subst hq
      go_wp2_with (first | (go_at_call 191; (((with_reducible refine (M1 _).mono ?_); rintro _ w1 ⟨rfl, rfl⟩))) | (go_at_call 191; (((with_reducible refine (M2 _).mono ?_); rintro _ w1 ⟨rfl, rfl⟩))) | (go_at_call 108; (((with_reducible refine (A1 _).mono ?_); rintro _ w1 ⟨rfl, rfl⟩))) | (go_at_call 108; (((with_reducible refine (A2 _).mono ?_); rintro _ w1 ⟨rfl, rfl⟩))) | (go_at_call 193; (((with_reducible refine (S1 _).mono ?_); rintro _ w1 ⟨rfl, rfl⟩))) | (go_at_call 193; (((with_reducible refine (S2 _).mono ?_); rintro _ w1 ⟨rfl, rfl⟩))))
      go_ret2
      exact ⟨rfl, Below.refl _ _⟩
    · rw [show ((((0 : Nat) : Int) * 18446744073709551616 + r0 - ((1 : Nat) : Int) * d)) = (r0 : Int) - d by omega] at hr
      have q2 : (t : Int) + 1 = q := by omega
      have q3 : (t : Int) < 18446744073709551615 := by omega
      clear hq hq1
      go_wp2_with (first | (go_at_call 191; (((with_reducible refine (M1 _).mono ?_); rintro _ w1 ⟨rfl, rfl⟩))) | (go_at_call 191; (((with_reducible refine (M2 _).mono ?_); rintro _ w1 ⟨rfl, rfl⟩))) | (go_at_call 108; (((with_reducible refine (A1 _).mono ?_); rintro _ w1 ⟨rfl, rfl⟩))) | (go_at_call 108; (((with_reducible refine (A2 _).mono ?_); rintro _ w1 ⟨rfl, rfl⟩))) | (go_at_call 193; (((with_reducible refine (S1 _).mono ?_); rintro _ w1 ⟨rfl, rfl⟩))) | (go_at_call 193; (((with_reducible refine (S2 _).mono ?_); rintro _ w1 ⟨rfl, rfl⟩))))
      go_ret2
      exact ⟨rfl, Below.refl _ _⟩
    · rw [show ((((1 : Nat) : Int) * 18446744073709551616 + r0 - ((1 : Nat) : Int) * d)) = 18446744073709551616 + (r0 : Int) - d by omega] at hr
      have q2 : (t : Int) + 1 = q := by omega
      have q3 : (t : Int) < 18446744073709551615 := by omega
      have HD2 := HD.out
      obtain ⟨v, hv⟩ : ∃ v : Nat, 18446744073709551616 + (r0 : Int) - d = v := ⟨18446744073709551616 + r0 - d, by omega⟩
      have hw : IntKind.u64.wrap ((r0 : Int) - d) = v := by rw [wrapu_emod]; omega
      have hlt : decide (d ≤ v) = false := decide_eq_false (by omega)
      rw [hv] at hr
      clear hq hq1 hv HD2 k1
      go_wp2_with (first | (go_at_call 191; (((with_reducible refine (M1 _).mono ?_); rintro _ w1 ⟨rfl, rfl⟩))) | (go_at_call 191; (((with_reducible refine (M2 _).mono ?_); rintro _ w1 ⟨rfl, rfl⟩))) | (go_at_call 108; (((with_reducible refine (A1 _).mono ?_); rintro _ w1 ⟨rfl, rfl⟩))) | (go_at_call 108; (((with_reducible refine (A2 _).mono ?_); rintro _ w1 ⟨rfl, rfl⟩))) | (go_at_call 193; (((with_reducible refine (S1 _).mono ?_); rintro _ w1 ⟨rfl, rfl⟩))) | (go_at_call 193; (((with_reducible refine (S2 _).mono ?_); rintro _ w1 ⟨rfl, rfl⟩))))
      go_ret2
      exact ⟨rfl, Below.refl _ _⟩
    · rw [show ((((1 : Nat) : Int) * 18446744073709551616 + r0 - ((2 : Nat) : Int) * d)) = 18446744073709551616 + (r0 : Int) - d - d by omega] at hr
      have q2 : (t : Int) + 1 + 1 = q := by omega
      have q3 : (t : Int) < 18446744073709551614 := by omega
      have HD2 := HD.out
      obtain ⟨v, hv⟩ : ∃ v : Nat, 18446744073709551616 + (r0 : Int) - d = v := ⟨18446744073709551616 + r0 - d, by omega⟩
      have hw : IntKind.u64.wrap ((r0 : Int) - d) = v := by rw [wrapu_emod]; omega
      have hlt : d ≤ v := by omega
      have hlt2 : v < 18446744073709551616 := by omega
      rw [hv] at hr
      clear hq hq1 hv HD2 k1
      go_wp2_with (first | (go_at_call 191; (((with_reducible refine (M1 _).mono ?_); rintro _ w1 ⟨rfl, rfl⟩))) | (go_at_call 191; (((with_reducible refine (M2 _).mono ?_); rintro _ w1 ⟨rfl, rfl⟩))) | (go_at_call 108; (((with_reducible refine (A1 _).mono ?_); rintro _ w1 ⟨rfl, rfl⟩))) | (go_at_call 108; (((with_reducible refine (A2 _).mono ?_); rintro _ w1 ⟨rfl, rfl⟩))) | (go_at_call 193; (((with_reducible refine (S1 _).mono ?_); rintro _ w1 ⟨rfl, rfl⟩))) | (go_at_call 193; (((with_reducible refine (S2 _).mono ?_); rintro _ w1 ⟨rfl, rfl⟩))))
      go_ret2
      exact ⟨rfl, Below.refl _ _⟩
theorem or_scale (x y s : Nat) (hs2 : s ≤ 63) (hx : x * 2 ^ s < 18446744073709551616) (hy : y < 18446744073709551616) : bits .or .u64 (IntKind.u64.wrap ((x : Int) * 2 ^ s)) ((y : Int) / 2 ^ (64 - s)) = ((x * 2 ^ s + y / 2 ^ (64 - s) : Nat) : Int) := by
  rcases Nat.eq_zero_or_pos s with rfl | hs
  · have e := or_nought (x := (x : Int)) (l := (y : Int)) (by omega) (by omega) (by omega) (by omega)
    have e2 : ((2 : Int) ^ (64 - 0)) = 18446744073709551616 := by decide
    have e3 : y / 2 ^ (64 - 0) = 0 := Nat.div_eq_of_lt (by omega)
    have e4 : ((x : Int) * 2 ^ 0) = x := by simp
    rw [e2, e4, wrapu_in (by omega) (by omega), e, e3]
    simp
  · obtain ⟨t, ht, e⟩ := or_shift x y s hs (by omega) hy
    rw [e, ht, Nat.mod_eq_of_lt hx]
theorem shl_mod (d s : Nat) : IntKind.u64.wrap ((d : Int) * 2 ^ s) = ((d * 2 ^ s % 18446744073709551616 : Nat) : Int) := by
  have e : (d : Int) * 2 ^ s = ((d * 2 ^ s : Nat) : Int) := by rw [Int.natCast_mul, Int.natCast_pow]; rfl
  rw [e, wrapu_nat]
theorem divww_call (x1 x0 y : Nat) (hy : y < 18446744073709551616) (h1 : x1 < y) (h0 : x0 < 18446744073709551616) (w : World) :
    Calls Tryz.prog 188 #[.int .u64 x1, .int .u64 x0, .int .u64 y, .int .u64 (rcp y : Nat)] w fun e w' => e = .returned (.tuple #[.int .u64 ((x1 * 18446744073709551616 + x0) / y : Nat), .int .u64 (((x1 * 18446744073709551616 + x0) % y : Nat) : Int)]) ∧ Below w.heap.size w w' := by
  obtain ⟨t1, t2, t3⟩ := top_shift (d := y) (by omega) hy
  obtain ⟨_, k2, k3, k4⟩ := rcp_is (d := y) rfl t1 t2
  have NZ := nlz_call y hy
  generalize hs : 64 - bl y = s at *
  obtain ⟨c1, c2⟩ := scale_words (x1 := x1) (x0 := x0) (y := y) (s := s) (by omega) h1 h0
  obtain ⟨b1, b2⟩ := scale_back (n := x1 * 18446744073709551616 + x0) (y := y) (s := s)
  have e1 := or_scale x1 x0 s (by omega) (Nat.lt_of_le_of_lt (Nat.le_add_right _ _) (Nat.lt_trans c2 t2)) h0
  have e2 := shl_mod x0 s
  have e3 := shl_is t2
  have z0 : s = 0 → x1 * 2 ^ s + x0 / 2 ^ (64 - s) = x1 ∧ x0 * 2 ^ s % 18446744073709551616 = x0 ∧ y * 2 ^ s = y := by
    rintro rfl
    refine ⟨?_, ?_, by simp⟩
    · rw [Nat.pow_zero, Nat.mul_one, Nat.div_eq_of_lt (by omega), Nat.add_zero]
    · rw [Nat.pow_zero, Nat.mul_one, Nat.mod_eq_of_lt h0]
  have hX0 : x0 * 2 ^ s % 18446744073709551616 < 18446744073709551616 := Nat.mod_lt _ (by omega)
  generalize hX1 : x1 * 2 ^ s + x0 / 2 ^ (64 - s) = X1 at *
  generalize x0 * 2 ^ s % 18446744073709551616 = X0 at *
  generalize hd : y * 2 ^ s = d at *
  generalize rcp y = m at *
  have u1 := Nat.div_add_mod ((m + 18446744073709551616) * X1 + X0) 18446744073709551616
  have u2 := Nat.mod_lt ((m + 18446744073709551616) * X1 + X0) (show 18446744073709551616 > 0 by omega)
  obtain ⟨v1, v2, v3⟩ := divww (t := ((m + 18446744073709551616) * X1 + X0) / 18446744073709551616) t1 t2 c2 hX0 k3 k4 (by omega) (by omega)
  have gs := guess_sum (m := m) (X1 := X1) (X0 := X0)
  have gs2 : (m + 18446744073709551616) * X1 + X0 = m * X1 + X1 * 18446744073709551616 + X0 := by rw [Nat.add_mul, Nat.mul_comm 18446744073709551616]
  rw [gs2] at v1 v2 v3
  generalize ht : (m * X1 + X1 * 18446744073709551616 + X0) / 18446744073709551616 = t at *
  have hX1 : X1 < 18446744073709551616 := by omega
  have hc : (m * X1 % 18446744073709551616 + X0) / 18446744073709551616 ≤ 1 := by omega
  have ha : m * X1 / 18446744073709551616 < 18446744073709551616 := by
    have : m * X1 ≤ 18446744073709551615 * 18446744073709551615 := Nat.mul_le_mul (by omega) (by omega)
    omega
  have hdt : d * t / 18446744073709551616 < 18446744073709551616 := by
    have : d * t ≤ 18446744073709551615 * 18446744073709551615 := Nat.mul_le_mul (by omega) (by omega)
    omega
  obtain ⟨l1, l2, l3, l4⟩ := left_words (X1 := X1) (X0 := X0) (p := d * t) hX0 v2 (by omega) rfl rfl rfl
  have M1 := Tryz.bits_Mul m X1 k2 hX1
  have A1 := add_call (m * X1 % 18446744073709551616) X0 0 (by omega) hX0 (by omega)
  have A2 := add_call (m * X1 / 18446744073709551616) X1 ((m * X1 % 18446744073709551616 + X0) / 18446744073709551616) ha hX1 hc
  have M2 := Tryz.bits_Mul d t t2 v1
  have S1 := bsub_call X0 (d * t % 18446744073709551616) 0 _ _ (by omega) rfl rfl
  have S2 := bsub_call X1 (d * t / 18446744073709551616) _ _ _ l4 rfl rfl
  obtain ⟨R, hR⟩ := Nat.exists_eq_add_of_le v2
  rw [hR, Nat.add_sub_cancel_left] at l1
  rw [hR] at v3
  have hk := Nat.div_add_mod R d
  have hk2 := Nat.mod_lt R (show d > 0 by omega)
  generalize R / d = k at *
  generalize R % d = rr at *
  have hkd : k * d = d * k := Nat.mul_comm _ _
  have hk3 : k ≤ 2 := by
    rcases Nat.lt_or_ge k 3 with h | h
    · omega
    · have : d * 3 ≤ d * k := Nat.mul_le_mul_left d h
      omega
  have hk4 : k * d ≤ R := by omega
  have hk5 : R < k * d + d := by omega
  have hd0 : 0 < d := by omega
  obtain ⟨q1, q2⟩ := quo_end (d := d) (t := t) (N := X1 * 18446744073709551616 + X0) (R := R) (k := k) hd0 hR hk4 hk5
  rw [c1] at q1 q2
  rw [b1] at q1
  generalize hbb : (if X0 < d * t % 18446744073709551616 + 0 then 1 else 0 : Nat) = bb at *
  generalize (X0 + 18446744073709551616 - d * t % 18446744073709551616 - 0) % 18446744073709551616 = r0 at *
  generalize (X1 + 18446744073709551616 - d * t / 18446744073709551616 - bb) % 18446744073709551616 = r1 at *
  have hr : (((r1 : Int) * 18446744073709551616 + r0 - k * d) / 2 ^ s) = (((x1 * 18446744073709551616 + x0) % y : Nat) : Int) := by
    have e : ((r1 : Int) * 18446744073709551616 + r0 - k * d) = ((R - k * d : Nat) : Int) := by
      have := Int.natCast_mul k d
      omega
    rw [e, ← q2, ← b2, Int.natCast_ediv, Int.natCast_pow]
    rfl
  have gt : (m * X1 / 18446744073709551616 + X1 + (m * X1 % 18446744073709551616 + X0) / 18446744073709551616) % 18446744073709551616 = t := by
    rw [← gs, Nat.mod_eq_of_lt v1]
  rw [gt] at A2
  have hqb : t + k < 18446744073709551616 := by
    rw [← q1]
    exact Nat.lt_of_le_of_lt (Nat.le_of_lt_succ (Nat.lt_succ_of_le (Nat.le_refl _))) ((Nat.div_lt_iff_lt_mul (by omega)).2 (by omega))
  refine divww_walk x1 x0 y m X1 X0 d s _ _ _ _ t _ _ _ r0 bb r1 _ k _ w _ (by omega) NZ z0 e1 e2 e3 (fun w => (M1 w).mono ?_) A1 A2 (fun w => (M2 w).mono ?_) S1 S2 hr (by omega) (by omega) hk3 q1.symm (by omega) t1 t2 l2 l3 (by omega)
  · rintro _ _ ⟨rfl, rfl⟩; exact ⟨rfl, rfl⟩
  · rintro _ _ ⟨rfl, rfl⟩; exact ⟨rfl, rfl⟩
end Go.Proofs.YtodipcgilgigbaaGreatDoor.V
