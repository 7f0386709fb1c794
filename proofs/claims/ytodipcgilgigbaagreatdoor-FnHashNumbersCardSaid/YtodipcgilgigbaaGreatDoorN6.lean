/- Two words divided by one: by a reciprocal, and by halves of words. -/
import Derived.Test.YtodipcgilgigbaaGreatDoorN5
namespace Go.Proofs.YtodipcgilgigbaaGreatDoor.I

/-- The quotient by a reciprocal q is the true one, or less by one or two. -/
theorem divww {d x1 x0 q t : Nat} (hd : 9223372036854775808 ≤ d) (hd2 : d < 18446744073709551616) (hx1 : x1 < d) (hx0 : x0 < 18446744073709551616)
    (q1 : q * d ≤ 340282366920938463463374607431768211455) (q2 : 340282366920938463463374607431768211456 ≤ (q + 1) * d)
    (t1 : t * 18446744073709551616 ≤ q * x1 + x0) (t2 : q * x1 + x0 < t * 18446744073709551616 + 18446744073709551616) :
    t < 18446744073709551616 ∧ d * t ≤ x1 * 18446744073709551616 + x0 ∧ x1 * 18446744073709551616 + x0 < d * t + 18446744073709551616 + d := by
  obtain ⟨e, rfl⟩ : ∃ e, d = e + 1 := ⟨d - 1, by omega⟩
  have a1 : q * x1 ≤ q * e := Nat.mul_le_mul_left q (by omega)
  have a2 : q * (e + 1) = q * e + q := by rw [Nat.mul_add, Nat.mul_one]
  have a3 : (q + 1) * (e + 1) = q * (e + 1) + (e + 1) := by rw [Nat.add_mul, Nat.one_mul]
  have a4 : q * x1 * (e + 1) = q * (e + 1) * x1 := by rw [Nat.mul_assoc, Nat.mul_comm x1, ← Nat.mul_assoc]
  have a5 : q * (e + 1) * x1 ≤ 340282366920938463463374607431768211455 * x1 := Nat.mul_le_mul_right x1 q1
  have a6 : x0 * (e + 1) ≤ x0 * 18446744073709551616 := Nat.mul_le_mul_left x0 (by omega)
  have a7 : t * 18446744073709551616 * (e + 1) ≤ (q * x1 + x0) * (e + 1) := Nat.mul_le_mul_right _ t1
  have a8 : (q * x1 + x0 + 1) * (e + 1) ≤ (t * 18446744073709551616 + 18446744073709551616) * (e + 1) := Nat.mul_le_mul_right _ t2
  have b1 : t * 18446744073709551616 * (e + 1) = (e + 1) * t * 18446744073709551616 := by rw [Nat.mul_comm _ (e + 1), Nat.mul_assoc]
  have b2 : (q * x1 + x0) * (e + 1) = q * x1 * (e + 1) + x0 * (e + 1) := Nat.add_mul _ _ _
  have b3 : (q * x1 + x0 + 1) * (e + 1) = q * x1 * (e + 1) + x0 * (e + 1) + (e + 1) := by rw [Nat.add_mul, Nat.add_mul, Nat.one_mul]
  have b4 : (t * 18446744073709551616 + 18446744073709551616) * (e + 1) = t * 18446744073709551616 * (e + 1) + 18446744073709551616 * (e + 1) := Nat.add_mul _ _ _
  have b5 : (340282366920938463463374607431768211456 - (e + 1)) * x1 ≤ q * (e + 1) * x1 := Nat.mul_le_mul_right x1 (by omega)
  have b6 : (340282366920938463463374607431768211456 - (e + 1)) * x1 = 340282366920938463463374607431768211456 * x1 - (e + 1) * x1 := Nat.sub_mul _ _ _
  have b7 : (e + 1) * x1 ≤ (e + 1) * e := Nat.mul_le_mul_left _ (by omega)
  have b8 : (18446744073709551616 - (e + 1)) * x0 ≤ (18446744073709551616 - (e + 1)) * 18446744073709551615 := Nat.mul_le_mul_left _ (by omega)
  have b9 : (18446744073709551616 - (e + 1)) * x0 = 18446744073709551616 * x0 - (e + 1) * x0 := Nat.sub_mul _ _ _
  have c1 : (e + 1) * x0 = x0 * (e + 1) := Nat.mul_comm _ _
  have c2 : (e + 1) * (e + 1) ≤ (e + 1) * 18446744073709551616 := Nat.mul_le_mul_left _ (by omega)
  have c3 : (e + 1) * (e + 1) = (e + 1) * e + (e + 1) := by rw [Nat.mul_add (e + 1) e 1, Nat.mul_one]
  have c4 : (e + 1) * x1 ≤ 340282366920938463463374607431768211456 * x1 := Nat.mul_le_mul_right x1 (by omega)
  have c5 : 18446744073709551616 ≤ q := by
    rcases Nat.lt_or_ge q 18446744073709551616 with h | h
    · have : (q + 1) * (e + 1) ≤ 18446744073709551616 * (e + 1) := Nat.mul_le_mul_right _ h
      omega
    · exact h
  refine ⟨by omega, by omega, by omega⟩

/-- A guess at a digit, one base up: it is not below the true one; how far it may be lowered. -/
theorem digit_ge {u y q rh y1 y0 u1 b : Nat} (hy : y = y1 * b + y0) (hr : u = q * y1 + rh) (hq : q * y0 ≤ b * rh + u1) : q * y ≤ u * b + u1 := by
  subst hy hr
  have e1 : q * (y1 * b + y0) = q * y1 * b + q * y0 := by rw [Nat.mul_add, ← Nat.mul_assoc]
  have e2 : (q * y1 + rh) * b = q * y1 * b + b * rh := by rw [Nat.add_mul, Nat.mul_comm rh]
  omega
theorem digit_lt {u y q rh y1 y0 u1 b : Nat} (hy : y = y1 * b + y0) (hr : u = q * y1 + rh) (hq : b * rh + u1 < q * y0) : u * b + u1 < q * y := by
  subst hy hr
  have e1 : q * (y1 * b + y0) = q * y1 * b + q * y0 := by rw [Nat.mul_add, ← Nat.mul_assoc]
  have e2 : (q * y1 + rh) * b = q * y1 * b + b * rh := by rw [Nat.add_mul, Nat.mul_comm rh]
  omega
/-- What holds of a guess: u = q y1 + rh, and the next but one below it is too small. -/
structure Guess (u y y1 y0 u1 q rh : Nat) : Prop where
  eq : u = q * y1 + rh
  up : u * 4294967296 + u1 < (q + 1) * y
theorem guess_first {u y y1 y0 u1 : Nat} (hy : y = y1 * 4294967296 + y0) (h1 : u1 < 4294967296) (hy1 : 0 < y1) : Guess u y y1 y0 u1 (u / y1) (u % y1) := by
  have c0 : y1 * 4294967296 ≤ y := by omega
  have e := Nat.div_add_mod u y1
  have m := Nat.mod_lt u hy1
  refine ⟨by rw [Nat.mul_comm]; omega, ?_⟩
  have a : u < (u / y1 + 1) * y1 := by rw [Nat.add_mul, Nat.one_mul, Nat.mul_comm]; omega
  clear e m
  generalize u / y1 = q at *
  have b : (u + 1) * 4294967296 ≤ (q + 1) * y1 * 4294967296 := Nat.mul_le_mul_right 4294967296 (show u + 1 ≤ (q + 1) * y1 from a)
  have c : (q + 1) * y1 * 4294967296 ≤ (q + 1) * y := by
    rw [Nat.mul_assoc]; exact Nat.mul_le_mul_left (q + 1) c0
  omega
theorem guess_next {u y y1 y0 u1 q rh : Nat} (g : Guess u y y1 y0 u1 (q + 1) rh) (hlt : u * 4294967296 + u1 < (q + 1) * y) : Guess u y y1 y0 u1 q (rh + y1) := by
  refine ⟨?_, hlt⟩
  have := g.eq
  rw [Nat.add_mul, Nat.one_mul] at this
  omega
/-- The true digit. -/
theorem guess_end {u y q u1 : Nat} (h1 : q * y ≤ u * 4294967296 + u1) (h2 : u * 4294967296 + u1 < (q + 1) * y) : q = (u * 4294967296 + u1) / y := by
  rw [Nat.add_mul, Nat.one_mul] at h2
  refine (Nat.div_eq_of_lt_le ?_ ?_).symm
  · exact h1
  · rw [Nat.succ_mul]; exact h2
/-- Where the loop goes on, the guess is too great. -/
theorem guess_high {u y y1 y0 u1 q rh : Nat} (hy : y = y1 * 4294967296 + y0) (g : Guess u y y1 y0 u1 q rh) (hu : u < y) (h1 : u1 < 4294967296) (h : 4294967296 ≤ q ∨ 4294967296 * rh + u1 < q * y0) : u * 4294967296 + u1 < q * y := by
  rcases h with h | h
  · have a : 4294967296 * y ≤ q * y := Nat.mul_le_mul_right _ h
    omega
  · exact digit_lt hy g.eq (by omega)
/-- Where the remainder has gone beyond a digit, the guess is right. -/
theorem guess_over {u y y1 y0 u1 q rh : Nat} (hy : y = y1 * 4294967296 + y0) (h0 : y0 < 4294967296) (g : Guess u y y1 y0 u1 q rh) (hq : q ≤ 4294967296) (hr : 4294967296 ≤ rh) : q * y ≤ u * 4294967296 + u1 := by
  refine digit_ge hy g.eq ?_
  have a : q * y0 ≤ 4294967296 * 4294967295 := Nat.mul_le_mul hq (by omega)
  omega
/-- The halves of a divisor with its top bit, a part of the dividend that is less, the next half. -/
structure Dg (u y y1 y0 u1 : Int) : Prop where
  hy : y = y1 * 4294967296 + y0
  a0 : 0 ≤ y0
  a1 : y0 < 4294967296
  b0 : 2147483648 ≤ y1
  b1 : y1 < 4294967296
  u0 : 0 ≤ u
  uy : u < y
  c0 : 0 ≤ u1
  c1 : u1 < 4294967296
/-- What a round of the guessing sees. -/
structure Gs (u y y1 y0 u1 : Int) (q rh : Int) : Prop where
  g : Guess u.toNat y.toNat y1.toNat y0.toNat u1.toNat q.toNat rh.toNat
  q0 : 0 ≤ q
  q1 : q ≤ 4294967297
  r0 : 0 ≤ rh
  r1 : rh < 4294967296
theorem gs_first {u y y1 y0 u1 : Int} (d : Dg u y y1 y0 u1) : Gs u y y1 y0 u1 (u / y1) (u % y1) := by
  obtain ⟨hy, a0, a1, b0, b1, u0, uy, c0, c1⟩ := d
  obtain ⟨Y, rfl⟩ := Int.eq_ofNat_of_zero_le (show 0 ≤ y by omega)
  obtain ⟨A, rfl⟩ := Int.eq_ofNat_of_zero_le (show 0 ≤ y1 by omega)
  obtain ⟨B, rfl⟩ := Int.eq_ofNat_of_zero_le a0
  obtain ⟨U, rfl⟩ := Int.eq_ofNat_of_zero_le u0
  obtain ⟨C, rfl⟩ := Int.eq_ofNat_of_zero_le c0
  have e1 : ((U : Int) / (A : Int)) = ((U / A : Nat) : Int) := (Int.natCast_ediv U A).symm
  have e2 : ((U : Int) % (A : Int)) = ((U % A : Nat) : Int) := (Int.natCast_emod U A).symm
  have hm := Nat.mod_lt U (show A > 0 by omega)
  have hd : U / A ≤ 4294967297 := by
    have : U / A < 4294967298 := (Nat.div_lt_iff_lt_mul (by omega)).2 (by omega)
    omega
  have g := guess_first (u := U) (y := Y) (y1 := A) (y0 := B) (u1 := C) (by omega) (by omega) (by omega)
  rw [e1, e2]
  generalize U / A = Q at *
  generalize U % A = R at *
  exact ⟨g, by omega, by omega, by omega, by omega⟩
theorem gs_end {u y y1 y0 u1 q rh : Int} (d : Dg u y y1 y0 u1) (g : Gs u y y1 y0 u1 q rh) (h : q * y0 ≤ 4294967296 * rh + u1) : q = (u * 4294967296 + u1) / y := by
  obtain ⟨hy, a0, a1, b0, b1, u0, uy, c0, c1⟩ := d
  obtain ⟨g, q0, q1, r0, r1⟩ := g
  obtain ⟨Y, rfl⟩ := Int.eq_ofNat_of_zero_le (show 0 ≤ y by omega)
  obtain ⟨A, rfl⟩ := Int.eq_ofNat_of_zero_le (show 0 ≤ y1 by omega)
  obtain ⟨B, rfl⟩ := Int.eq_ofNat_of_zero_le a0
  obtain ⟨U, rfl⟩ := Int.eq_ofNat_of_zero_le u0
  obtain ⟨C, rfl⟩ := Int.eq_ofNat_of_zero_le c0
  obtain ⟨Q, rfl⟩ := Int.eq_ofNat_of_zero_le q0
  obtain ⟨R, rfl⟩ := Int.eq_ofNat_of_zero_le r0
  simp only [Int.toNat_natCast] at g
  have h' : Q * B ≤ 4294967296 * R + C := by
    rw [← Int.natCast_mul] at h
    omega
  have hy' : Y = A * 4294967296 + B := by omega
  have k := guess_end (digit_ge hy' g.eq h') g.up
  have e : ((U : Int) * 4294967296 + C) = ((U * 4294967296 + C : Nat) : Int) := by omega
  rw [e, ← Int.natCast_ediv, ← k]
theorem gs_next {u y y1 y0 u1 q rh : Int} (d : Dg u y y1 y0 u1) (g : Gs u y y1 y0 u1 q rh) (h : 4294967296 ≤ q ∨ 4294967296 * rh + u1 < q * y0) : 1 ≤ q ∧ (rh + y1 < 4294967296 → Gs u y y1 y0 u1 (q - 1) (rh + y1)) ∧ (4294967296 ≤ rh + y1 → q - 1 = (u * 4294967296 + u1) / y) := by
  obtain ⟨hy, a0, a1, b0, b1, u0, uy, c0, c1⟩ := d
  obtain ⟨g, q0, q1, r0, r1⟩ := g
  obtain ⟨Y, rfl⟩ := Int.eq_ofNat_of_zero_le (show 0 ≤ y by omega)
  obtain ⟨A, rfl⟩ := Int.eq_ofNat_of_zero_le (show 0 ≤ y1 by omega)
  obtain ⟨B, rfl⟩ := Int.eq_ofNat_of_zero_le a0
  obtain ⟨U, rfl⟩ := Int.eq_ofNat_of_zero_le u0
  obtain ⟨C, rfl⟩ := Int.eq_ofNat_of_zero_le c0
  obtain ⟨Q, rfl⟩ := Int.eq_ofNat_of_zero_le q0
  obtain ⟨R, rfl⟩ := Int.eq_ofNat_of_zero_le r0
  simp only [Int.toNat_natCast] at g
  have h' : 4294967296 ≤ Q ∨ 4294967296 * R + C < Q * B := by
    rcases h with h | h
    · exact .inl (by omega)
    · rw [← Int.natCast_mul] at h
      exact .inr (by omega)
  have hy' : Y = A * 4294967296 + B := by omega
  have hh := guess_high hy' g (by omega) (by omega) h'
  have hq : 1 ≤ Q := by
    rcases Nat.eq_zero_or_pos Q with rfl | hq
    · omega
    · exact hq
  obtain ⟨P, rfl⟩ : ∃ P, Q = P + 1 := ⟨Q - 1, by omega⟩
  have n := guess_next g hh
  have e0 : ((P + 1 : Nat) : Int) - 1 = (P : Int) := by omega
  have e1 : (R : Int) + (A : Int) = ((R + A : Nat) : Int) := by omega
  rw [e0, e1]
  refine ⟨by omega, fun hr => ⟨n, by omega, by omega, by omega, by omega⟩, fun hr => ?_⟩
  have k := guess_end (guess_over hy' (by omega) n (by omega) (by omega)) n.up
  have e : ((U : Int) * 4294967296 + C) = ((U * 4294967296 + C : Nat) : Int) := by omega
  rw [e, ← Int.natCast_ediv, ← k]
/-- Two digits, one behind the other. -/
theorem two_digits {hi y u1 u0 : Int} (hy : 0 < y) : (hi * 18446744073709551616 + (u1 * 4294967296 + u0)) / y = (hi * 4294967296 + u1) / y * 4294967296 + ((hi * 4294967296 + u1) % y * 4294967296 + u0) / y ∧ (hi * 18446744073709551616 + (u1 * 4294967296 + u0)) % y = ((hi * 4294967296 + u1) % y * 4294967296 + u0) % y := by
  have e := Int.mul_ediv_add_emod (hi * 4294967296 + u1) y
  generalize (hi * 4294967296 + u1) / y = Q at *
  generalize (hi * 4294967296 + u1) % y = r at *
  have e2 : hi * 18446744073709551616 + (u1 * 4294967296 + u0) = (r * 4294967296 + u0) + y * (Q * 4294967296) := by
    rw [← Int.mul_assoc]
    omega
  rw [e2]
  refine ⟨?_, ?_⟩
  · rw [Int.add_mul_ediv_left _ _ (by omega)]; omega
  · rw [Int.add_mul_emod_self_left]
/-- The sum of products by which the quotient is guessed. -/
theorem guess_sum {m X1 X0 : Nat} : (m * X1 + X1 * 18446744073709551616 + X0) / 18446744073709551616 = m * X1 / 18446744073709551616 + X1 + (m * X1 % 18446744073709551616 + X0) / 18446744073709551616 := by
  generalize m * X1 = p
  omega
/-- What is left of the dividend, in two words. -/
theorem left_words {X1 X0 p r0 r1 bb : Nat} (h0 : X0 < 18446744073709551616) (hp : p ≤ X1 * 18446744073709551616 + X0) (hl : X1 * 18446744073709551616 + X0 < p + 36893488147419103232)
    (hb : bb = if X0 < p % 18446744073709551616 + 0 then 1 else 0) (hr0 : r0 = (X0 + 18446744073709551616 - p % 18446744073709551616 - 0) % 18446744073709551616) (hr1 : r1 = (X1 + 18446744073709551616 - p / 18446744073709551616 - bb) % 18446744073709551616) :
    r1 * 18446744073709551616 + r0 = X1 * 18446744073709551616 + X0 - p ∧ r0 < 18446744073709551616 ∧ r1 ≤ 1 ∧ bb ≤ 1 := by
  split at hb <;> subst hb <;> omega
/-- The four ways of the end. -/
theorem quo_end {d t N R k : Nat} (hd : 0 < d) (hR : N = d * t + R) (hk : k * d ≤ R) (hk2 : R < k * d + d) : N / d = t + k ∧ N % d = R - k * d := by
  have e : N = (R - k * d) + d * (t + k) := by rw [Nat.mul_add, Nat.mul_comm d k]; omega
  rw [e]
  refine ⟨?_, ?_⟩
  · rw [Nat.add_mul_div_left _ _ hd, Nat.div_eq_of_lt (by omega), Nat.zero_add]
  · rw [Nat.add_mul_mod_self_left, Nat.mod_eq_of_lt (by omega)]
/-- Dividend and divisor shifted alike. -/
theorem scale_words {x1 x0 y s : Nat} (hs : s ≤ 64) (h1 : x1 < y) (h0 : x0 < 18446744073709551616) : (x1 * 2 ^ s + x0 / 2 ^ (64 - s)) * 18446744073709551616 + x0 * 2 ^ s % 18446744073709551616 = (x1 * 18446744073709551616 + x0) * 2 ^ s ∧ x1 * 2 ^ s + x0 / 2 ^ (64 - s) < y * 2 ^ s := by
  have p : 2 ^ s * 2 ^ (64 - s) = 18446744073709551616 := by rw [← Nat.pow_add, show s + (64 - s) = 64 by omega]
  have hS : 0 < 2 ^ s := Nat.two_pow_pos s
  have hT : 0 < 2 ^ (64 - s) := Nat.two_pow_pos _
  generalize 2 ^ s = S at *
  generalize 2 ^ (64 - s) = T at *
  have e1 : x0 * S / 18446744073709551616 = x0 / T := by
    rw [← p, Nat.mul_comm x0, Nat.mul_div_mul_left _ _ hS]
  have e2 := Nat.div_add_mod (x0 * S) 18446744073709551616
  have e3 : x0 / T < S := (Nat.div_lt_iff_lt_mul hT).2 (by rw [p]; exact h0)
  have e4 : (x1 + 1) * S ≤ y * S := Nat.mul_le_mul_right S h1
  rw [e1] at e2
  rw [Nat.add_mul, Nat.one_mul] at e4
  have e5 : (x1 * 18446744073709551616 + x0) * S = x1 * S * 18446744073709551616 + x0 * S := by rw [Nat.add_mul, Nat.mul_assoc, Nat.mul_comm 18446744073709551616, ← Nat.mul_assoc]
  rw [e5]
  generalize x0 * S = v at *
  generalize x1 * S = u at *
  omega
theorem scale_back {n y s : Nat} : n * 2 ^ s / (y * 2 ^ s) = n / y ∧ n * 2 ^ s % (y * 2 ^ s) / 2 ^ s = n % y := by
  have hS : 0 < 2 ^ s := Nat.two_pow_pos s
  refine ⟨Nat.mul_div_mul_right _ _ hS, ?_⟩
  rw [Nat.mul_mod_mul_right, Nat.mul_div_cancel _ hS]
end Go.Proofs.YtodipcgilgigbaaGreatDoor.I
