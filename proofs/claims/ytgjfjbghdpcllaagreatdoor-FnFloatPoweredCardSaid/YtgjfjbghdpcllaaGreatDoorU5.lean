/- What strconv's uscale gives of a float's bits: four times the product, cut, and whether something was cut. Plain: no program in sight. -/
import Derived.Test.YtgjfjbghdpcllaaGreatDoorU1
import Derived.Test.YtgjfjbghdpcllaaGreatDoorI6
namespace Go.Proofs.YtgjfjbghdpcllaaGreatDoor.U

/-- uscale, on numbers. -/
def us (x hi lo s : Nat) : Nat :=
  let H := x * hi / 18446744073709551616
  let M := x * hi % 18446744073709551616
  if H / 2 ^ s * 2 ^ s = H then
    let m := x * lo / 18446744073709551616
    (H - if M < m then 1 else 0) / 2 ^ s ||| (if 1 < (M + 18446744073709551616 - m) % 18446744073709551616 then 1 else 0)
  else H / 2 ^ s ||| 1
/-- A quotient cut, its lowest bit set where something was cut. -/
def cutq (N D : Nat) : Nat := N / D ||| (if N % D = 0 then 0 else 1)
theorem lt_up {N D T Z q : Nat} (h : N * T ≤ Z * D) (hz : Z < (q + 1) * T) (hD : 0 < D) : N < (q + 1) * D := by
  have h1 : N * T < (q + 1) * T * D := Nat.lt_of_le_of_lt h (Nat.mul_lt_mul_of_pos_right hz hD)
  have e : (q + 1) * T * D = (q + 1) * D * T := by ac_rfl
  rw [e] at h1
  exact Nat.lt_of_mul_lt_mul_right h1
theorem gt_dn {N D T Z q x : Nat} (h : Z * D < N * T + x * D) (hz : q * T + x ≤ Z) : q * D < N := by
  have h1 : (q * T + x) * D ≤ Z * D := Nat.mul_le_mul_right D hz
  rw [Nat.add_mul] at h1
  have e : q * T * D = q * D * T := by ac_rfl
  have h2 : q * D * T < N * T := by omega
  exact Nat.lt_of_mul_lt_mul_right h2
theorem cutq_between {N D q : Nat} (h0 : q * D < N) (h1 : N < (q + 1) * D) : cutq N D = q ||| 1 := by
  have hD : 0 < D := by
    rcases Nat.eq_zero_or_pos D with h | h
    · subst h; omega
    · exact h
  have e1 : N / D = q := by
    rw [Nat.div_eq_iff hD]
    rw [Nat.add_mul] at h1
    omega
  have e2 : N % D ≠ 0 := by
    have := Nat.div_add_mod N D
    rw [e1, Nat.mul_comm] at this
    omega
  unfold cutq
  rw [e1, if_neg e2]
theorem cutq_exact {N D q : Nat} (hD : 0 < D) (h : N = q * D) : cutq N D = q ||| 0 := by
  unfold cutq
  rw [h, Nat.mul_div_cancel _ hD, Nat.mul_mod_left, if_pos rfl]
theorem near_step {N D S q : Nat} (h : dist N (q * D) * (S * 340282366920938463463374607431768211456) < D * 36893488147419103232) : dist N (q * D) * (S * 9223372036854775808) < D := by
  generalize dist N (q * D) = t at *
  have e : t * (S * 340282366920938463463374607431768211456) = t * (S * 9223372036854775808) * 36893488147419103232 := by
    rw [show (340282366920938463463374607431768211456 : Nat) = 9223372036854775808 * 36893488147419103232 from rfl]; ac_rfl
  rw [e] at h
  exact Nat.lt_of_mul_lt_mul_right h
/-- The whole law: between two bounds of the exact product, where it is no nearer to a whole number than they are apart. -/
theorem us_law (x hi lo s N D Z : Nat) (hx0 : 0 < x) (hx : x < 18446744073709551616) (hlo : lo < 18446744073709551616) (hD : 0 < D)
    (hZ : Z + x * lo = x * hi * 18446744073709551616)
    (ha : N * (2 ^ s * 340282366920938463463374607431768211456) ≤ Z * D) (hb : Z * D < N * (2 ^ s * 340282366920938463463374607431768211456) + x * D)
    (near : ∀ q, dist N (q * D) * (2 ^ s * 9223372036854775808) < D → N = q * D) : us x hi lo s = cutq N D := by
  have hS : 0 < 2 ^ s := Nat.pow_pos (by omega)
  have hH := Nat.div_add_mod (x * hi) 18446744073709551616
  have hM := Nat.mod_lt (x * hi) (show 0 < 18446744073709551616 by omega)
  have hl := Nat.div_add_mod (x * lo) 18446744073709551616
  have hr := Nat.mod_lt (x * lo) (show 0 < 18446744073709551616 by omega)
  have hxl : x * lo + x ≤ x * 18446744073709551616 := by
    have := Nat.mul_le_mul_left x (show lo + 1 ≤ 18446744073709551616 by omega)
    rw [Nat.mul_add] at this; omega
  have hxl2 : x * lo ≤ 18446744073709551615 * 18446744073709551615 := Nat.mul_le_mul (by omega) (by omega)
  unfold us
  simp only
  generalize x * hi / 18446744073709551616 = H at *
  generalize x * hi % 18446744073709551616 = M at *
  generalize x * lo / 18446744073709551616 = m at *
  generalize x * lo % 18446744073709551616 = r at *
  generalize x * hi = XH at *
  generalize x * lo = XL at *
  have hq := Nat.div_add_mod H (2 ^ s)
  have hh := Nat.mod_lt H hS
  have hqm : 2 ^ s * (H / 2 ^ s) = H / 2 ^ s * 2 ^ s := Nat.mul_comm _ _
  generalize hqd : H / 2 ^ s = q at *
  generalize H % 2 ^ s = h at *
  generalize hSd : 2 ^ s = S at *
  have hqT : ∀ a : Nat, a * (S * 340282366920938463463374607431768211456) = a * S * 340282366920938463463374607431768211456 := fun a => by ac_rfl
  by_cases hz : q * S = H
  · rw [if_pos hz]
    by_cases hw : M < m
    · -- the product is a little less
      have hH1 : 1 ≤ H := by omega
      have hq1 : 1 ≤ q := by
        rcases Nat.eq_zero_or_pos q with h | h
        · subst h; omega
        · exact h
      obtain ⟨t, rfl⟩ : ∃ t, q = t + 1 := ⟨q - 1, by omega⟩
      have hW : 1 < (M + 18446744073709551616 - m) % 18446744073709551616 := by omega
      rw [if_pos hw, if_pos hW]
      have e1 : (H - 1) / S = t := by
        rw [Nat.div_eq_iff hS]
        rw [Nat.add_mul] at hz
        omega
      rw [e1]
      refine (cutq_between (q := t) (gt_dn hb ?_) (lt_up ha ?_ hD)).symm
      · rw [hqT]; rw [Nat.add_mul] at hz; omega
      · rw [hqT, hz]; omega
    · rw [if_neg hw, Nat.sub_zero, hqd]
      by_cases hW : 1 < (M + 18446744073709551616 - m) % 18446744073709551616
      · rw [if_pos hW]
        have hw2 : m + 2 ≤ M := by omega
        refine (cutq_between (q := q) (gt_dn hb ?_) (lt_up ha ?_ hD)).symm
        · rw [hqT, hz]; omega
        · rw [hqT, Nat.add_mul, hz]; omega
      · rw [if_neg hW]
        have hw2 : M < m + 2 := by omega
        refine (cutq_exact hD (near q (near_step ?_))).symm
        -- the distance
        have hZ1 : Z ≤ H * 340282366920938463463374607431768211456 + 18446744073709551616 := by omega
        have hZ2 : H * 340282366920938463463374607431768211456 ≤ Z + 18446744073709551616 := by omega
        have b1 := Nat.mul_le_mul_right D hZ1
        have b2 := Nat.mul_le_mul_right D hZ2
        rw [Nat.add_mul] at b1 b2
        have hxD : x * D < 18446744073709551616 * D := Nat.mul_lt_mul_of_pos_right hx hD
        have eT : q * D * (S * 340282366920938463463374607431768211456) = H * 340282366920938463463374607431768211456 * D := by
          rw [← hz]; ac_rfl
        have hdist : dist N (q * D) * (S * 340282366920938463463374607431768211456) = dist (N * (S * 340282366920938463463374607431768211456)) (q * D * (S * 340282366920938463463374607431768211456)) := by
          unfold dist
          rw [Nat.add_mul, Nat.sub_mul, Nat.sub_mul]
        rw [hdist, eT]
        unfold dist
        generalize N * (S * 340282366920938463463374607431768211456) = NT at *
        generalize H * 340282366920938463463374607431768211456 * D = HD at *
        omega
  · rw [if_neg hz]
    have hh1 : 1 ≤ h := by omega
    refine (cutq_between (q := q) (gt_dn hb ?_) (lt_up ha ?_ hD)).symm
    · rw [hqT]; omega
    · rw [hqT, Nat.add_mul, Nat.one_mul]; omega
end Go.Proofs.YtgjfjbghdpcllaaGreatDoor.U
/- What strconv's uscale gives of a float's bits, by the table: the law of U2 at each power of two. Plain: no program in sight. -/
namespace Go.Proofs.YtgjfjbghdpcllaaGreatDoor.U

theorem dist_zero {a b : Nat} (h : dist a b = 0) : a = b := by unfold dist at h; omega
theorem dist_tri (y A B a b n : Nat) : dist (y * a) (n * b) * B ≤ dist (y * A) (n * B) * b + y * dist (A * b) (a * B) := by
  unfold dist
  rw [Nat.add_mul, Nat.add_mul, Nat.mul_add, Nat.sub_mul, Nat.sub_mul, Nat.sub_mul, Nat.sub_mul, Nat.mul_sub, Nat.mul_sub]
  have e1 : y * a * B = y * (a * B) := by ac_rfl
  have e2 : y * A * b = y * (A * b) := by ac_rfl
  have e3 : n * b * B = n * B * b := by ac_rfl
  rw [e1, e2, e3]
  omega
/-- By a fraction near by, in lowest terms: no multiple comes nearer to a whole number. -/
theorem near_of (A B a b W y n : Nat) (hg : Nat.gcd a b = 1) (hb : 2 ^ 53 ≤ b) (hc : b * B + 2 ^ 53 * dist (A * b) (a * B) * W ≤ B * W) (hy0 : 0 < y) (hy : y < 2 ^ 53)
    (h : dist (y * A) (n * B) * W < B) : y * A = n * B := by
  exfalso
  have hne : dist (y * a) (n * b) ≠ 0 := by
    intro h0
    have h1 := dist_zero h0
    have hd : b ∣ y * a := ⟨n, by rw [h1, Nat.mul_comm]⟩
    have hcop : Nat.Coprime b a := by rw [Nat.coprime_comm]; exact hg
    have h2 : b ∣ y := hcop.dvd_of_dvd_mul_right hd
    have := Nat.le_of_dvd hy0 h2
    omega
  have ht := dist_tri y A B a b n
  have h1 : 1 * B ≤ dist (y * a) (n * b) * B := Nat.mul_le_mul_right B (by omega)
  have h2 : y * dist (A * b) (a * B) ≤ 2 ^ 53 * dist (A * b) (a * B) := Nat.mul_le_mul_right _ (Nat.le_of_lt hy)
  have h3 : (1 * B) * W ≤ (dist (y * A) (n * B) * b + 2 ^ 53 * dist (A * b) (a * B)) * W := Nat.mul_le_mul_right W (by omega)
  rw [Nat.add_mul, Nat.one_mul] at h3
  have h4 : dist (y * A) (n * B) * b * W < b * B := by
    have e : dist (y * A) (n * B) * b * W = b * (dist (y * A) (n * B) * W) := by ac_rfl
    rw [e]
    exact Nat.mul_lt_mul_of_pos_left h (by omega)
  omega
theorem be_pos (E : Int) : 0 < be E := Nat.mul_pos (Nat.pow_pos (by omega)) (Nat.pow_pos (by omega))
theorem near_at (E : Int) (h0 : -1074 ≤ E) (h1 : E < 1024) (y n : Nat) (hy0 : 0 < y) (hy : y < 2 ^ 53)
    (h : dist (y * al E) (n * be E) * (2 ^ (sh E).toNat * 9223372036854775808) < be E) : y * al E = n * be E := by
  have hc := chk_at E h0 h1
  unfold chk at hc
  simp only [Bool.and_eq_true] at hc
  have hn := hc.1.1.2
  have eW : 2 ^ (63 + (sh E).toNat) = 2 ^ (sh E).toNat * 9223372036854775808 := by rw [Nat.pow_add, Nat.mul_comm]
  unfold chkNear at hn
  simp only [eW, Bool.or_eq_true, decide_eq_true_eq] at hn
  generalize 2 ^ (sh E).toNat * 9223372036854775808 = W at *
  have hB := be_pos E
  rcases hn with hn | ⟨hg, hb, hc⟩
  · refine dist_zero ?_
    rcases Nat.eq_zero_or_pos (dist (y * al E) (n * be E)) with h2 | h2
    · exact h2
    · exfalso
      have : 1 * W ≤ dist (y * al E) (n * be E) * W := Nat.mul_le_mul_right W h2
      omega
  · exact near_of _ _ _ _ W y n hg hb hc hy0 hy h
theorem tab_at (E : Int) (h0 : -1074 ≤ E) (h1 : E < 1024) : (row (pw E)).1 < 18446744073709551616 ∧ (row (pw E)).2 < 18446744073709551616 ∧ (row (pw E)).2 ≤ (row (pw E)).1 * 18446744073709551616
    ∧ 10 ^ (pw E).toNat * 2 ^ (127 - lp (pw E)).toNat ≤ pm (pw E) * (10 ^ (-(pw E)).toNat * 2 ^ (-(127 - lp (pw E))).toNat)
    ∧ pm (pw E) * (10 ^ (-(pw E)).toNat * 2 ^ (-(127 - lp (pw E))).toNat) < 10 ^ (pw E).toNat * 2 ^ (127 - lp (pw E)).toNat + 10 ^ (-(pw E)).toNat * 2 ^ (-(127 - lp (pw E))).toNat := by
  have hc := chk_at E h0 h1
  unfold chk at hc
  simp only [Bool.and_eq_true] at hc
  have ht := hc.1.1.1
  unfold chkTab at ht
  simpa only [decide_eq_true_eq] using ht
theorem sh_at (E : Int) (h0 : -1074 ≤ E) (h1 : E < 1024) : 36 ≤ sh E ∧ sh E ≤ 42 := by
  have hc := chk_at E h0 h1
  unfold chk at hc
  simp only [Bool.and_eq_true, decide_eq_true_eq] at hc
  exact hc.2
theorem lg_at (E : Int) (h0 : -1074 ≤ E) (h1 : E < 1024) : 10 ^ (lg E).toNat * 2 ^ (-E).toNat ≤ 2 ^ E.toNat * 10 ^ (-(lg E)).toNat ∧ 2 ^ E.toNat * 10 ^ (-(lg E + 1)).toNat < 10 ^ (lg E + 1).toNat * 2 ^ (-E).toNat := by
  have hc := chk_at E h0 h1
  unfold chk at hc
  simp only [Bool.and_eq_true] at hc
  have hl := hc.1.2
  unfold chkLg at hl
  simpa only [decide_eq_true_eq] using hl
/-- uscale of a float's bits: 4 · y · 2^11 · 2^(E-63) · 10^p, cut. -/
theorem us_at (E : Int) (h0 : -1074 ≤ E) (h1 : E < 1024) (y : Nat) (hy0 : 0 < y) (hy : y < 2 ^ 53) :
    us (y * 2048) (row (pw E)).1 (row (pw E)).2 (sh E).toNat = cutq (y * al E) (be E) := by
  obtain ⟨t1, t2, t3, t4, t5⟩ := tab_at E h0 h1
  have hs := sh_at E h0 h1
  have hpm : pm (pw E) + (row (pw E)).2 = (row (pw E)).1 * 18446744073709551616 := by unfold pm; omega
  have hx0 : 0 < y * 2048 := by omega
  have hD := be_pos E
  -- the exact product
  have key : y * al E * (2 ^ (sh E).toNat * 340282366920938463463374607431768211456) * (10 ^ (-(pw E)).toNat * 2 ^ (-(127 - lp (pw E))).toNat) = y * 2048 * (10 ^ (pw E).toNat * 2 ^ (127 - lp (pw E)).toNat) * be E := by
    unfold al be
    have e2 : 2 ^ (E - 50).toNat * 2 ^ (sh E).toNat * 340282366920938463463374607431768211456 * 2 ^ (-(127 - lp (pw E))).toNat = 2048 * 2 ^ (127 - lp (pw E)).toNat * 2 ^ (50 - E).toNat := by
      rw [show (340282366920938463463374607431768211456 : Nat) = 2 ^ 128 from rfl, show (2048 : Nat) = 2 ^ 11 from rfl]
      simp only [← Nat.pow_add]
      congr 1
      unfold sh at hs ⊢
      omega
    have e3 : y * (2 ^ (E - 50).toNat * 10 ^ (pw E).toNat) * (2 ^ (sh E).toNat * 340282366920938463463374607431768211456) * (10 ^ (-(pw E)).toNat * 2 ^ (-(127 - lp (pw E))).toNat)
        = (2 ^ (E - 50).toNat * 2 ^ (sh E).toNat * 340282366920938463463374607431768211456 * 2 ^ (-(127 - lp (pw E))).toNat) * (y * 10 ^ (pw E).toNat * 10 ^ (-(pw E)).toNat) := by ac_rfl
    rw [e3, e2]
    ac_rfl
  have hd : 0 < 10 ^ (-(pw E)).toNat * 2 ^ (-(127 - lp (pw E))).toNat := Nat.mul_pos (Nat.pow_pos (by omega)) (Nat.pow_pos (by omega))
  generalize hn : 10 ^ (pw E).toNat * 2 ^ (127 - lp (pw E)).toNat = n at *
  generalize hdd : 10 ^ (-(pw E)).toNat * 2 ^ (-(127 - lp (pw E))).toNat = d at *
  refine us_law (y * 2048) (row (pw E)).1 (row (pw E)).2 (sh E).toNat (y * al E) (be E) (y * 2048 * pm (pw E)) hx0 (by omega) t2 hD ?_ ?_ ?_ (fun q h => near_at E h0 h1 y q hy0 hy h)
  · rw [← Nat.mul_add, hpm]; ac_rfl
  · have : y * al E * (2 ^ (sh E).toNat * 340282366920938463463374607431768211456) * d ≤ y * 2048 * pm (pw E) * be E * d := by
      rw [key]
      have e : y * 2048 * pm (pw E) * be E * d = y * 2048 * (pm (pw E) * d) * be E := by ac_rfl
      rw [e]
      exact Nat.mul_le_mul_right _ (Nat.mul_le_mul_left _ t4)
    exact Nat.le_of_mul_le_mul_right this hd
  · have : y * 2048 * pm (pw E) * be E * d < (y * al E * (2 ^ (sh E).toNat * 340282366920938463463374607431768211456) + y * 2048 * be E) * d := by
      rw [Nat.add_mul, key]
      have e : y * 2048 * pm (pw E) * be E * d = y * 2048 * (pm (pw E) * d) * be E := by ac_rfl
      have e2 : y * 2048 * be E * d = y * 2048 * d * be E := by ac_rfl
      rw [e, e2, ← Nat.add_mul, ← Nat.mul_add]
      exact Nat.mul_lt_mul_of_pos_right (Nat.mul_lt_mul_of_pos_left t5 hx0) hD
    exact Nat.lt_of_mul_lt_mul_right this
end Go.Proofs.YtgjfjbghdpcllaaGreatDoor.U
/- Seven digits of a float: strconv's fixedWidthFloat and spec's Powered choose the same. Plain: no program in sight. -/
namespace Go.Proofs.YtgjfjbghdpcllaaGreatDoor.U
open Go.Proofs.YtgjfjbghdpcllaaGreatDoor.I (nr)

theorem or_one (t : Nat) : t ||| 1 = if t % 2 = 0 then t + 1 else t := by
  have h := Nat.div_add_mod t 2
  rcases Nat.mod_two_eq_zero_or_one t with h0 | h0
  · rw [if_pos h0]
    have : t = 2 ^ 1 * (t / 2) := by omega
    conv => lhs; rw [this, ← Nat.two_pow_add_eq_or_of_lt (show 1 < 2 ^ 1 by decide)]
    omega
  · rw [if_neg (by omega)]
    apply Nat.eq_of_testBit_eq
    intro i
    rw [Nat.testBit_or]
    match i with
    | 0 => simp [Nat.testBit_zero, h0]
    | i + 1 => simp [Nat.testBit_succ]
theorem cutq_is (N D : Nat) : cutq N D = if N % D = 0 then N / D else if N / D % 2 = 0 then N / D + 1 else N / D := by
  unfold cutq
  by_cases h : N % D = 0
  · rw [if_pos h, if_pos h, Nat.or_zero]
  · rw [if_neg h, if_neg h, or_one]
/-- strconv's round. -/
def rnd (u : Nat) : Nat := (u + 1 + u / 4 % 2) / 4
/-- strconv's div by ten. -/
def dv (u : Nat) : Nat := (u / 10 ||| u % 2) ||| (if u % 10 = 0 then 0 else 1)
theorem rnd_cutq (N D : Nat) (hD : 0 < D) : rnd (cutq N D) = nr N (4 * D) := by
  have h1 := Nat.div_add_mod N D
  have h2 := Nat.mod_lt N hD
  have h3 := Nat.div_add_mod (N / D) 4
  have eq1 : N / (4 * D) = N / D / 4 := by rw [Nat.mul_comm, Nat.div_div_eq_div_mul]
  have er : N % (4 * D) = N / D % 4 * D + N % D := by rw [Nat.mul_comm 4 D, Nat.mod_mul, Nat.add_comm, Nat.mul_comm D]
  unfold rnd nr
  rw [cutq_is, eq1, er]
  generalize N / D = t at *
  generalize N % D = r at *
  have h4 : t % 4 < 4 := Nat.mod_lt _ (by omega)
  generalize ht : t % 4 = a at *
  have ha : a = 0 ∨ a = 1 ∨ a = 2 ∨ a = 3 := by omega
  by_cases hr : r = 0
  · rw [if_pos hr]
    rcases ha with rfl | rfl | rfl | rfl
    · rw [if_neg (by omega)]; omega
    · rw [if_neg (by omega)]; omega
    · by_cases ho : t / 4 % 2 = 1
      · rw [if_pos (Or.inr ⟨by omega, ho⟩)]; omega
      · rw [if_neg (by omega)]; omega
    · rw [if_pos (Or.inl (by omega))]; omega
  · rw [if_neg hr]
    rcases ha with rfl | rfl | rfl | rfl
    · rw [if_pos (by omega), if_neg (by omega)]; omega
    · rw [if_neg (by omega), if_neg (by omega)]; omega
    · rw [if_pos (by omega), if_pos (Or.inl (by omega))]; omega
    · rw [if_neg (by omega), if_pos (Or.inl (by omega))]; omega
theorem dv_cutq (N D : Nat) : dv (cutq N D) = cutq N (10 * D) := by
  have eq1 : N / (10 * D) = N / D / 10 := by rw [Nat.mul_comm, Nat.div_div_eq_div_mul]
  have er : N % (10 * D) = N / D % 10 * D + N % D := by rw [Nat.mul_comm 10 D, Nat.mod_mul, Nat.add_comm, Nat.mul_comm D]
  have or_bit : ∀ a b : Nat, (b = 0 ∨ b = 1) → a ||| b = if b = 0 then a else a ||| 1 := by
    intro a b h
    rcases h with rfl | rfl
    · rw [if_pos rfl, Nat.or_zero]
    · rw [if_neg (by omega)]
  have orr : ∀ a : Nat, (a ||| 1) ||| 1 = a ||| 1 := fun a => by rw [Nat.or_assoc]; rfl
  unfold dv
  have fin : ∀ u : Nat, (u / 10 ||| u % 2) ||| (if u % 10 = 0 then 0 else 1) = if u % 10 = 0 then u / 10 else u / 10 ||| 1 := by
    intro u
    by_cases h : u % 10 = 0
    · have : u % 2 = 0 := by omega
      rw [if_pos h, if_pos h, this, Nat.or_zero, Nat.or_zero]
    · rw [if_neg h, if_neg h, or_bit (u / 10) (u % 2) (by omega)]
      split
      · rfl
      · exact orr _
  rw [fin]
  unfold cutq
  rw [eq1, er]
  by_cases hr : N % D = 0
  · rw [if_pos hr, hr, Nat.or_zero, Nat.add_zero]
    rcases Nat.eq_zero_or_pos D with hD | hD
    · subst hD; simp
    · by_cases ht : N / D % 10 = 0
      · rw [if_pos ht, ht, if_pos (by omega), Nat.or_zero]
      · rw [if_neg ht, if_neg (by
          intro h
          rcases Nat.mul_eq_zero.1 h with h | h <;> omega)]
  · rw [if_neg hr, or_one]
    have hs : ¬ (N / D % 10 * D + N % D = 0) := by omega
    rw [if_neg hs]
    by_cases h : N / D % 2 = 0
    · have e : (N / D + 1) / 10 = N / D / 10 := by omega
      rw [if_pos h, if_neg (by omega), e]
    · rw [if_neg h, if_neg (by omega)]
theorem rnd_ge (u B : Nat) (hB : B % 2 = 0) (hB0 : 0 < B) : 4 * B - 2 ≤ u ↔ B ≤ rnd u := by
  unfold rnd
  have h1 := Nat.div_add_mod u 4
  have h2 := Nat.mod_lt u (show 0 < 4 by omega)
  generalize u / 4 = q at *
  generalize u % 4 = r at *
  obtain ⟨b, rfl⟩ : ∃ b, B = 2 * b := ⟨B / 2, by omega⟩
  rcases Nat.lt_trichotomy q (2 * b - 1) with h | h | h
  · constructor <;> intro h' <;> omega
  · have : q % 2 = 1 := by omega
    rw [this]
    constructor <;> intro h' <;> omega
  · constructor <;> intro h' <;> omega
end Go.Proofs.YtgjfjbghdpcllaaGreatDoor.U
/- Seven digits of a float and its decimal exponent: what spec reckons is what strconv reckons. Plain: no program in sight. -/
namespace Go.Proofs.YtgjfjbghdpcllaaGreatDoor.U
open Go.Proofs.YtgjfjbghdpcllaaGreatDoor.I (nr)

theorem nr_scale (a b c : Nat) (hc : 0 < c) : nr (a * c) (b * c) = nr a b := by
  unfold nr
  rw [Nat.mul_div_mul_right _ _ hc, Nat.mul_mod_mul_right]
  have e : 2 * (a % b * c) = 2 * (a % b) * c := by rw [Nat.mul_assoc]
  rw [e]
  have h1 : b * c < 2 * (a % b) * c ↔ b < 2 * (a % b) := Nat.mul_lt_mul_right hc
  have h2 : 2 * (a % b) * c = b * c ↔ 2 * (a % b) = b := Nat.mul_left_inj (by omega)
  simp only [h1, h2]
theorem nr_ratio {a b c d : Nat} (hb : 0 < b) (hd : 0 < d) (h : a * d = c * b) : nr a b = nr c d := by
  rw [← nr_scale a b d hd, ← nr_scale c d b hb, h, Nat.mul_comm b d]
theorem nr_le {a b c : Nat} (hb : 0 < b) (h : a ≤ c * b) : nr a b ≤ c := by
  have h1 := Nat.div_add_mod a b
  have h2 := Nat.mod_lt a hb
  unfold nr
  rcases Nat.lt_or_ge (a / b) c with h3 | h3
  · split <;> omega
  · have h4 : c * b ≤ a / b * b := Nat.mul_le_mul_right b h3
    rw [Nat.mul_comm b] at h1
    have h5 : a % b = 0 := by omega
    rw [h5, if_neg (by omega)]
    have h6 : a / b * b = c * b := by omega
    exact Nat.le_of_eq (Nat.eq_of_mul_eq_mul_right hb h6)
theorem nr_ge {a b c : Nat} (hb : 0 < b) (h : 2 * c * b < 2 * a + b) : c ≤ nr a b := by
  have h1 := Nat.div_add_mod a b
  have h2 := Nat.mod_lt a hb
  unfold nr
  rcases Nat.lt_or_ge (a / b) c with h3 | h3
  · rcases Nat.lt_or_ge (a / b + 1) c with h4 | h4
    · have h5 := Nat.mul_le_mul_right b (show a / b + 2 ≤ c from h4)
      have e : 2 * c * b = 2 * (c * b) := Nat.mul_assoc _ _ _
      rw [Nat.add_mul, Nat.mul_comm (a / b)] at h5
      omega
    · have h5 : c = a / b + 1 := by omega
      have e : 2 * c * b = 2 * (b * (a / b)) + 2 * b := by rw [h5, Nat.mul_assoc, Nat.add_mul, Nat.mul_comm b]; omega
      rw [if_pos (Or.inl (by omega))]; omega
  · split <;> omega
theorem nr_le' {a b c : Nat} (hb : 0 < b) (h : nr a b ≥ c) : 2 * c * b ≤ 2 * a + b := by
  have h1 := Nat.div_add_mod a b
  have h2 := Nat.mod_lt a hb
  unfold nr at h
  have e : 2 * c * b = 2 * (c * b) := Nat.mul_assoc _ _ _
  split at h
  · rename_i h3
    have h5 := Nat.mul_le_mul_right b (show c ≤ a / b + 1 from h)
    rw [Nat.add_mul, Nat.mul_comm (a / b)] at h5
    omega
  · have h5 := Nat.mul_le_mul_right b (show c ≤ a / b from h)
    rw [Nat.mul_comm (a / b)] at h5
    omega

/-- spec's scaled, by parts. -/
def sc (m : Nat) (q n : Int) : Nat := nr (m * 2 ^ q.toNat * 10 ^ n.toNat) (2 ^ (-q).toNat * 10 ^ (-n).toNat)
/-- spec's question in leading: 10 to the n-th isn't above. -/
def ge (m : Nat) (q n : Int) : Prop := 2 ^ (-q).toNat * 10 ^ n.toNat ≤ m * 2 ^ q.toNat * 10 ^ (-n).toNat
theorem p2 {a b c d : Nat} (h : a + b = c + d) : 2 ^ a * 2 ^ b = 2 ^ c * 2 ^ d := by rw [← Nat.pow_add, ← Nat.pow_add, h]
theorem p10 {a b c d : Nat} (h : a + b = c + d) : 10 ^ a * 10 ^ b = 10 ^ c * 10 ^ d := by rw [← Nat.pow_add, ← Nat.pow_add, h]
theorem sc_is (m k : Nat) (E q : Int) (hq : q = E - 52 + k) : sc m q (6 - lg E) = rnd (cutq (m * 2 ^ k * al E) (be E)) := by
  rw [rnd_cutq _ _ (be_pos E)]
  refine nr_ratio (Nat.mul_pos (Nat.pow_pos (by omega)) (Nat.pow_pos (by omega))) (by have := be_pos E; omega) ?_
  unfold al be pw
  have e2 : 2 ^ q.toNat * 2 ^ (50 - E).toNat * 4 = 2 ^ k * 2 ^ (E - 50).toNat * 2 ^ (-q).toNat := by
    rw [show (4 : Nat) = 2 ^ 2 from rfl]
    simp only [← Nat.pow_add]
    congr 1; omega
  have e3 : m * 2 ^ q.toNat * 10 ^ (6 - lg E).toNat * (4 * (2 ^ (50 - E).toNat * 10 ^ (-(6 - lg E)).toNat)) = m * 10 ^ (6 - lg E).toNat * 10 ^ (-(6 - lg E)).toNat * (2 ^ q.toNat * 2 ^ (50 - E).toNat * 4) := by ac_rfl
  rw [e3, e2]
  ac_rfl
theorem sc_is10 (m k : Nat) (E q : Int) (hq : q = E - 52 + k) : sc m q (5 - lg E) = rnd (dv (cutq (m * 2 ^ k * al E) (be E))) := by
  have hb := be_pos E
  rw [dv_cutq, rnd_cutq _ _ (by omega)]
  refine nr_ratio (Nat.mul_pos (Nat.pow_pos (by omega)) (Nat.pow_pos (by omega))) (by omega) ?_
  unfold al be pw
  have e2 : 2 ^ q.toNat * 2 ^ (50 - E).toNat * 4 = 2 ^ k * 2 ^ (E - 50).toNat * 2 ^ (-q).toNat := by
    rw [show (4 : Nat) = 2 ^ 2 from rfl]
    simp only [← Nat.pow_add]
    congr 1; omega
  have e10 : 10 ^ (5 - lg E).toNat * 10 ^ (-(6 - lg E)).toNat * 10 = 10 ^ (6 - lg E).toNat * 10 ^ (-(5 - lg E)).toNat := by
    rw [← Nat.pow_add, ← Nat.pow_succ, ← Nat.pow_add]
    congr 1; omega
  have e3 : m * 2 ^ q.toNat * 10 ^ (5 - lg E).toNat * (4 * (10 * (2 ^ (50 - E).toNat * 10 ^ (-(6 - lg E)).toNat))) = m * (10 ^ (5 - lg E).toNat * 10 ^ (-(6 - lg E)).toNat * 10) * (2 ^ q.toNat * 2 ^ (50 - E).toNat * 4) := by ac_rfl
  rw [e3, e2, e10]
  ac_rfl
/-- 10 to the n-th, and the float, times 2 to the P-th and 10 to the R-th. -/
def T (P R : Nat) (n : Int) : Nat := 2 ^ P * 10 ^ (n + R).toNat
def Fv (P R m : Nat) (q : Int) : Nat := m * 2 ^ (q + P).toNat * 10 ^ R
theorem T_pos (P R : Nat) (n : Int) : 0 < T P R n := Nat.mul_pos (Nat.pow_pos (by omega)) (Nat.pow_pos (by omega))
theorem T_succ (P R : Nat) (n : Int) (h : -(R : Int) ≤ n) : T P R (n + 1) = 10 * T P R n := by
  unfold T
  rw [show (n + 1 + R).toNat = (n + R).toNat + 1 by omega, Nat.pow_succ]
  ac_rfl
theorem ge_iff (P R m : Nat) (q n : Int) (hq : -(P : Int) ≤ q) (hn : -(R : Int) ≤ n) : ge m q n ↔ T P R n ≤ Fv P R m q := by
  unfold ge
  have hc : 0 < 2 ^ (P - (-q).toNat) * 10 ^ (R - (-n).toNat) := Nat.mul_pos (Nat.pow_pos (by omega)) (Nat.pow_pos (by omega))
  rw [← Nat.mul_le_mul_right_iff hc]
  have e1 : 2 ^ (-q).toNat * 10 ^ n.toNat * (2 ^ (P - (-q).toNat) * 10 ^ (R - (-n).toNat)) = T P R n := by
    unfold T
    have a1 : 2 ^ (-q).toNat * 2 ^ (P - (-q).toNat) = 2 ^ P := by rw [← Nat.pow_add]; congr 1; omega
    have a2 : 10 ^ n.toNat * 10 ^ (R - (-n).toNat) = 10 ^ (n + R).toNat := by rw [← Nat.pow_add]; congr 1; omega
    rw [← a1, ← a2]; ac_rfl
  have e2 : m * 2 ^ q.toNat * 10 ^ (-n).toNat * (2 ^ (P - (-q).toNat) * 10 ^ (R - (-n).toNat)) = Fv P R m q := by
    unfold Fv
    have a1 : 2 ^ q.toNat * 2 ^ (P - (-q).toNat) = 2 ^ (q + P).toNat := by rw [← Nat.pow_add]; congr 1; omega
    have a2 : 10 ^ (-n).toNat * 10 ^ (R - (-n).toNat) = 10 ^ R := by rw [← Nat.pow_add]; congr 1; omega
    rw [← a1, ← a2]; ac_rfl
  rw [e1, e2]
/-- A float of the E-th power of two lies between 10^L and 2·10^(L+1). -/
theorem fl_bounds (P R m k : Nat) (E q : Int) (h0 : -1074 ≤ E) (h1 : E < 1024) (hq : q = E - 52 + k) (hP : -(P : Int) ≤ q ∧ -(P : Int) ≤ E - 52) (hR : 400 ≤ R) (hL : -324 ≤ lg E)
    (hy0 : 2 ^ 52 ≤ m * 2 ^ k) (hy1 : m * 2 ^ k < 2 ^ 53) : T P R (lg E) ≤ Fv P R m q ∧ Fv P R m q < 2 * T P R (lg E + 1) := by
  obtain ⟨a, b⟩ := lg_at E h0 h1
  have hF : Fv P R m q = m * 2 ^ k * 2 ^ (E - 52 + P).toNat * 10 ^ R := by
    unfold Fv
    rw [show (q + P).toNat = k + (E - 52 + P).toNat by omega, Nat.pow_add]; ac_rfl
  have hE52 : 2 ^ 52 * 2 ^ (E - 52 + P).toNat * 10 ^ R = 2 ^ E.toNat * 2 ^ (P - (-E).toNat) * 10 ^ R := by
    rw [← Nat.pow_add, ← Nat.pow_add]; congr 2; omega
  constructor
  · have h2 : 2 ^ 52 * 2 ^ (E - 52 + P).toNat * 10 ^ R ≤ Fv P R m q := by
      rw [hF]; exact Nat.mul_le_mul_right _ (Nat.mul_le_mul_right _ hy0)
    refine Nat.le_trans ?_ h2
    rw [hE52]
    have h3 := Nat.mul_le_mul_right (2 ^ (P - (-E).toNat) * 10 ^ (R - (-(lg E)).toNat)) a
    have e1 : 10 ^ (lg E).toNat * 2 ^ (-E).toNat * (2 ^ (P - (-E).toNat) * 10 ^ (R - (-(lg E)).toNat)) = T P R (lg E) := by
      unfold T
      have a1 : 2 ^ (-E).toNat * 2 ^ (P - (-E).toNat) = 2 ^ P := by rw [← Nat.pow_add]; congr 1; omega
      have a2 : 10 ^ (lg E).toNat * 10 ^ (R - (-(lg E)).toNat) = 10 ^ (lg E + R).toNat := by rw [← Nat.pow_add]; congr 1; omega
      rw [← a1, ← a2]; ac_rfl
    have e2 : 2 ^ E.toNat * 10 ^ (-(lg E)).toNat * (2 ^ (P - (-E).toNat) * 10 ^ (R - (-(lg E)).toNat)) = 2 ^ E.toNat * 2 ^ (P - (-E).toNat) * 10 ^ R := by
      have a2 : 10 ^ (-(lg E)).toNat * 10 ^ (R - (-(lg E)).toNat) = 10 ^ R := by rw [← Nat.pow_add]; congr 1; omega
      rw [← a2]; ac_rfl
    rw [e1, e2] at h3
    exact h3
  · have hpos : 0 < 2 ^ (E - 52 + P).toNat * 10 ^ R := Nat.mul_pos (Nat.pow_pos (by omega)) (Nat.pow_pos (by omega))
    have h2 : Fv P R m q < 2 * (2 ^ 52 * 2 ^ (E - 52 + P).toNat * 10 ^ R) := by
      rw [hF]
      have := Nat.mul_lt_mul_of_pos_right hy1 hpos
      have e : 2 * (2 ^ 52 * 2 ^ (E - 52 + P).toNat * 10 ^ R) = 2 ^ 53 * (2 ^ (E - 52 + P).toNat * 10 ^ R) := by rw [Nat.pow_succ 2 52]; ac_rfl
      rw [e, Nat.mul_assoc (m * 2 ^ k)]; exact this
    refine Nat.lt_of_lt_of_le h2 (Nat.mul_le_mul_left 2 ?_)
    rw [hE52]
    have h3 := Nat.mul_le_mul_right (2 ^ (P - (-E).toNat) * 10 ^ (R - (-(lg E + 1)).toNat)) (Nat.le_of_lt b)
    have e1 : 10 ^ (lg E + 1).toNat * 2 ^ (-E).toNat * (2 ^ (P - (-E).toNat) * 10 ^ (R - (-(lg E + 1)).toNat)) = T P R (lg E + 1) := by
      unfold T
      have a1 : 2 ^ (-E).toNat * 2 ^ (P - (-E).toNat) = 2 ^ P := by rw [← Nat.pow_add]; congr 1; omega
      have a2 : 10 ^ (lg E + 1).toNat * 10 ^ (R - (-(lg E + 1)).toNat) = 10 ^ (lg E + 1 + R).toNat := by rw [← Nat.pow_add]; congr 1; omega
      rw [← a1, ← a2]; ac_rfl
    have e2 : 2 ^ E.toNat * 10 ^ (-(lg E + 1)).toNat * (2 ^ (P - (-E).toNat) * 10 ^ (R - (-(lg E + 1)).toNat)) = 2 ^ E.toNat * 2 ^ (P - (-E).toNat) * 10 ^ R := by
      have a2 : 10 ^ (-(lg E + 1)).toNat * 10 ^ (R - (-(lg E + 1)).toNat) = 10 ^ R := by rw [← Nat.pow_add]; congr 1; omega
      rw [← a2]; ac_rfl
    rw [e1, e2] at h3
    exact h3
end Go.Proofs.YtgjfjbghdpcllaaGreatDoor.U
