/- ftoa64's text at each finite float. -/
import Derived.Test.YtgjfjbghdpcllaaGreatDoorJ3
namespace Go.Proofs.YtgjfjbghdpcllaaGreatDoor
open Go Go.RowKit U I

theorem fw (x y : Nat) (E X e0 q e c : Int) (u d m : Nat) (big : Bool) (w : World) (T : Tab w) (h0 : -1074 ≤ E) (h1 : E < 1024) (hx : x = y * 2048) (hy0 : 2 ^ 52 ≤ y) (hy1 : y < 2 ^ 53) (hu : u = cutq (y * al E) (be E))
    (S : Same m E q u d X e0 big) (he : e = E - 63) (hc : (c == 102) = false) :
    Calls Tryz.prog 65 #[.int .u64 x, .int .i64 e, .int .i64 7, .int .i64 6, .int .u8 c] w fun r w' => r = .returned (.tuple #[.int .u64 d, .int .i64 (X - 6)]) ∧ Below w.heap.size w w' := by
  obtain ⟨k1, k2, k3, k4, k5, k6, k7, k8, k9⟩ := chk2_at E h0 h1
  obtain ⟨t1, t2, _⟩ := tab_at E h0 h1
  have hs := sh_at E h0 h1
  have hus := us_at E h0 h1 y (by omega) hy1
  have hP := T.pow (pw E + 348).toNat (by omega)
  have hrow : Go.Pinned.pow10Rows.getD (pw E + 348).toNat (0, 0) = row (pw E) := rfl
  rw [hrow] at hP
  have hxl : x < 18446744073709551616 := by omega
  have hH : 18446744073709551616 ≤ x * (row (pw E)).1 := by
    have : 9223372036854775808 * 2 ≤ x * (row (pw E)).1 := Nat.mul_le_mul (by omega) k9
    omega
  have U : ∀ (g : Nat) (w : World), w.cell? ⟨g, 0, none⟩ = some (.int .u64 ((row (pw E)).1 : Nat)) → w.cell? ⟨g, 1, none⟩ = some (.int .u64 ((row (pw E)).2 : Nat)) → w.cell? ⟨g, 2, none⟩ = some (.int .i64 ((sh E).toNat : Nat)) →
      Calls Tryz.prog 76 #[.int .u64 x, .pointer (some ⟨g, 0, none⟩)] w fun e w' => e = .returned (.int .u64 u) ∧ ∃ n, w' = w.drewN n := by
    intro g w c0 c1 c2
    have := uscale_any x (row (pw E)).1 (row (pw E)).2 (sh E).toNat g w hxl t1 t2 (by omega) hH c0 c1 c2
    rw [hx, hus, ← hu, ← hx] at this
    exact this
  have hul : u < 18446744073709551616 ∨ u < 39999998 := by
    left
    rw [hu, ← hus]
    unfold us
    have hxh : x * (row (pw E)).1 / 18446744073709551616 < 18446744073709551616 := Nat.div_lt_of_lt_mul (Nat.mul_lt_mul'' hxl t1)
    rw [hx] at hxh
    simp only
    generalize y * 2048 * (row (pw E)).1 / 18446744073709551616 = H at *
    generalize y * 2048 * (row (pw E)).2 / 18446744073709551616 = M2 at *
    generalize y * 2048 * (row (pw E)).1 % 18446744073709551616 = M at *
    have ha : ∀ z, z ≤ H → z / 2 ^ (sh E).toNat < 2 ^ 64 := fun z hz => Nat.lt_of_le_of_lt (Nat.div_le_self _ _) (by omega)
    split
    · exact Nat.or_lt_two_pow (n := 64) (ha _ (Nat.sub_le _ _)) (by split <;> decide)
    · exact Nat.or_lt_two_pow (n := 64) (ha _ (Nat.le_refl _)) (by decide)
  have hE : lg (e + 63) = 6 - pw E := by rw [he, show E - 63 + 63 = E by omega]; unfold pw; omega
  have hsh : -(e + lp (pw E) + 3) = ((sh E).toNat : Int) := by
    rw [Int.toNat_of_nonneg (by omega), he]; unfold sh; rfl
  rcases Nat.lt_or_ge u 39999998 with hlt | hge
  · obtain ⟨rfl, rfl⟩ := S.low hlt
    refine (fwf_lo x (row (pw E)).1 (row (pw E)).2 (sh E).toNat u e (pw E) c w (by omega) (by omega) hc T.size T.ten7 k3 k4 hE hP.1 hP.2 k5 k6 hsh U hlt).mono ?_
    rintro r w' ⟨rfl, hb⟩
    exact ⟨by rw [show -(pw E) = lg E - 6 by unfold pw; omega], hb⟩
  · obtain ⟨rfl, rfl⟩ := S.high hge
    refine (fwf_hi x (row (pw E)).1 (row (pw E)).2 (sh E).toNat u e (pw E) c w (by omega) (by omega) hc T.size T.ten7 k3 k4 hE hP.1 hP.2 k5 k6 hsh U hge (by omega)).mono ?_
    rintro r w' ⟨rfl, hb⟩
    exact ⟨by rw [show -(pw E - 1) = lg E + 1 - 6 by unfold pw; omega], hb⟩
theorem nd (d : Nat) (h0 : 1000000 ≤ d) (h1 : d < 10000000) (w : World) (T : Tab w) : Calls Tryz.prog 63 #[.int .u64 d] w fun e w2 => e = .returned (.int .i64 7) ∧ w = w2 := by
  refine (Tryz.internal_strconv_numDigits d (by omega) (by omega) w T.ten).mono ?_
  rintro e w' ⟨rfl, rfl⟩
  rw [Lib.nDigits_unique 6 d (by omega) (by omega)]
  exact ⟨rfl, rfl⟩
theorem len_call (m : Nat) (h : m < 18446744073709551616) (h0 : 0 < m) (w : World) : Calls Tryz.prog 60 #[.int .u64 m] w fun e w' => e = .returned (.int .i64 (bl m : Nat)) ∧ w = w' := by
  refine (Tryz.bits_Len64 m w (by omega) (by omega)).mono ?_
  rintro e w' ⟨rfl, rfl⟩
  rw [Int.toNat_natCast, bitLen_is m h0 h]
  exact ⟨rfl, rfl⟩
/-- The float's parts, and the shift. -/
theorem mm_lt (b : Nat) : mm b < 2 ^ 53 := by
  unfold mm fr
  split <;> omega
theorem mm_norm (b : Nat) (h : ex b ≠ 0) : bl (mm b) = 53 := by
  have h2 := mm_lt b
  refine bl_unique _ 53 ?_ h2 (by omega)
  unfold mm
  rw [if_neg h]
  omega
/-- The exponent of the leading bit. -/
def EE (b : Nat) : Int := qq b + 52 - ((53 - bl (mm b) : Nat) : Int)
theorem EE_bounds (b : Nat) (hf : Finite b) (h0 : 0 < mm b) : -1074 ≤ EE b ∧ EE b < 1024 ∧ qq b = EE b - 52 + ((53 - bl (mm b) : Nat) : Int) ∧ bl (mm b) ≤ 53 ∧ 1 ≤ bl (mm b) := by
  obtain ⟨a, _, c⟩ := bl_bounds (mm b) h0
  obtain ⟨d, _, _⟩ := shifted (mm b) h0 (mm_lt b)
  have hx := ex_lt b hf
  refine ⟨?_, ?_, by unfold EE; omega, d, c⟩
  · unfold EE qq
    by_cases h : ex b = 0
    · rw [if_pos h]; omega
    · rw [if_neg h, mm_norm b h]; omega
  · unfold EE qq
    by_cases h : ex b = 0
    · rw [if_pos h]; omega
    · rw [if_neg h]; omega
end Go.Proofs.YtgjfjbghdpcllaaGreatDoor
