/- Which words of a float are finite: what the program's comparisons say of them. Plain: no program in sight. -/
import Ieee.Arith
import Derived.Laws.BitsAllLaws
import Derived.RowKit
namespace Go.Proofs.YtgjfjbghdpcllaaGreatDoor.U
open Go Go.RowKit

/-- The word stands for a number. -/
def Finite (b : Nat) : Prop := b % 9223372036854775808 < 9218868437227405312
instance (b : Nat) : Decidable (Finite b) := inferInstanceAs (Decidable (_ < _))
theorem abs_is (b : Nat) (hb : b < 18446744073709551616) : (bits .andNot .u64 (b : Int) 9223372036854775808).toNat = b % 9223372036854775808 := by
  have h := u64_andNot_nat b 9223372036854775808 hb (by omega)
  have e : ((9223372036854775808 : Nat) : Int) = 9223372036854775808 := rfl
  rw [e] at h
  rw [h, Int.toNat_natCast]
  exact Nat.and_two_pow_sub_one_eq_mod b 63
theorem weight : Ieee.Format.signWeight FloatKind.f64.format = 9223372036854775808 := by decide +kernel
theorem binade : Ieee.Format.binade FloatKind.f64.format = 4503599627370496 := by decide +kernel
theorem infRung : Ieee.Format.infRung FloatKind.f64.format = 9218868437227405312 := by decide +kernel
theorem leastPlace : Ieee.Format.leastPlace FloatKind.f64.format = -1074 := by decide +kernel
theorem read_fin (b : Nat) (h : Finite b) : ∃ s m i, FloatKind.f64.format.read b = .number s m i ∧ m < 9007199254740992 ∧ -1074 ≤ i ∧ i ≤ 971 ∧ s = (b / 9223372036854775808 % 2 == 1) := by
  unfold Finite at h
  unfold Ieee.Format.read
  simp only [weight, binade, infRung, leastPlace]
  by_cases h1 : b % 9223372036854775808 < 4503599627370496
  · rw [if_pos h1]
    exact ⟨_, _, _, rfl, by omega, by omega, by omega, rfl⟩
  · rw [if_neg h1, if_pos h]
    exact ⟨_, _, _, rfl, by omega, by omega, by omega, rfl⟩
theorem read_inf (b : Nat) (h : b % 9223372036854775808 = 9218868437227405312) : FloatKind.f64.format.read b = .infinity (b / 9223372036854775808 % 2 == 1) := by
  unfold Ieee.Format.read
  simp only [weight, binade, infRung, leastPlace]
  rw [if_neg (by omega), if_neg (by omega), if_pos h]
theorem read_nan (b : Nat) (h : 9218868437227405312 < b % 9223372036854775808) : ∃ s k, FloatKind.f64.format.read b = .nan s k := by
  unfold Ieee.Format.read
  simp only [weight, binade, infRung, leastPlace]
  rw [if_neg (by omega), if_neg (by omega), if_neg (by omega)]
  exact ⟨_, _, rfl⟩
theorem read_max : FloatKind.f64.format.read 9218868437227405311 = .number false 9007199254740991 971 := by decide +kernel
theorem order_self (b : Nat) (h : b % 9223372036854775808 ≤ 9218868437227405312) : FloatKind.f64.format.order b b = some .eq := by
  unfold Ieee.Format.order
  rcases Nat.lt_or_ge (b % 9223372036854775808) 9218868437227405312 with h1 | h1
  · obtain ⟨s, m, i, hr, _⟩ := read_fin b h1
    rw [hr]
    show some (compare _ _) = _
    rw [Int.compare_eq_eq.2 rfl]
  · rw [read_inf b (by omega)]
    show some (compare _ _) = _
    rw [Nat.compare_eq_eq.2 rfl]
theorem order_nan (b : Nat) (h : 9218868437227405312 < b % 9223372036854775808) (c : Nat) : FloatKind.f64.format.order b c = none := by
  obtain ⟨s, k, hr⟩ := read_nan b h
  unfold Ieee.Format.order
  rw [hr]
  rfl
theorem order_max (a : Nat) (h : a < 9218868437227405312) : FloatKind.f64.format.order a 9218868437227405311 = some .lt ∨ FloatKind.f64.format.order a 9218868437227405311 = some .eq := by
  obtain ⟨s, m, i, hr, hm, hi0, hi1, hs⟩ := read_fin a (by unfold Finite; omega)
  have hs : s = false := by
    rw [hs]
    have : a / 9223372036854775808 % 2 = 0 := by omega
    rw [this]; rfl
  subst hs
  unfold Ieee.Format.order
  rw [hr, read_max]
  show (some (compare (Ieee.signed false m (i - min i 971).toNat) (Ieee.signed false 9007199254740991 (971 - min i 971).toNat)) = _) ∨ (some (compare (Ieee.signed false m (i - min i 971).toNat) (Ieee.signed false 9007199254740991 (971 - min i 971).toNat)) = _)
  have hmin : min i 971 = i := by omega
  simp only [hmin, Int.sub_self]
  unfold Ieee.signed
  simp only [Bool.false_eq_true, if_false, Int.toNat_zero, Nat.shiftLeft_zero]
  rw [Nat.shiftLeft_eq]
  have h2 : 1 * 9007199254740991 ≤ 9007199254740991 * 2 ^ (971 - i).toNat := by
    rw [Nat.mul_comm]
    exact Nat.mul_le_mul_left _ (Nat.pow_pos (by omega))
  generalize 9007199254740991 * 2 ^ (971 - i).toNat = t at *
  rcases Nat.lt_or_ge m t with h3 | h3
  · left
    rw [Int.compare_eq_lt.2 (by omega)]
  · right
    rw [Int.compare_eq_eq.2 (by omega)]
theorem order_inf : FloatKind.f64.format.order 9218868437227405312 9218868437227405311 = some .gt := by decide +kernel
/-- What IsNaN and IsInf say together. -/
theorem finite_is (b : Nat) : (!(FloatKind.f64.format.order b b != some .eq)) = decide (b % 9223372036854775808 ≤ 9218868437227405312) := by
  by_cases h : b % 9223372036854775808 ≤ 9218868437227405312
  · rw [order_self b h, decide_eq_true h]; rfl
  · rw [order_nan b (by omega), decide_eq_false h]; rfl
theorem le_max_fin (a : Nat) (h : a < 9218868437227405312) : (FloatKind.f64.format.order a 9218868437227405311 == some .lt || FloatKind.f64.format.order a 9218868437227405311 == some .eq) = true := by
  rcases order_max a h with h | h <;> rw [h] <;> rfl
theorem gt_max_fin (a : Nat) (h : a < 9218868437227405312) : (FloatKind.f64.format.order a 9218868437227405311 == some .gt) = false := by
  rcases order_max a h with h | h <;> rw [h] <;> rfl
theorem gt_max_inf : (FloatKind.f64.format.order 9218868437227405312 9218868437227405311 == some .gt) = true := by rw [order_inf]; rfl
end Go.Proofs.YtgjfjbghdpcllaaGreatDoor.U
