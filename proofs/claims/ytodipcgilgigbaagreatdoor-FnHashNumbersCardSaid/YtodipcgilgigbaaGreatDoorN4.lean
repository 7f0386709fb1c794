/- Rounding as big.Float does it: by the bit behind the kept ones and by whether any stands behind that; the word that is told at the end. Plain: no program in sight. -/
import Derived.Test.YtodipcgilgigbaaGreatDoorN2
import Derived.Test.YtodipcgilgigbaaGreatDoorN3
namespace Go.Proofs.YtodipcgilgigbaaGreatDoor.V
open Go Go.Proofs.YtodipcgilgigbaaGreatDoor.I

theorem ev_shift (n p s : Nat) : ev (n * 2 ^ s) (p + s) = ev n p := by
  unfold ev
  have hs : 0 < 2 ^ s := Nat.two_pow_pos s
  rw [Nat.pow_add, Nat.mul_div_mul_right _ _ hs, Nat.mul_mod_mul_right]
  generalize 2 ^ s = S at *
  generalize n % 2 ^ p = r
  generalize 2 ^ p = P
  congr 1
  have e1 : (P * S < 2 * (r * S)) ↔ (P < 2 * r) := by
    rw [← Nat.mul_assoc]; exact Nat.mul_lt_mul_right hs
  have e2 : (P * S = 2 * (r * S)) ↔ (P = 2 * r) := by
    rw [← Nat.mul_assoc]; exact ⟨fun h => Nat.eq_of_mul_eq_mul_right hs h, fun h => by rw [h]⟩
  simp only [e1, e2]
/-- Whether it is rounded up. -/
def inc (m r : Nat) : Bool := m / 2 ^ r % 2 == 1 && (m % 2 ^ r != 0 || m / 2 ^ (r + 1) % 2 == 1)
theorem ev_inc (m r : Nat) : ev m (r + 1) = m / 2 ^ (r + 1) + (inc m r).toNat := by
  unfold ev inc
  congr 1
  have hp : 0 < 2 ^ r := Nat.two_pow_pos r
  have hm : m % 2 ^ (r + 1) = m / 2 ^ r % 2 * 2 ^ r + m % 2 ^ r := by
    rw [Nat.pow_succ, Nat.mod_mul, Nat.mul_comm (2 ^ r), Nat.add_comm]
  rw [hm]
  have h2 : (2 : Nat) ^ (r + 1) = 2 * 2 ^ r := by rw [Nat.pow_succ, Nat.mul_comm]
  have hlt := Nat.mod_lt m hp
  generalize m / 2 ^ (r + 1) % 2 = b
  rw [h2]
  rcases Nat.mod_two_eq_zero_or_one (m / 2 ^ r) with h | h
  · rw [h]
    generalize 2 ^ r = P at *
    generalize m % P = x at *
    rw [if_neg (by omega)]
    rfl
  · rw [h]
    generalize 2 ^ r = P at *
    generalize m % P = x at *
    by_cases hx : x = 0
    · subst hx
      by_cases hb : b = 1
      · subst hb
        rw [if_pos (by omega)]; rfl
      · rw [if_neg (by omega)]
        have : (b == 1) = false := by simp [hb]
        rw [this]; rfl
    · rw [if_pos (by omega)]
      have : (x != 0) = true := by simp [hx]
      rw [this]; rfl
/-- A number whose words are shifted to the left until the highest bit is 1. -/
def nz (n : Nat) : Nat := 64 * wl n - bl n
theorem bl_wl {n : Nat} (h : n ≠ 0) : 64 * (wl n - 1) < bl n ∧ bl n ≤ 64 * wl n := by
  have h1 := log_words h
  obtain ⟨h2, h3⟩ := words_last h
  have h4 := wl_pos h
  have h5 := (Nat.log2_lt h2).2 (show n / 18446744073709551616 ^ (wl n - 1) < 2 ^ 64 from h3)
  unfold bl
  rw [if_neg h]
  omega
theorem wl_big {n : Nat} (h : 64 < bl n) : 1 < wl n := by
  have h0 : n ≠ 0 := by intro h0; subst h0; simp [bl] at h
  have := bl_wl h0
  omega
/-- Shifted so, it has as many words. -/
theorem wl_nz {n : Nat} (h : n ≠ 0) : wl (n * 2 ^ nz n) = wl n ∧ bl (n * 2 ^ nz n) = 64 * wl n := by
  obtain ⟨h1, h2⟩ := bl_wl h
  have hm : n * 2 ^ nz n ≠ 0 := Nat.mul_ne_zero h (Nat.pos_iff_ne_zero.1 (Nat.two_pow_pos _))
  have hb : bl (n * 2 ^ nz n) = bl n + nz n := by
    unfold bl
    rw [if_neg h, if_neg hm]
    have a := Nat.log2_self_le h
    have b := @Nat.lt_log2_self n
    have c : 2 ^ (n.log2 + nz n) ≤ n * 2 ^ nz n := by rw [Nat.pow_add]; exact Nat.mul_le_mul_right _ a
    have d : n * 2 ^ nz n < 2 ^ (n.log2 + 1 + nz n) := by rw [Nat.pow_add]; exact Nat.mul_lt_mul_of_pos_right b (Nat.two_pow_pos _)
    have e1 := (Nat.le_log2 hm).2 c
    have e2 := (Nat.log2_lt hm).2 d
    omega
  have hb2 : bl (n * 2 ^ nz n) = 64 * wl n := by rw [hb]; unfold nz; omega
  obtain ⟨h3, h4⟩ := bl_wl hm
  exact ⟨by omega, hb2⟩
/-- What rounding the shifted number to 53 bits gives. -/
theorem round_is {n : Nat} (h : 64 ≤ bl n) : ev (n * 2 ^ nz n) (64 * wl n - 53) = k1 n := by
  have h0 : n ≠ 0 := by intro h0; subst h0; simp [bl] at h
  obtain ⟨h1, h2⟩ := bl_wl h0
  unfold k1
  rw [if_pos (by omega), ← ev_shift n (bl n - 53) (nz n)]
  congr 1
  unfold nz
  omega
end Go.Proofs.YtodipcgilgigbaaGreatDoor.V
