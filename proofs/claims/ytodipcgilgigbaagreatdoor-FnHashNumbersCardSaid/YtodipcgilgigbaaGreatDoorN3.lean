/- What spec's Nearest computes: kept digits and a power of 2; and that it is the nearest float. Plain: no program in sight. -/
import Derived.Test.YtodipcgilgigbaaGreatDoorN1
import Derived.Test.YtodipcgilgigbaaGreatDoorI6
namespace Go.Proofs.YtodipcgilgigbaaGreatDoor.V
open Go Go.Proofs.YtodipcgilgigbaaGreatDoor.I

/-- The kept digits, rounded, and their power. -/
def k1 (n : Nat) : Nat := if 0 < bl n - 53 then ev n (bl n - 53) else n
theorem bl_small {n : Nat} (h : bl n ≤ 53) : n < 9007199254740992 := by
  unfold bl at h
  by_cases h0 : n = 0
  · subst h0; decide
  · rw [if_neg h0] at h
    exact (Nat.log2_lt h0).1 (show n.log2 < 53 by omega)
theorem bl_big {n : Nat} (h : 53 < bl n) : n.log2 = bl n - 53 + 52 := by
  unfold bl at *
  by_cases h0 : n = 0
  · subst h0; simp at h
  · rw [if_neg h0] at *
    omega
theorem bl_gt {n : Nat} (hn : n ≤ 9007199254740992) : (53 < bl n) ↔ n = 9007199254740992 := by
  constructor
  · intro h
    have h1 := bl_big h
    have h0 : n ≠ 0 := by intro h0; subst h0; simp [bl] at h
    have := Nat.log2_self_le h0
    have h2 : 2 ^ 53 ≤ 2 ^ n.log2 := Nat.pow_le_pow_right (by omega) (by omega)
    have h3 : (2 : Nat) ^ 53 = 9007199254740992 := by decide
    omega
  · rintro rfl; decide +kernel
/-- Rounded up, or not. -/
theorem k1_up {n : Nat} (h : 53 < bl n) : k1 n = n / 2 ^ (bl n - 53) + (if 2 ^ (bl n - 53 - 1) < n % 2 ^ (bl n - 53) ∨ (n % 2 ^ (bl n - 53) = 2 ^ (bl n - 53 - 1) ∧ n / 2 ^ (bl n - 53) % 2 = 1) then 1 else 0) := by
  unfold k1
  rw [if_pos (by omega)]
  unfold ev
  obtain ⟨p, hp⟩ := Nat.exists_eq_succ_of_ne_zero (show bl n - 53 ≠ 0 by omega)
  rw [hp, Nat.succ_sub_one, Nat.pow_succ]
  congr 1
  generalize n % (2 ^ p * 2) = r
  generalize 2 ^ p = P
  by_cases hh : P * 2 < 2 * r ∨ (P * 2 = 2 * r ∧ n / (P * 2) % 2 = 1)
  · rw [if_pos hh, if_pos (by rcases hh with h1 | ⟨h1, h2⟩; exact .inl (by omega); exact .inr ⟨by omega, h2⟩)]
  · rw [if_neg hh, if_neg (by rintro (h1 | ⟨h1, h2⟩); exact hh (.inl (by omega)); exact hh (.inr ⟨by omega, h2⟩))]
theorem k1_bounds {n : Nat} (h : 53 < bl n) : 4503599627370496 ≤ k1 n ∧ k1 n ≤ 9007199254740992 := by
  unfold k1
  rw [if_pos (by omega)]
  exact ev_bounds (bl_big h)
/-- Where nothing is cut. -/
theorem k1_small {n : Nat} (h : bl n ≤ 53) : k1 n = n ∧ bl (k1 n) ≤ 53 := by
  have : k1 n = n := by unfold k1; rw [if_neg (by omega)]
  exact ⟨this, by rw [this]; exact h⟩
theorem kp_is {n : Nat} (h : 53 < bl n) : kp n = if 53 < bl (k1 n) then (k1 n / 2, bl n - 53 + 1) else (k1 n, bl n - 53) := by
  have hb := k1_bounds h
  have hl := bl_big h
  have hk : k1 n = ev n (n.log2 - 52) := by unfold k1; rw [if_pos (by omega), show n.log2 - 52 = bl n - 53 by omega]
  unfold kp
  simp only
  rw [← hk, show n.log2 - 52 = bl n - 53 by omega]
  by_cases h1 : k1 n = 9007199254740992
  · rw [if_pos h1, if_pos ((bl_gt hb.2).2 h1), h1]
  · rw [if_neg h1, if_neg (fun h2 => h1 ((bl_gt hb.2).1 h2))]
theorem bl_full {k : Nat} (h : Full k) : bl k = 53 := by
  unfold bl
  have := log_full h
  unfold Full at h
  rw [if_neg (by omega)]
  omega
end Go.Proofs.YtodipcgilgigbaaGreatDoor.V
