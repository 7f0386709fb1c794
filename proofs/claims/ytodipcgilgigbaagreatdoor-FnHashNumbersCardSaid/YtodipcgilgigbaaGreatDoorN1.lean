/- The float that is nearest to a whole number, as the model writes it: by its kept digits and its power of 2. Plain: no program in sight. -/
import Ieee.Arith
import Derived.Laws.FloatArith
namespace Go.Proofs.YtodipcgilgigbaaGreatDoor.V
open Go

theorem weight : Ieee.Format.signWeight FloatKind.f64.format = 9223372036854775808 := by decide +kernel
theorem binade : Ieee.Format.binade FloatKind.f64.format = 4503599627370496 := by decide +kernel
theorem infRung : Ieee.Format.infRung FloatKind.f64.format = 9218868437227405312 := by decide +kernel
theorem leastPlace : Ieee.Format.leastPlace FloatKind.f64.format = -1074 := by decide +kernel
theorem fractionBits : FloatKind.f64.format.fractionBits = 52 := rfl

/-- The bits of the float that is nearest to a whole number. -/
def nb (s : Bool) (n : Nat) : Nat := FloatKind.f64.format.nearest s n 0
/-- A number's digits from the p-th on, rounded; of two as near, the even one. -/
def ev (n p : Nat) : Nat := n / 2 ^ p + (if 2 ^ p < 2 * (n % 2 ^ p) ∨ (2 ^ p = 2 * (n % 2 ^ p) ∧ n / 2 ^ p % 2 = 1) then 1 else 0)

theorem cut_ev (s : Bool) (n p : Nat) (h : p ≤ n.log2 + 2) : Ieee.Toward.even.cut s n p = ev n p := by
  unfold Ieee.Toward.cut ev
  rw [Nat.min_eq_left h]
  simp only [Nat.shiftLeft_eq, Nat.one_mul]
  by_cases h1 : 2 ^ p < 2 * (n % 2 ^ p) ∨ (2 ^ p = 2 * (n % 2 ^ p) ∧ n / 2 ^ p % 2 = 1)
  · rw [if_pos h1]
    have : (decide (2 ^ p < 2 * (n % 2 ^ p)) || (2 ^ p == 2 * (n % 2 ^ p) && n / 2 ^ p % 2 == 1)) = true := by simpa using h1
    rw [this]; rfl
  · rw [if_neg h1]
    have : (decide (2 ^ p < 2 * (n % 2 ^ p)) || (2 ^ p == 2 * (n % 2 ^ p) && n / 2 ^ p % 2 == 1)) = false := by
      rw [Bool.eq_false_iff]; intro h2; exact h1 (by simpa using h2)
    rw [this]; rfl
theorem word_of (s : Bool) (r : Nat) : FloatKind.f64.format.word s r = (if s then 9223372036854775808 else 0) + r := by
  unfold Ieee.Format.word
  rw [weight]
  cases s <;> simp
theorem nearest_at (s : Bool) (m : Nat) (i : Int) (p : Nat) (hm : m ≠ 0) (hp : (m.log2 : Int) = p + 52) (hi : -1074 ≤ i + p) :
    FloatKind.f64.format.nearest s m i = (if s then 9223372036854775808 else 0) + min ((i + p + 1074).toNat * 4503599627370496 + ev m p) 9218868437227405312 := by
  unfold Ieee.Format.nearest
  rw [if_neg hm]
  have hl : max (i + m.log2 - FloatKind.f64.format.fractionBits) FloatKind.f64.format.leastPlace = i + p := by
    rw [leastPlace, fractionBits]
    omega
  simp only [hl]
  rw [leastPlace, binade, infRung, word_of]
  have h1 : (i - (i + p)).toNat = 0 := by omega
  have h2 : (i + p - i).toNat = p := by omega
  rw [h1, h2, Nat.shiftLeft_zero, cut_ev s m p (by omega)]
  have h3 : (i + p - -1074) = (i + p + 1074) := by omega
  rw [h3]
theorem nb_zero (s : Bool) : nb s 0 = if s then 9223372036854775808 else 0 := by
  unfold nb Ieee.Format.nearest
  rw [if_pos rfl, word_of]
  simp
/-- Digits that fill a float's place. -/
def Full (k : Nat) : Prop := 4503599627370496 ≤ k ∧ k < 9007199254740992
theorem log_full {k : Nat} (h : Full k) : k.log2 = 52 := by
  obtain ⟨h1, h2⟩ := h
  have a : 52 ≤ k.log2 := (Nat.le_log2 (by omega)).2 (by omega)
  have b : k.log2 < 53 := (Nat.log2_lt (by omega)).2 (by omega)
  omega
theorem ev_zero (n : Nat) : ev n 0 = n := by unfold ev; simp [Nat.mod_one]
/-- The bits of k times 2 to the j-th. -/
def fb (k j : Nat) : Nat := (j + 1074) * 4503599627370496 + k
theorem nb_full {k : Nat} (h : Full k) : nb false k = fb k 0 := by
  unfold nb fb
  rw [nearest_at false k 0 0 (by unfold Full at h; omega) (by rw [log_full h]; rfl) (by omega), ev_zero]
  unfold Full at h
  simp
  omega
theorem read_fb {k j : Nat} (h : Full k) (hj : j ≤ 971) : FloatKind.f64.format.read (fb k j) = .number false k j := by
  unfold Full at h
  unfold Ieee.Format.read fb
  simp only [weight, binade, infRung, leastPlace]
  rw [if_neg (by omega), if_pos (by omega)]
  have h1 : ((j + 1074) * 4503599627370496 + k) / 9223372036854775808 % 2 = 0 := by omega
  have h2 : 4503599627370496 + ((j + 1074) * 4503599627370496 + k) % 9223372036854775808 % 4503599627370496 = k := by omega
  have h3 : ((j + 1074) * 4503599627370496 + k) % 9223372036854775808 / 4503599627370496 - 1 = j + 1074 := by omega
  have h4 : (-1074 : Int) + ((j + 1074 : Nat) : Int) = j := by omega
  rw [h1, h2, h3, h4]
  rfl
theorem two_read : FloatKind.f64.format.read 4611686018427387904 = .number false 4503599627370496 (-51) := by decide +kernel
theorem double_fb {k j : Nat} (h : Full k) (hj : j < 971) : FloatKind.f64.format.mul (fb k j) 4611686018427387904 = some (fb k (j + 1)) := by
  unfold Ieee.Format.mul
  rw [read_fb h (by omega), two_read]
  show some (FloatKind.f64.format.nearest (false ^^ false) (k * 4503599627370496) ((j : Int) + -51)) = _
  have hk : k * 4503599627370496 = k * 2 ^ 52 := by rw [show (2 : Nat) ^ 52 = 4503599627370496 by decide]
  have hlog : (k * 4503599627370496).log2 = 104 := by
    unfold Full at h
    have a : 104 ≤ (k * 4503599627370496).log2 := (Nat.le_log2 (by omega)).2 (by omega)
    have b : (k * 4503599627370496).log2 < 105 := (Nat.log2_lt (by omega)).2 (by omega)
    omega
  rw [nearest_at (false ^^ false) (k * 4503599627370496) ((j : Int) + -51) 52 (by unfold Full at h; omega) (by rw [hlog]; rfl) (by omega)]
  have e : ev (k * 4503599627370496) 52 = k := by
    unfold ev
    rw [hk, Nat.mul_div_cancel _ (by decide), Nat.mul_mod_left]
    simp
  rw [e]
  unfold fb Full at *
  have : ((j : Int) + -51 + (52 : Nat) + 1074).toNat = j + 1 + 1074 := by omega
  rw [this, Nat.min_eq_left (by omega)]
  simp
/-- A rounded number's digits and their power. -/
def kp (n : Nat) : Nat × Nat :=
  let p := n.log2 - 52
  if ev n p = 9007199254740992 then (4503599627370496, p + 1) else (ev n p, p)
theorem div_bounds {n p : Nat} (hp : n.log2 = p + 52) : 4503599627370496 ≤ n / 2 ^ p ∧ n / 2 ^ p < 9007199254740992 := by
  have hn : n ≠ 0 := by intro h; subst h; simp at hp
  have a : 2 ^ (p + 52) ≤ n := hp ▸ Nat.log2_self_le hn
  have b : n < 2 ^ (p + 53) := by
    have := @Nat.lt_log2_self n
    rw [hp] at this; exact this
  have hpos : 0 < 2 ^ p := Nat.two_pow_pos p
  constructor
  · rw [Nat.le_div_iff_mul_le hpos]
    calc 4503599627370496 * 2 ^ p = 2 ^ (p + 52) := by rw [Nat.pow_add, Nat.mul_comm]
      _ ≤ n := a
  · rw [Nat.div_lt_iff_lt_mul hpos]
    calc n < 2 ^ (p + 53) := b
      _ = 9007199254740992 * 2 ^ p := by rw [Nat.pow_add, Nat.mul_comm]
theorem ev_bounds {n p : Nat} (hp : n.log2 = p + 52) : 4503599627370496 ≤ ev n p ∧ ev n p ≤ 9007199254740992 := by
  have := div_bounds hp
  unfold ev
  split <;> omega
theorem kp_full {n : Nat} (h : 52 ≤ n.log2) : Full (kp n).1 := by
  have := ev_bounds (n := n) (p := n.log2 - 52) (by omega)
  unfold kp Full
  simp only
  split
  · exact ⟨Nat.le_refl _, by omega⟩
  · simp only; omega
/-- A number's nearest float, where it has more digits than a float. -/
theorem nb_kp (s : Bool) {n : Nat} (h : 52 ≤ n.log2) : nb s n = (if s then 9223372036854775808 else 0) + (if (kp n).2 ≤ 971 then fb (kp n).1 (kp n).2 else 9218868437227405312) := by
  have hn : n ≠ 0 := by intro h0; subst h0; simp at h
  have hb := ev_bounds (n := n) (p := n.log2 - 52) (by omega)
  unfold nb
  rw [nearest_at s n 0 (n.log2 - 52) hn (by omega) (by omega)]
  have e : ((0 : Int) + ((n.log2 - 52 : Nat) : Int) + 1074).toNat = n.log2 - 52 + 1074 := by omega
  rw [e]
  congr 1
  unfold kp fb
  simp only
  generalize n.log2 - 52 = p at *
  generalize ev n p = k at *
  split
  · rename_i hk
    subst hk
    simp only
    split <;> omega
  · simp only
    split <;> omega
theorem inf_s (s : Bool) : FloatKind.f64.format.word s (FloatKind.f64.format.infRung) = (if s then 9223372036854775808 else 0) + 9218868437227405312 := by rw [word_of, infRung]
/-- Beyond 1024 digits all is an infinity. -/
theorem nb_inf (s : Bool) {n : Nat} (h : 1024 ≤ n.log2) : nb s n = (if s then 9223372036854775808 else 0) + 9218868437227405312 := by
  have h2 : ¬ (kp n).2 ≤ 971 := by
    unfold kp
    simp only
    split
    · simp only; omega
    · simp only; omega
  rw [nb_kp s (by omega), if_neg h2]
end Go.Proofs.YtodipcgilgigbaaGreatDoor.V
