/- The two ways to a float's seven digits come to the same. Plain: no program in sight. -/
import Derived.Test.YtgjfjbghdpcllaaGreatDoorU6
import Derived.Test.YtgjfjbghdpcllaaGreatDoorI7
import Derived.Lib.ItoaNum
namespace Go.Proofs.YtgjfjbghdpcllaaGreatDoor.U
open Go.Proofs.YtgjfjbghdpcllaaGreatDoor.I (nr bl decs decl decl_zero decl_pos)

def chk2 (E : Int) : Bool :=
  decide (lg E ≤ ((E + 1) * 30103).tdiv 100000 ∧ ((E + 1) * 30103).tdiv 100000 ≤ 390 ∧ -348 ≤ pw E ∧ pw E < 348 ∧ -2000 ≤ lp (pw E) ∧ lp (pw E) ≤ 2000 ∧ -330 ≤ lg E ∧ lg E ≤ 310 ∧ 2 ≤ (row (pw E)).1)
def chk2All : Nat → Bool
  | 0 => true
  | n + 1 => chk2 ((n : Int) - 1074) && chk2All n
set_option maxRecDepth 100000 in
theorem chk2_all : chk2All 2098 = true := by decide +kernel
theorem chk2All_at : ∀ n, chk2All n = true → ∀ i, i < n → chk2 ((i : Int) - 1074) = true
  | 0, _, i, h => absurd h (Nat.not_lt_zero i)
  | n + 1, h, i, hi => by
    rw [chk2All, Bool.and_eq_true] at h
    rcases Nat.lt_or_ge i n with h1 | h1
    · exact chk2All_at n h.2 i h1
    · have : i = n := by omega
      subst this; exact h.1
theorem chk2_at (E : Int) (h0 : -1074 ≤ E) (h1 : E < 1024) : lg E ≤ ((E + 1) * 30103).tdiv 100000 ∧ ((E + 1) * 30103).tdiv 100000 ≤ 390 ∧ -348 ≤ pw E ∧ pw E < 348 ∧ -2000 ≤ lp (pw E) ∧ lp (pw E) ≤ 2000 ∧ -330 ≤ lg E ∧ lg E ≤ 310 ∧ 2 ≤ (row (pw E)).1 := by
  have := chk2All_at 2098 chk2_all (E + 1074).toNat (by omega)
  have e : (((E + 1074).toNat : Nat) : Int) - 1074 = E := by omega
  rw [e] at this
  exact of_decide_eq_true this

theorem ge_none (m : Nat) (q L : Int) (hq : -1200 ≤ q) (hL : -400 ≤ L) (h : ¬ ge m q L) (n : Int) (hn : L ≤ n) : ¬ ge m q n := by
  obtain ⟨j, rfl⟩ : ∃ j : Nat, n = L + j := ⟨(n - L).toNat, by omega⟩
  induction j with
  | zero => simpa using h
  | succ j ih =>
    intro hg
    refine ih (by omega) (ge_down m q (L + j) hq (by omega) ?_)
    rw [show L + (j : Int) + 1 = L + ((j + 1 : Nat) : Int) by omega]
    exact hg
structure Same (m : Nat) (E q : Int) (u d : Nat) (X e0 : Int) (big : Bool) : Prop where
  d0 : 1000000 ≤ d
  d1 : d < 10000000
  x0 : lg E ≤ X
  x1 : X ≤ lg E + 1
  low : u < 39999998 → d = rnd u ∧ X = lg E
  high : 39999998 ≤ u → d = rnd (dv u) ∧ X = lg E + 1
  ge0 : ge m q e0
  none : ∀ n, e0 < n → ¬ ge m q n
  e0l : lg E ≤ e0
  e0h : e0 ≤ lg E + 1
  n0 : 1000000 ≤ sc m q (6 - e0)
  n1 : sc m q (6 - e0) ≤ 10000000
  b : big = decide (sc m q (6 - e0) = 10000000)
  f : big = false → X = e0 ∧ d = sc m q (6 - e0)
  t : big = true → X = e0 + 1 ∧ d = sc m q (6 - (e0 + 1))
theorem same (m k : Nat) (E q : Int) (u : Nat) (h0 : -1074 ≤ E) (h1 : E < 1024) (hq : q = E - 52 + k) (hy0 : 2 ^ 52 ≤ m * 2 ^ k) (hy1 : m * 2 ^ k < 2 ^ 53) (hu : u = cutq (m * 2 ^ k * al E) (be E)) :
    ∃ d X e0 big, Same m E q u d X e0 big := by
  have D := digits m k E q h0 h1 hq hy0 hy1
  rw [← hu] at D
  have hc := chk2_at E h0 h1
  have hhigh := ge_none m q (lg E + 2) (by omega) (by omega) D.high
  by_cases hg : ge m q (lg E + 1)
  · obtain ⟨a, b, c⟩ := D.more hg
    have e5 : (6 - (lg E + 1)) = 5 - lg E := by omega
    refine ⟨sc m q (5 - lg E), lg E + 1, lg E + 1, false, b, c, by omega, by omega, fun h => by omega, fun _ => ⟨D.at5, rfl⟩, hg, fun n hn => hhigh n (by omega), by omega, by omega, by rw [e5]; exact b, by rw [e5]; omega, ?_, fun _ => ⟨rfl, by rw [e5]⟩, (fun h => by cases h)⟩
    rw [e5]
    exact (decide_eq_false (by omega)).symm
  · obtain ⟨hiff, b, c, hten⟩ := D.less hg
    have hnone : ∀ n, lg E < n → ¬ ge m q n := fun n hn => ge_none m q (lg E + 1) (by omega) (by omega) hg n (by omega)
    have e5 : (6 - (lg E + 1)) = 5 - lg E := by omega
    by_cases hten' : sc m q (6 - lg E) = 10000000
    · obtain ⟨p1, p2⟩ := hten hten'
      have hu' := hiff.2 hten'
      exact ⟨sc m q (5 - lg E), lg E + 1, lg E, true, p1, p2, by omega, by omega, fun h => by omega, fun _ => ⟨D.at5, rfl⟩, D.low, hnone, by omega, by omega, b, c, (decide_eq_true hten').symm, (fun h => by cases h), fun _ => ⟨rfl, by rw [e5]⟩⟩
    · have hu' : ¬ (4 * 10000000 - 2 ≤ u) := fun h => hten' (hiff.1 h)
      exact ⟨sc m q (6 - lg E), lg E, lg E, false, b, by omega, by omega, by omega, fun _ => ⟨D.at6, rfl⟩, fun h => by omega, D.low, hnone, by omega, by omega, b, c, (decide_eq_false hten').symm, fun _ => ⟨rfl, rfl⟩, (fun h => by cases h)⟩
/-- The length in bits, told twice. -/
theorem bl_bounds (m : Nat) (h : 0 < m) : 2 ^ (bl m - 1) ≤ m ∧ m < 2 ^ bl m ∧ 1 ≤ bl m := by
  unfold bl
  rw [if_neg (by omega)]
  exact ⟨Nat.log2_self_le (by omega), Nat.lt_log2_self, by omega⟩
theorem bl_unique (m L : Nat) (h0 : 2 ^ (L - 1) ≤ m) (h1 : m < 2 ^ L) (hL : 1 ≤ L) : bl m = L := by
  have hm : 0 < m := Nat.lt_of_lt_of_le (Nat.pow_pos (by omega)) h0
  obtain ⟨a, b, c⟩ := bl_bounds m hm
  rcases Nat.lt_trichotomy (bl m) L with h | h | h
  · have := Nat.pow_le_pow_right (show 0 < 2 by omega) (show bl m ≤ L - 1 by omega); omega
  · exact h
  · have := Nat.pow_le_pow_right (show 0 < 2 by omega) (show L ≤ bl m - 1 by omega); omega
theorem bitLen_is (m : Nat) (h : 0 < m) (h1 : m < 18446744073709551616) : Lib.bitLen m = bl m := by
  obtain ⟨a, b, c⟩ := Lib.bitLenAux_bounds 64 m (by simpa using h1) (by omega)
  exact (bl_unique m _ b c a).symm
/-- A mantissa, shifted till it has 53 bits. -/
theorem shifted (m : Nat) (h : 0 < m) (h1 : m < 2 ^ 53) : bl m ≤ 53 ∧ 2 ^ 52 ≤ m * 2 ^ (53 - bl m) ∧ m * 2 ^ (53 - bl m) < 2 ^ 53 := by
  obtain ⟨a, b, c⟩ := bl_bounds m h
  have hl : bl m ≤ 53 := by
    rcases Nat.lt_or_ge 53 (bl m) with h2 | h2
    · have := Nat.pow_le_pow_right (show 0 < 2 by omega) (show 53 ≤ bl m - 1 by omega); omega
    · exact h2
  refine ⟨hl, ?_, ?_⟩
  · have := Nat.mul_le_mul_right (2 ^ (53 - bl m)) a
    rw [← Nat.pow_add, show bl m - 1 + (53 - bl m) = 52 by omega] at this
    exact this
  · have := Nat.mul_lt_mul_of_pos_right b (Nat.pow_pos (n := 53 - bl m) (show 0 < 2 by omega))
    rw [← Nat.pow_add, show bl m + (53 - bl m) = 53 by omega] at this
    exact this
end Go.Proofs.YtgjfjbghdpcllaaGreatDoor.U
