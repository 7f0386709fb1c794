/- Seven digits of a float: which power of ten, and how many digits. Plain: no program in sight. -/
import Derived.Test.YtgjfjbghdpcllaaGreatDoorU5
namespace Go.Proofs.YtgjfjbghdpcllaaGreatDoor.U
open Go.Proofs.YtgjfjbghdpcllaaGreatDoor.I (nr)

theorem ratio (P R m k : Nat) (E q : Int) (hq : q = E - 52 + k) (hP : -(P : Int) ≤ q) (hR : -(R : Int) ≤ lg E) :
    m * 2 ^ k * al E * T P R (lg E) = 1000000 * Fv P R m q * (4 * be E) := by
  unfold al be pw T Fv
  have e2 : 2 ^ k * 2 ^ (E - 50).toNat * 2 ^ P = 2 ^ (q + P).toNat * 4 * 2 ^ (50 - E).toNat := by
    rw [show (4 : Nat) = 2 ^ 2 from rfl]
    simp only [← Nat.pow_add]
    congr 1; omega
  have e10 : 10 ^ (6 - lg E).toNat * 10 ^ (lg E + R).toNat = 1000000 * 10 ^ R * 10 ^ (-(6 - lg E)).toNat := by
    rw [show (1000000 : Nat) = 10 ^ 6 from rfl]
    simp only [← Nat.pow_add]
    congr 1; omega
  have e3 : m * 2 ^ k * (2 ^ (E - 50).toNat * 10 ^ (6 - lg E).toNat) * (2 ^ P * 10 ^ (lg E + R).toNat) = m * (2 ^ k * 2 ^ (E - 50).toNat * 2 ^ P) * (10 ^ (6 - lg E).toNat * 10 ^ (lg E + R).toNat) := by ac_rfl
  rw [e3, e2, e10]
  ac_rfl
theorem mul_le_cancel {a b c d t f : Nat} (h : a * t = c * f * d) (ht : 0 < t) (hb : b * t ≤ f) : c * b * d ≤ a := by
  have h1 : c * b * d * t ≤ a * t := by
    rw [h]
    have : c * b * d * t = c * (b * t) * d := by ac_rfl
    rw [this]
    exact Nat.mul_le_mul_right d (Nat.mul_le_mul_left c hb)
  exact Nat.le_of_mul_le_mul_right h1 ht
theorem mul_lt_cancel {a b c d t f : Nat} (h : a * t = c * f * d) (hc : 0 < c) (hd : 0 < d) (hb : f < b * t) : a < c * b * d := by
  have h1 : a * t < c * b * d * t := by
    rw [h]
    have : c * b * d * t = c * (b * t) * d := by ac_rfl
    rw [this]
    exact Nat.mul_lt_mul_of_pos_right (Nat.mul_lt_mul_of_pos_left hb hc) hd
  exact Nat.lt_of_mul_lt_mul_right h1
structure Digits (m : Nat) (E q : Int) (u : Nat) : Prop where
  low : ge m q (lg E)
  high : ¬ ge m q (lg E + 2)
  more : ge m q (lg E + 1) → 4 * 10000000 - 2 ≤ u ∧ 1000000 ≤ sc m q (5 - lg E) ∧ sc m q (5 - lg E) < 10000000
  less : ¬ ge m q (lg E + 1) → (4 * 10000000 - 2 ≤ u ↔ sc m q (6 - lg E) = 10000000) ∧ 1000000 ≤ sc m q (6 - lg E) ∧ sc m q (6 - lg E) ≤ 10000000
    ∧ (sc m q (6 - lg E) = 10000000 → 1000000 ≤ sc m q (5 - lg E) ∧ sc m q (5 - lg E) < 10000000)
  at6 : sc m q (6 - lg E) = rnd u
  at5 : sc m q (5 - lg E) = rnd (dv u)
theorem digits (m k : Nat) (E q : Int) (h0 : -1074 ≤ E) (h1 : E < 1024) (hq : q = E - 52 + k) (hy0 : 2 ^ 52 ≤ m * 2 ^ k) (hy1 : m * 2 ^ k < 2 ^ 53) : Digits m E q (cutq (m * 2 ^ k * al E) (be E)) := by
  have hL : -324 ≤ lg E := by unfold lg; omega
  obtain ⟨P, hPd⟩ : ∃ P : Nat, P = 1200 := ⟨_, rfl⟩
  obtain ⟨R, hRd⟩ : ∃ R : Nat, R = 400 := ⟨_, rfl⟩
  obtain ⟨b0, b1⟩ := fl_bounds P R m k E q h0 h1 hq ⟨by omega, by omega⟩ (by omega) hL hy0 hy1
  have hr := ratio P R m k E q hq (by omega) (by omega)
  have hT := T_pos P R (lg E)
  have hs1 := T_succ P R (lg E) (by omega)
  have hs2 := T_succ P R (lg E + 1) (by omega)
  rw [show lg E + 1 + 1 = lg E + 2 by omega] at hs2
  have g0 := ge_iff P R m q (lg E) (by omega) (by omega)
  have g1 := ge_iff P R m q (lg E + 1) (by omega) (by omega)
  have g2 := ge_iff P R m q (lg E + 2) (by omega) (by omega)
  have hD := be_pos E
  have e6 := sc_is m k E q hq
  have e5 := sc_is10 m k E q hq
  have n6 := e6; have n5 := e5
  rw [rnd_cutq _ _ hD] at n6
  rw [dv_cutq, rnd_cutq _ _ (by omega)] at n5
  have hge := rnd_ge (cutq (m * 2 ^ k * al E) (be E)) 10000000 (by omega) (by omega)
  rw [← e6] at hge
  generalize hN : m * 2 ^ k * al E = N at *
  generalize be E = D at *
  generalize T P R (lg E) = t at *
  generalize Fv P R m q = f at *
  rw [hs1] at g1 b1 hs2
  rw [hs2] at g2
  have a0 : 1000000 * 1 * (4 * D) ≤ N := mul_le_cancel hr hT (by omega)
  have a1 : N < 1000000 * 20 * (4 * D) := mul_lt_cancel hr (by omega) (by omega) (by omega)
  refine ⟨g0.2 b0, fun h => ?_, fun h => ?_, fun h => ?_, e6, e5⟩
  · have := g2.1 h; omega
  · have h2 := g1.1 h
    have a2 : 1000000 * 10 * (4 * D) ≤ N := mul_le_cancel hr hT (by omega)
    refine ⟨hge.2 ?_, ?_, ?_⟩
    · rw [n6]; exact nr_ge (by omega) (by omega)
    · rw [n5]; exact nr_ge (by omega) (by omega)
    · rw [n5]
      have := nr_le (a := N) (b := 4 * (10 * D)) (c := 2000000) (by omega) (by omega)
      omega
  · have h2 : ¬ 10 * t ≤ f := fun hh => h (g1.2 hh)
    have a2 : N < 1000000 * 10 * (4 * D) := mul_lt_cancel hr (by omega) (by omega) (by omega)
    have c1 : nr N (4 * D) ≤ 10000000 := nr_le (by omega) (by omega)
    have c2 : 1000000 ≤ nr N (4 * D) := nr_ge (by omega) (by omega)
    refine ⟨?_, by rw [n6]; exact c2, by rw [n6]; exact c1, fun he => ?_⟩
    · rw [hge, n6]; omega
    · rw [n6] at he
      have c3 := nr_le' (a := N) (b := 4 * D) (c := 10000000) (by omega) (by omega)
      rw [n5]
      refine ⟨nr_ge (by omega) (by omega), ?_⟩
      have := nr_le (a := N) (b := 4 * (10 * D)) (c := 1000000) (by omega) (by omega)
      omega
theorem ge_down (m : Nat) (q n : Int) (hq : -1200 ≤ q) (hn : -400 ≤ n) (h : ge m q (n + 1)) : ge m q n := by
  obtain ⟨P, hPd⟩ : ∃ P : Nat, P = 1200 := ⟨_, rfl⟩
  obtain ⟨R, hRd⟩ : ∃ R : Nat, R = 400 := ⟨_, rfl⟩
  rw [ge_iff P R _ _ _ (by omega) (by omega)] at h ⊢
  have := T_succ P R n (by omega)
  omega
end Go.Proofs.YtgjfjbghdpcllaaGreatDoor.U
