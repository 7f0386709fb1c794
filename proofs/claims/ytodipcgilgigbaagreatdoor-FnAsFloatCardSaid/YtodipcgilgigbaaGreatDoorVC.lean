/- nat's bit and sticky. -/
import Derived.Test.YtodipcgilgigbaaGreatDoorVB
set_option linter.unusedVariables false
namespace Go.Proofs.YtodipcgilgigbaaGreatDoor.V
open Go Go.RowKit Go.Proofs.YtodipcgilgigbaaGreatDoor.I

theorem two64 : (18446744073709551616 : Nat) = 2 ^ 64 := by decide +kernel
theorem wd_bit (n i : Nat) : wd n (i / 64) / 2 ^ (i % 64) % 2 = n / 2 ^ i % 2 := by
  have e : n / 2 ^ i = n / 18446744073709551616 ^ (i / 64) / 2 ^ (i % 64) := by
    rw [Nat.div_div_eq_div_mul, two64, ← Nat.pow_mul, ← Nat.pow_add, Nat.div_add_mod]
  unfold wd
  rw [e]
  generalize n / 18446744073709551616 ^ (i / 64) = q
  have hr : i % 64 < 64 := Nat.mod_lt _ (by omega)
  generalize i % 64 = r at *
  have hB : (18446744073709551616 : Nat) = 2 ^ r * (2 ^ (63 - r) * 2) := by rw [← Nat.pow_succ, ← Nat.pow_add, show r + (63 - r + 1) = 64 by omega, two64]
  rw [hB, Nat.mod_mul_right_div_self, Nat.mod_mul_left_mod]
theorem and1_nat (x : Nat) (hx : x < 18446744073709551616) : bits .and .u64 (x : Int) 1 = ((x % 2 : Nat) : Int) := by
  have := u64_and_nat x 1 hx (by omega)
  rw [show ((1 : Nat) : Int) = 1 from rfl] at this
  rw [this, show (1 : Nat) = 2 ^ 1 - 1 from rfl, Nat.and_two_pow_sub_one_eq_mod]
set_option maxRecDepth 100000 in
set_option maxHeartbeats 1000000 in
theorem bit_call (n i g cap : Nat) (hi : i < 64 * wl n) (hl : wl n ≤ 1000) (w : World) (h : Row w g cap (words n)) :
    Calls Tryz.prog 102 #[.slice (some ⟨g, 0, none⟩) (wl n) cap, .int .u64 i] w fun e w' => e = .returned (.int .u64 ((n / 2 ^ i % 2 : Nat) : Int)) ∧ w = w' := by
  have hj : i / 64 < wl n := by omega
  have hc := h.cell (words_wd (n := n) (i := i / 64) hj)
  have hb := wd_bit n i
  have hx := wd_lt n (i / 64)
  have hlen : (words n).length = wl n := rfl
  generalize hk : wl n = k at *
  generalize hxx : wd n (i / 64) = x at *
  have hr : i % 64 < 64 := Nat.mod_lt _ (by omega)
  have hq : x / 2 ^ (i % 64) < 18446744073709551616 := Nat.lt_of_le_of_lt (Nat.div_le_self _ _) hx
  have hand := and1_nat (x / 2 ^ (i % 64)) hq
  rw [hb] at hand
  have ec : ((x / 2 ^ (i % 64) : Nat) : Int) = (x : Int) / 2 ^ (i % 64) := by rw [Int.natCast_ediv, Int.natCast_pow]; rfl
  rw [ec] at hand
  have j1 : (i : Int) / 64 < k := by omega
  have j2 : (0 : Int) ≤ (i : Int) / 64 := by omega
  have kk : (k : Int) ≤ 1000 := by omega
  have j3 : ((i : Int) / 64).toNat = i / 64 := by omega
  have j4 : ((i : Int) % 64).toNat = i % 64 := by omega
  generalize n / 2 ^ i % 2 = y at *
  clear hb hk hxx hlen
  go_enter Tryz.func102, Tryz.ntmps102
  go_wp2_with fail
  go_ret
  exact ⟨rfl, rfl⟩
theorem mod_next (n m : Nat) : n % 18446744073709551616 ^ (m + 1) = n % 18446744073709551616 ^ m + 18446744073709551616 ^ m * wd n m := by
  unfold wd
  rw [Nat.pow_succ, Nat.mod_mul]
theorem mod_bits (n i : Nat) : n % 2 ^ i = n % 18446744073709551616 ^ (i / 64) + 18446744073709551616 ^ (i / 64) * (wd n (i / 64) % 2 ^ (i % 64)) := by
  have e : (2 : Nat) ^ i = 18446744073709551616 ^ (i / 64) * 2 ^ (i % 64) := by rw [two64, ← Nat.pow_mul, ← Nat.pow_add, Nat.div_add_mod]
  have hr : i % 64 < 64 := Nat.mod_lt _ (by omega)
  rw [e, Nat.mod_mul]
  unfold wd
  congr 2
  generalize i % 64 = r at *
  have hB : (18446744073709551616 : Nat) = 2 ^ r * 2 ^ (64 - r) := by rw [← Nat.pow_add, show r + (64 - r) = 64 by omega, two64]
  rw [hB, Nat.mod_mul_right_mod]
/-- 1 if any of the lowest i bits is 1. -/
def stk (n i : Nat) : Nat := if n % 2 ^ i = 0 then 0 else 1
theorem shl_top (x r : Nat) (hr : r < 64) : (IntKind.u64.wrap ((x : Int) * 2 ^ (64 - r)) != 0) = !decide (x % 2 ^ r = 0) := by
  have e1 : (x : Int) * 2 ^ (64 - r) = ((x * 2 ^ (64 - r) : Nat) : Int) := by rw [Int.natCast_mul, Int.natCast_pow]; rfl
  have hB : (18446744073709551616 : Nat) = 2 ^ (64 - r) * 2 ^ r := by rw [← Nat.pow_add, show 64 - r + r = 64 by omega, two64]
  have hp : 0 < 2 ^ (64 - r) := Nat.two_pow_pos _
  have e2 : x * 2 ^ (64 - r) % 18446744073709551616 = 2 ^ (64 - r) * (x % 2 ^ r) := by
    conv => lhs; rw [hB, Nat.mul_comm x, Nat.mul_mod_mul_left]
  rw [e1, wrapu_nat, e2]
  by_cases h : x % 2 ^ r = 0
  · rw [h, decide_eq_true rfl]; rfl
  · have h2 : 2 ^ (64 - r) * (x % 2 ^ r) ≠ 0 := Nat.mul_ne_zero (by omega) h
    rw [decide_eq_false h]
    simp only [bne_iff_ne, ne_eq, Bool.not_false]
    omega
set_option maxRecDepth 100000 in
set_option maxHeartbeats 2000000 in
theorem sticky_call (n i g cap : Nat) (hi : i < 64 * wl n) (hl : wl n ≤ 1000) (w : World) (h : Row w g cap (words n)) :
    Calls Tryz.prog 75 #[.slice (some ⟨g, 0, none⟩) (wl n) cap, .int .u64 i] w fun e w' => e = .returned (.int .u64 ((stk n i : Nat) : Int)) ∧ w = w' := by
  have hj : i / 64 < wl n := by omega
  have hcap : wl n ≤ cap := by obtain ⟨_, _, _, h2, _⟩ := h; exact h2
  have hc := h.cell (words_wd (n := n) (i := i / 64) hj)
  have hcs : ∀ m, m < wl n → w.cell? ⟨g, m, none⟩ = some (.int .u64 ((wd n m : Nat) : Int)) := fun m hm => h.cell (words_wd hm)
  have hx := wd_lt n (i / 64)
  have hmb := mod_bits n i
  have hmn := mod_next n
  have hr : i % 64 < 64 := Nat.mod_lt _ (by omega)
  have hst := shl_top (wd n (i / 64)) (i % 64) hr
  obtain ⟨st, hstk⟩ : ∃ st, stk n i = st := ⟨_, rfl⟩
  rw [hstk]
  unfold stk at hstk
  have j1 : (i : Int) / 64 < wl n := by omega
  have j2 : (0 : Int) ≤ (i : Int) / 64 := by omega
  have j5 : (i : Int) / 64 ≤ cap := by omega
  have kk : (wl n : Int) ≤ 1000 := by omega
  have j3 : ((i : Int) / 64).toNat = i / 64 := by omega
  have j4 : ((i : Int) % 64).toNat = i % 64 := by omega
  have j6 : (64 - (i : Int) % 64).toNat = 64 - i % 64 := by omega
  have j7 : (0 : Int) ≤ 64 - (i : Int) % 64 := by omega
  have HX := Lib.hid (And.intro hcs (And.intro hmb (And.intro hmn hstk)))
  clear hcs hmb hmn hstk
  generalize hk : wl n = k at *
  generalize hxx : wd n (i / 64) = x at *
  go_enter Tryz.func75, Tryz.ntmps75
  go_wp2_with fail
  go_loop [22] (fun s22 => ∃ m : Nat, m ≤ i / 64 ∧ s22 = .int .i64 m ∧ n % 18446744073709551616 ^ m = 0) (fun s22 => (i / 64 - (intOf s22).toNat))
  case atStart => exact ⟨0, Nat.zero_le _, rfl, by rw [Nat.pow_zero, Nat.mod_one]⟩
  case round =>
    obtain ⟨m, hm, rfl, hz⟩ := hrel
    have HZ := Lib.hid hz
    clear hz
    obtain ⟨hcs, hmb, hmn, hstk⟩ := HX.out
    rcases Nat.lt_or_ge m (i / 64) with h1 | h1
    · have hcm := hcs m (by omega)
      have hnext := hmn m
      rw [HZ.out, Nat.zero_add] at hnext
      have m1 : (m : Int) < (i : Int) / 64 := by omega
      have m2 : (m : Int) < ((i / 64 : Nat) : Int) := by omega
      by_cases hd : wd n m = 0
      · rw [hd] at hcm hnext
        rw [Nat.mul_zero] at hnext
        have HN := Lib.hid hnext
        clear hcs hmb hmn hstk hnext hd
        go_wp2_with fail
        go_round
        case rel => exact ⟨m + 1, by omega, by go_num, HN.out⟩
        case measure => simp [intOf]; omega
      · have hne : (((wd n m : Nat) : Int) != 0) = true := by simp; exact hd
        have hne2 : (((wd n m : Nat) : Int) == 0) = false := by simp; exact hd
        have hfin : st = 1 := by
          rw [← hstk, if_neg ?_]
          intro h0
          have d1 : 2 ^ i ∣ n := Nat.dvd_of_mod_eq_zero h0
          have d2 : 18446744073709551616 ^ (m + 1) ∣ n := by
            refine Nat.dvd_trans ?_ d1
            rw [two64, ← Nat.pow_mul]
            exact Nat.pow_dvd_pow 2 (by omega)
          have d3 := Nat.mod_eq_zero_of_dvd d2
          rw [hnext] at d3
          rcases Nat.mul_eq_zero.1 d3 with d4 | d4
          · have := Nat.pow_pos (n := m) (show 0 < 18446744073709551616 by omega)
            omega
          · exact hd d4
        have HF := Lib.hid hfin
        clear hcs hmb hmn hstk hnext hfin
        generalize wd n m = y at *
        clear hd
        go_wp2_with fail
        go_ret
        exact ⟨by rw [HF.out]; rfl, rfl⟩
    · obtain rfl : m = i / 64 := by omega
      rw [hmb, HZ.out, Nat.zero_add] at hstk
      have m1 : ¬ ((i / 64 : Nat) : Int) < (i : Int) / 64 := by omega
      have hp : 0 < 18446744073709551616 ^ (i / 64) := Nat.pow_pos (by omega)
      by_cases hx0 : x % 2 ^ (i % 64) = 0
      · rw [hx0, Nat.mul_zero, if_pos rfl] at hstk
        rw [decide_eq_true hx0, Bool.not_true] at hst
        have HF := Lib.hid hstk
        clear hcs hmb hmn hstk hx0 hxx hk
        go_wp2_with fail
        go_ret
        exact ⟨by rw [← HF.out]; rfl, rfl⟩
      · rw [if_neg (Nat.mul_ne_zero (by omega) hx0)] at hstk
        rw [decide_eq_false hx0, Bool.not_false] at hst
        have HF := Lib.hid hstk
        clear hcs hmb hmn hstk hx0 hxx hk
        go_wp2_with fail
        go_ret
        exact ⟨by rw [← HF.out]; rfl, rfl⟩
end Go.Proofs.YtodipcgilgigbaaGreatDoor.V
