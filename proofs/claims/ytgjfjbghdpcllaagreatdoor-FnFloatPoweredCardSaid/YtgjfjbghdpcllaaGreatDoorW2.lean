/- Walks of strconv's scaling. -/
import Derived.Test.YtgjfjbghdpcllaaGreatDoorW1
import Derived.Test.YtgjfjbghdpcllaaGreatDoorU6
namespace Go.Proofs.YtgjfjbghdpcllaaGreatDoor
open Go Go.RowKit U

theorem bool2_64 (b : Bool) (w : World) : Calls Tryz.prog 94 #[.bool b] w fun e w' => e = .returned (.int .u64 (if b then 1 else 0)) ∧ w = w' := by
  cases b
  all_goals
    go_enter Tryz.func94, Tryz.ntmps94
    go_wp2
    go_ret
    exact ⟨rfl, rfl⟩
theorem bool2_un (b : Bool) (w : World) : Calls Tryz.prog 95 #[.bool b] w fun e w' => e = .returned (.int .u64 (if b then 1 else 0)) ∧ w = w' := by
  cases b
  all_goals
    go_enter Tryz.func95, Tryz.ntmps95
    go_wp2
    go_ret
    exact ⟨rfl, rfl⟩
theorem and63 : ∀ s : Nat, s < 64 → bits .and .i64 (s : Int) 63 = (s : Int) := by decide +kernel
theorem mul_is (x y : Nat) (hx : x < 18446744073709551616) (hy : y < 18446744073709551616) (w : World) : Calls Tryz.prog 93 #[.int .u64 x, .int .u64 y] w fun e w' => e = .returned (.tuple #[.int .u64 ((x * y / 18446744073709551616 : Nat) : Int), .int .u64 ((x * y % 18446744073709551616 : Nat) : Int)]) ∧ w = w' :=
  (Tryz.bits_Mul64 x y hx hy w).mono fun _ _ h => ⟨h.1, h.2.symm⟩
set_option maxRecDepth 100000 in
theorem uscale_odd (x hi H M R : Int) (s g : Nat) (w : World) (m1 : ∀ w, Calls Tryz.prog 93 #[.int .u64 x, .int .u64 hi] w fun e w' => e = .returned (.tuple #[.int .u64 H, .int .u64 M]) ∧ w = w') (hs : s < 64)
    (c0 : w.cell? ⟨g, 0, none⟩ = some (.int .u64 hi)) (c2 : w.cell? ⟨g, 2, none⟩ = some (.int .i64 s))
    (hd : (IntKind.u64.wrap (H / 2 ^ s * 2 ^ s) != H) = true) (hR : bits .or .u64 (H / 2 ^ s) 1 = R) :
    Calls Tryz.prog 76 #[.int .u64 x, .pointer (some ⟨g, 0, none⟩)] w fun e w' => e = .returned (.int .u64 R) ∧ ∃ n, w' = w.drewN n := by
  have k63 := and63 s hs
  have hs' : (s : Int) < 64 := by omega
  have hs0 : (0 : Int) ≤ s := by omega
  clear hs
  go_enter Tryz.func76, Tryz.ntmps76
  go_wp2_with fail
  refine (m1 _).mono ?_; rintro e w' ⟨rfl, rfl⟩
  go_wp2_with fail
  go_ret
  exact ⟨rfl, 0, rfl⟩
set_option maxRecDepth 100000 in
theorem uscale_even (x hi lo H M H2 M2 R : Int) (s g : Nat) (w : World) (m1 : ∀ w, Calls Tryz.prog 93 #[.int .u64 x, .int .u64 hi] w fun e w' => e = .returned (.tuple #[.int .u64 H, .int .u64 M]) ∧ w = w') (hs : s < 64)
    (m2 : ∀ w, Calls Tryz.prog 93 #[.int .u64 x, .int .u64 lo] w fun e w' => e = .returned (.tuple #[.int .u64 H2, .int .u64 M2]) ∧ w = w')
    (c0 : w.cell? ⟨g, 0, none⟩ = some (.int .u64 hi)) (c1 : w.cell? ⟨g, 1, none⟩ = some (.int .u64 lo)) (c2 : w.cell? ⟨g, 2, none⟩ = some (.int .i64 s))
    (hd : (IntKind.u64.wrap (H / 2 ^ s * 2 ^ s) != H) = false)
    (b1 : Int) (hb1 : (if decide (M < H2) then (1 : Int) else 0) = b1) (b2 : Int) (hb2 : (if decide (IntKind.u64.wrap (M - H2) > 1) then (1 : Int) else 0) = b2)
    (hR : bits .or .u64 (IntKind.u64.wrap (H - b1) / 2 ^ s) b2 = R) :
    Calls Tryz.prog 76 #[.int .u64 x, .pointer (some ⟨g, 0, none⟩)] w fun e w' => e = .returned (.int .u64 R) ∧ ∃ n, w' = w.drewN n := by
  have k63 := and63 s hs
  have hs' : (s : Int) < 64 := by omega
  have hs0 : (0 : Int) ≤ s := by omega
  have B1 := bool2_64 (decide (M < H2))
  have B2 := bool2_64 (decide (IntKind.u64.wrap (M - H2) > 1))
  rw [hb1] at B1
  rw [hb2] at B2
  clear hs hb1 hb2
  go_enter Tryz.func76, Tryz.ntmps76
  go_wp2_with fail
  refine (m1 _).mono ?_; rintro e w' ⟨rfl, rfl⟩
  go_wp2_with fail
  refine (m2 _).mono ?_; rintro e w' ⟨rfl, rfl⟩
  go_wp2_with fail
  refine (B1 _).mono ?_; rintro e w' ⟨rfl, rfl⟩
  go_wp2_with fail
  go_quiet ((go_at_call 94; refine Calls.quiet_of_same ((B2 _).mono (fun _ _ h => ⟨h.1, h.2.symm⟩))))
  go_wp2
  go_ret
  exact ⟨rfl, _, rfl⟩
theorem or_nat (a b : Nat) (ha : a < 18446744073709551616) (hb : b < 18446744073709551616) : bits .or .u64 (a : Int) (b : Int) = ((a ||| b : Nat) : Int) := u64_or_nat a b ha hb
theorem u64_wrap (x : Int) : IntKind.u64.wrap x = x % 18446744073709551616 := by simp [IntKind.wrap, IntKind.bits, IntKind.signed]
theorem u64_nat (n : Nat) (h : n < 18446744073709551616) : IntKind.u64.wrap (n : Int) = (n : Int) := by rw [u64_wrap]; omega
theorem div_le' (a b : Nat) : a / b ≤ a := Nat.div_le_self a b
/-- uscale gives what the plain law speaks of. -/
theorem uscale_any (x hi lo s g : Nat) (w : World) (hx : x < 18446744073709551616) (hhi : hi < 18446744073709551616) (hlo : lo < 18446744073709551616) (hs : s < 64) (hH : 18446744073709551616 ≤ x * hi)
    (c0 : w.cell? ⟨g, 0, none⟩ = some (.int .u64 hi)) (c1 : w.cell? ⟨g, 1, none⟩ = some (.int .u64 lo)) (c2 : w.cell? ⟨g, 2, none⟩ = some (.int .i64 s)) :
    Calls Tryz.prog 76 #[.int .u64 x, .pointer (some ⟨g, 0, none⟩)] w fun e w' => e = .returned (.int .u64 (us x hi lo s : Nat)) ∧ ∃ n, w' = w.drewN n := by
  have m1 := mul_is x hi hx hhi
  have m2 := mul_is x lo hx hlo
  have hHlt : x * hi / 18446744073709551616 < 18446744073709551616 := Nat.div_lt_of_lt_mul (Nat.mul_lt_mul'' hx hhi)
  have hH1 : 1 ≤ x * hi / 18446744073709551616 := (Nat.le_div_iff_mul_le (by omega)).2 (by omega)
  have hM : x * hi % 18446744073709551616 < 18446744073709551616 := Nat.mod_lt _ (by omega)
  have hm : x * lo / 18446744073709551616 < 18446744073709551616 := Nat.div_lt_of_lt_mul (Nat.mul_lt_mul'' hx hlo)
  clear hH
  unfold us
  generalize x * hi / 18446744073709551616 = H at *
  generalize x * hi % 18446744073709551616 = M at *
  generalize x * lo / 18446744073709551616 = m at *
  generalize x * lo % 18446744073709551616 = m' at *
  simp only
  have hmul : H / 2 ^ s * 2 ^ s ≤ H := Nat.div_mul_le_self _ _
  have hc : IntKind.u64.wrap ((H : Int) / 2 ^ s * 2 ^ s) = ((H / 2 ^ s * 2 ^ s : Nat) : Int) := by
    rw [← u64_nat (H / 2 ^ s * 2 ^ s) (by omega)]
    congr 1
  have hdl := div_le' H (2 ^ s)
  have hq : (H : Int) / 2 ^ s = ((H / 2 ^ s : Nat) : Int) := by simp
  by_cases h : H / 2 ^ s * 2 ^ s = H
  · rw [if_pos h]
    have hb : (H - if M < m then 1 else 0) < 18446744073709551616 := by omega
    refine uscale_even x hi lo H M m m' _ s g w m1 hs m2 c0 c1 c2 (by rw [hc, h]; simp) (if M < m then 1 else 0) (by simp) (if 1 < (M + 18446744073709551616 - m) % 18446744073709551616 then 1 else 0) ?_ ?_
    · rw [u64_wrap]
      by_cases hh : 1 < (M + 18446744073709551616 - m) % 18446744073709551616
      · rw [if_pos hh, if_pos (by simp; omega)]
      · rw [if_neg hh, if_neg (by simp; omega)]
    · have e1 : IntKind.u64.wrap ((H : Int) - (if M < m then 1 else 0)) = ((H - if M < m then 1 else 0 : Nat) : Int) := by
        rw [u64_wrap]
        split <;> omega
      have e2 : ((if 1 < (M + 18446744073709551616 - m) % 18446744073709551616 then 1 else 0 : Int)) = ((if 1 < (M + 18446744073709551616 - m) % 18446744073709551616 then 1 else 0 : Nat) : Int) := by split <;> rfl
      have e3 : ((H - if M < m then 1 else 0 : Nat) : Int) / 2 ^ s = (((H - if M < m then 1 else 0) / 2 ^ s : Nat) : Int) := by simp
      rw [e1, e2, e3]
      exact or_nat _ _ (Nat.lt_of_le_of_lt (div_le' _ _) hb) (by split <;> omega)
  · rw [if_neg h]
    refine uscale_odd x hi H M _ s g w m1 hs c0 c2 ?_ ?_
    · rw [hc]
      simp only [bne_iff_ne, ne_eq]
      intro hh
      exact h (Int.ofNat.inj hh)
    · rw [hq]
      exact or_nat (H / 2 ^ s) 1 (Nat.lt_of_le_of_lt hdl hHlt) (by decide)
end Go.Proofs.YtgjfjbghdpcllaaGreatDoor
