/- Two words divided by one: bitsDiv, reciprocalWord, divWW. -/
import Derived.Test.YtodipcgilgigbaaGreatDoorX1
set_option linter.unusedVariables false
namespace Go.Proofs.YtodipcgilgigbaaGreatDoor.V
open Go Go.RowKit Go.Proofs.YtodipcgilgigbaaGreatDoor.I
attribute [local go_sem ↓] Go.wp_at_zero Go.wp_at_succ
theorem div64_call (hi lo y : Int) (h0 : 0 ≤ hi) (h1 : hi < y) (l0 : 0 ≤ lo) (l1 : lo < 18446744073709551616) (hy : hi = 0 ∨ 9223372036854775808 ≤ y) (hy1 : y < 18446744073709551616) (w : World) :
    Calls Tryz.prog 194 #[.int .u64 hi, .int .u64 lo, .int .u64 y] w fun e w' => e = .returned (.tuple #[.int .u64 ((hi * 18446744073709551616 + lo) / y), .int .u64 ((hi * 18446744073709551616 + lo) % y)]) ∧ Below w.heap.size w w' := by
  by_cases hz : hi = 0
  · subst hz
    rw [Int.zero_mul, Int.zero_add]
    exact div64_low lo y l0 l1 h1 hy1 w
  · exact div64_top hi lo y h0 h1 l0 l1 (by omega) hy1 (by rw [beq_eq_false_iff_ne]; exact hz) w
set_option maxRecDepth 100000 in
theorem bitsDiv_call (hi lo y : Int) (h0 : 0 ≤ hi) (h1 : hi < y) (l0 : 0 ≤ lo) (l1 : lo < 18446744073709551616) (hy : hi = 0 ∨ 9223372036854775808 ≤ y) (hy1 : y < 18446744073709551616) (w : World) :
    Calls Tryz.prog 186 #[.int .u64 hi, .int .u64 lo, .int .u64 y] w fun e w' => e = .returned (.tuple #[.int .u64 ((hi * 18446744073709551616 + lo) / y), .int .u64 ((hi * 18446744073709551616 + lo) % y)]) ∧ Below w.heap.size w w' := by
  have D := div64_call hi lo y h0 h1 l0 l1 hy hy1
  clear hy
  generalize (hi * 18446744073709551616 + lo) / y = q at *
  generalize (hi * 18446744073709551616 + lo) % y = r at *
  go_enter Tryz.func186, Tryz.ntmps186
  go_wp2_with (go_at_call 194; refine (D _).mono ?_; rintro _ w1 ⟨rfl, hb1⟩)
  go_ret2
  exact ⟨rfl, hb1⟩
/-- The reciprocal of a word. -/
def rcp (d : Nat) : Nat := 340282366920938463463374607431768211455 / (d * 2 ^ (64 - bl d)) - 18446744073709551616
theorem top_shift {d : Nat} (h : d ≠ 0) (h1 : d < 18446744073709551616) : 9223372036854775808 ≤ d * 2 ^ (64 - bl d) ∧ d * 2 ^ (64 - bl d) < 18446744073709551616 ∧ 64 - bl d < 64 := by
  have hb := bl_le 64 (show d < 2 ^ 64 by omega)
  have e : bl d = d.log2 + 1 := by unfold bl; rw [if_neg h]
  have l1 := Nat.log2_self_le h
  have l2 := Nat.lt_log2_self (n := d)
  have p : 2 ^ (64 - bl d) * 2 ^ d.log2 = 9223372036854775808 := by
    rw [← Nat.pow_add, show 64 - bl d + d.log2 = 63 by omega]
  have p2 : 2 ^ (64 - bl d) * 2 ^ (d.log2 + 1) = 18446744073709551616 := by
    rw [← Nat.pow_add, show 64 - bl d + (d.log2 + 1) = 64 by omega]
  have hp := Nat.two_pow_pos (64 - bl d)
  have a := Nat.mul_le_mul_left (2 ^ (64 - bl d)) l1
  have b := Nat.mul_lt_mul_of_pos_left l2 hp
  rw [p] at a
  rw [p2] at b
  rw [Nat.mul_comm d]
  omega
theorem rcp_is {d u : Nat} (hu : u = d * 2 ^ (64 - bl d)) (h : 9223372036854775808 ≤ u) (h1 : u < 18446744073709551616) : (((18446744073709551615 - u : Nat) : Int) * 18446744073709551616 + 18446744073709551615) / (u : Int) = ((rcp d : Nat) : Int) ∧ rcp d < 18446744073709551616 ∧ (rcp d + 18446744073709551616) * u ≤ 340282366920938463463374607431768211455 ∧ 340282366920938463463374607431768211456 ≤ (rcp d + 18446744073709551616 + 1) * u := by
  unfold rcp
  rw [← hu]
  have e := Nat.div_add_mod 340282366920938463463374607431768211455 u
  have m := Nat.mod_lt 340282366920938463463374607431768211455 (show u > 0 by omega)
  have q1 : 18446744073709551616 ≤ 340282366920938463463374607431768211455 / u := (Nat.le_div_iff_mul_le (by omega)).2 (by omega)
  have q2 : 340282366920938463463374607431768211455 / u < 36893488147419103232 := (Nat.div_lt_iff_lt_mul (by omega)).2 (by omega)
  have e2 : (18446744073709551615 - u) * 18446744073709551616 + 18446744073709551615 + 18446744073709551616 * u = 340282366920938463463374607431768211455 := by omega
  have k : ((18446744073709551615 - u) * 18446744073709551616 + 18446744073709551615) / u = 340282366920938463463374607431768211455 / u - 18446744073709551616 := by
    have k0 := Nat.add_mul_div_right ((18446744073709551615 - u) * 18446744073709551616 + 18446744073709551615) 18446744073709551616 (show 0 < u by omega)
    rw [e2] at k0
    rw [k0, Nat.add_sub_cancel]
  have k2 : (((18446744073709551615 - u : Nat) : Int) * 18446744073709551616 + 18446744073709551615) = (((18446744073709551615 - u) * 18446744073709551616 + 18446744073709551615 : Nat) : Int) := by omega
  rw [k2, ← Int.natCast_ediv, k]
  generalize 340282366920938463463374607431768211455 / u = Q at *
  have a1 : (Q - 18446744073709551616 + 18446744073709551616) * u = u * Q := by rw [Nat.sub_add_cancel q1, Nat.mul_comm]
  have a2 : (Q - 18446744073709551616 + 18446744073709551616 + 1) * u = u * Q + u := by rw [Nat.sub_add_cancel q1, Nat.add_mul, Nat.one_mul, Nat.mul_comm]
  exact ⟨rfl, by omega, by omega, by omega⟩
theorem shl_is {d s : Nat} (h1 : d * 2 ^ s < 18446744073709551616) : IntKind.u64.wrap ((d : Int) * 2 ^ s) = ((d * 2 ^ s : Nat) : Int) := by
  have e : (d : Int) * 2 ^ s = ((d * 2 ^ s : Nat) : Int) := by rw [Int.natCast_mul, Int.natCast_pow]; rfl
  rw [e, wrapu_nat, Nat.mod_eq_of_lt h1]
theorem not_u64 {u : Nat} (h : u < 18446744073709551616) : bits .xor .u64 IntKind.u64.max (u : Int) = ((18446744073709551615 - u : Nat) : Int) := by
  show IntKind.u64.wrap ((BitVec.ofInt 64 IntKind.u64.max ^^^ BitVec.ofInt 64 (u : Int)).toNat : Int) = _
  have e : BitVec.ofInt 64 IntKind.u64.max = BitVec.allOnes 64 := by decide +kernel
  rw [e, BitVec.allOnes_xor, BitVec.toNat_not, ofInt_u64 u h, wrapu_emod]
  omega
set_option maxRecDepth 100000 in
theorem rcp_call (d : Nat) (h : d ≠ 0) (h1 : d < 18446744073709551616) (w : World) : Calls Tryz.prog 187 #[.int .u64 d] w fun e w' => e = .returned (.int .u64 (rcp d : Nat)) ∧ Below w.heap.size w w' := by
  obtain ⟨t1, t2, t3⟩ := top_shift h h1
  have NZ := nlz_call d h1
  have S := shl_is t2
  obtain ⟨k1, k2, k3, k4⟩ := rcp_is (d := d) rfl t1 t2
  clear k3 k4
  generalize 64 - bl d = s at *
  generalize d * 2 ^ s = u at *
  have D := bitsDiv_call ((18446744073709551615 - u : Nat) : Int) 18446744073709551615 u (by omega) (by omega) (by omega) (by omega) (by omega) (by omega)
  rw [k1] at D
  have X := not_u64 t2
  clear k1
  generalize rcp d = q at *
  generalize 18446744073709551615 - u = v at *
  generalize ((v : Int) * 18446744073709551616 + 18446744073709551615) % (u : Int) = r at *
  go_enter Tryz.func187, Tryz.ntmps187
  go_wp2_with (first | (go_at_call 90; refine (NZ _).mono ?_; rintro _ w1 ⟨rfl, rfl⟩) | (go_at_call 186; ((with_reducible refine (D _).mono ?_); rintro _ w1 ⟨rfl, hb1⟩)))
  go_ret
  exact ⟨rfl, hb1⟩
end Go.Proofs.YtodipcgilgigbaaGreatDoor.V
