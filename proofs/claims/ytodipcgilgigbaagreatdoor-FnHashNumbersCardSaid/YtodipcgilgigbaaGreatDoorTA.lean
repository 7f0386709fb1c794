/- A float that is a whole number: its bits, how it stands to the bounds of int64, its whole number. Plain. -/
import Derived.Test.YtodipcgilgigbaaGreatDoorN1
import Derived.Laws.BitsAllLaws
import Derived.Test.YtodipcgilgigbaaGreatDoorVY
import Derived.Test.YtodipcgilgigbaaGreatDoorV5
import Derived.Test.YtodipcgilgigbaaGreatDoorS2
import Derived.Test.YtodipcgilgigbaaGreatDoorCT
import Derived.Test.YtodipcgilgigbaaGreatDoorYA
set_option linter.unusedVariables false
namespace Go.Proofs.YtodipcgilgigbaaGreatDoor.V
open Go

/-- A normal float's bits, by sign, exponent, fraction. -/
def Fl (b : Nat) (s : Bool) (e F : Nat) : Prop := b = (if s then 9223372036854775808 else 0) + (e * 4503599627370496 + F) ∧ F < 4503599627370496 ∧ 0 < e ∧ e < 2047
theorem Fl.read {b e F : Nat} {s : Bool} (h : Fl b s e F) : FloatKind.f64.format.read b = .number s (4503599627370496 + F) ((e : Int) - 1075) := by
  obtain ⟨hb, hF, h0, h1⟩ := h
  have a1 : b % 9223372036854775808 = e * 4503599627370496 + F := by cases s <;> simp at hb <;> omega
  have a2 : (b / 9223372036854775808 % 2 == 1) = s := by
    cases s
    · rw [beq_eq_false_iff_ne]; simp at hb; omega
    · rw [beq_iff_eq]; simp at hb; omega
  unfold Ieee.Format.read
  simp only [weight, binade, infRung, leastPlace, a1, a2]
  rw [if_neg (by omega), if_pos (by omega)]
  congr 1 <;> omega
theorem Fl.lt {b e F : Nat} {s : Bool} (h : Fl b s e F) : b < 18446744073709551616 := by
  obtain ⟨hb, hF, h0, h1⟩ := h
  split at hb <;> omega
theorem cmp_lt {a b : Int} (h : a < b) : compare a b = .lt := by simp [compare, compareOfLessAndEq, h]
theorem cmp_eq {a b : Int} (h : a = b) : compare a b = .eq := by subst h; simp [compare, compareOfLessAndEq]
theorem cmp_gt {a b : Int} (h : b < a) : compare a b = .gt := by simp [compare, compareOfLessAndEq, show ¬ a < b by omega, show ¬ a = b by omega]
theorem signed_is (s : Bool) (m t : Nat) : Ieee.signed s m t = if s then -((m * 2 ^ t : Nat) : Int) else ((m * 2 ^ t : Nat) : Int) := by
  unfold Ieee.signed
  rw [Nat.shiftLeft_eq]
theorem lo_read : FloatKind.f64.format.read 14114281232179134464 = .number true 4503599627370496 11 := by decide +kernel
theorem hi_read : FloatKind.f64.format.read 4890909195324358656 = .number false 4503599627370496 11 := by decide +kernel
theorem zero_read : FloatKind.f64.format.read 0 = .number false 0 (-1074) := by decide +kernel
theorem max_read : FloatKind.f64.format.read 9218868437227405311 = .number false 9007199254740991 971 := by decide +kernel
theorem order_num {x y : Nat} {s t : Bool} {m n : Nat} {i j : Int} (hx : FloatKind.f64.format.read x = .number s m i) (hy : FloatKind.f64.format.read y = .number t n j) :
    FloatKind.f64.format.order x y = some (compare (if s then -((m * 2 ^ (i - min i j).toNat : Nat) : Int) else ((m * 2 ^ (i - min i j).toNat : Nat) : Int)) (if t then -((n * 2 ^ (j - min i j).toNat : Nat) : Int) else ((n * 2 ^ (j - min i j).toNat : Nat) : Int))) := by
  unfold Ieee.Format.order
  rw [hx, hy]
  unfold Ieee.Datum.order
  simp only [signed_is]
theorem Fl.neg {b e F : Nat} {s : Bool} (h : Fl b s e F) : (FloatKind.f64.format.order b 0 == some Ordering.lt) = s := by
  rw [order_num h.read zero_read]
  have hp := Nat.two_pow_pos ((e : Int) - 1075 - min ((e : Int) - 1075) (-1074)).toNat
  have hk : 0 < (4503599627370496 + F) * 2 ^ ((e : Int) - 1075 - min ((e : Int) - 1075) (-1074)).toNat := Nat.mul_pos (by omega) hp
  rw [Nat.zero_mul]
  generalize (4503599627370496 + F) * 2 ^ ((e : Int) - 1075 - min ((e : Int) - 1075) (-1074)).toNat = k at *
  cases s
  · rw [if_neg (by decide), if_neg (by decide), cmp_gt (by omega)]; rfl
  · rw [if_pos rfl, if_neg (by decide), cmp_lt (by omega)]; rfl
/-- Within int64 by its exponent. -/
theorem Fl.low {b e F : Nat} {s : Bool} (h : Fl b s e F) (he : e < 1086) : FloatKind.f64.format.order 14114281232179134464 b = some .lt ∧ FloatKind.f64.format.order b 4890909195324358656 = some .lt := by
  obtain ⟨_, hF, h0, h1⟩ := id h
  rw [order_num lo_read h.read, order_num h.read hi_read]
  have m1 : min 11 ((e : Int) - 1075) = (e : Int) - 1075 := by omega
  have m2 : min ((e : Int) - 1075) 11 = (e : Int) - 1075 := by omega
  obtain ⟨t, ht⟩ : ∃ t, (11 - ((e : Int) - 1075)).toNat = t + 1 := ⟨1085 - e, by omega⟩
  have hp := Nat.two_pow_pos t
  rw [m1, m2, Int.sub_self, ht, Nat.pow_succ]
  simp only [Int.toNat_zero, Nat.pow_zero, Nat.mul_one, if_true, Bool.false_eq_true, if_false]
  generalize 2 ^ t = P at *
  have hk : 4503599627370496 + F < 4503599627370496 * (P * 2) := by omega
  constructor
  · rw [cmp_lt]; split <;> omega
  · rw [cmp_lt]; split <;> omega
theorem high_aux (Q k : Nat) (s : Bool) (hk : Q ≤ k) (hk2 : s = true → Q < k) : ((some (compare (-(Q : Int)) (if s then -(k : Int) else (k : Int))) == some Ordering.lt || some (compare (-(Q : Int)) (if s then -(k : Int) else (k : Int))) == some Ordering.eq) && (some (compare (if s then -(k : Int) else (k : Int)) (Q : Int)) == some Ordering.lt)) = false := by
  cases s
  · have : compare (k : Int) Q ≠ .lt := by
      rcases Nat.lt_or_ge Q k with h | h
      · rw [cmp_gt (by omega)]; decide
      · rw [cmp_eq (by omega)]; decide
    simp [this]
  · have hk3 := hk2 rfl
    rw [if_pos rfl, cmp_gt (by omega)]
    rfl
/-- From 2 to the 63rd on. -/
theorem Fl.high {b e F : Nat} {s : Bool} (h : Fl b s e F) (he : 1086 ≤ e) (hx : ¬ (s = true ∧ F = 0 ∧ e = 1086)) : ((FloatKind.f64.format.order 14114281232179134464 b == some Ordering.lt || FloatKind.f64.format.order 14114281232179134464 b == some Ordering.eq) && (FloatKind.f64.format.order b 4890909195324358656 == some Ordering.lt)) = false := by
  obtain ⟨_, hF, h0, h1⟩ := id h
  rw [order_num lo_read h.read, order_num h.read hi_read]
  have m1 : min 11 ((e : Int) - 1075) = 11 := by omega
  have m2 : min ((e : Int) - 1075) 11 = 11 := by omega
  obtain ⟨t, ht⟩ : ∃ t, ((e : Int) - 1075 - 11).toNat = t := ⟨_, rfl⟩
  rw [m1, m2, Int.sub_self, ht]
  simp only [Int.toNat_zero, Nat.pow_zero, Nat.mul_one, if_true, Bool.false_eq_true, if_false]
  have hk : 4503599627370496 + F ≤ (4503599627370496 + F) * 2 ^ t := Nat.le_mul_of_pos_right _ (Nat.two_pow_pos t)
  refine high_aux _ _ s (by omega) (fun hs => ?_)
  by_cases hF0 : F = 0
  · have : e ≠ 1086 := fun he => hx ⟨hs, hF0, he⟩
    obtain ⟨u, rfl⟩ : ∃ u, t = u + 1 := ⟨t - 1, by omega⟩
    rw [Nat.pow_succ]
    have h3 : (4503599627370496 + F) * 2 ≤ (4503599627370496 + F) * (2 ^ u * 2) := Nat.mul_le_mul_left _ (by have := Nat.two_pow_pos u; omega)
    omega
  · omega
/-- n is what the float is worth. -/
def Worth (e F n : Nat) : Prop := n ≠ 0 ∧ (1075 ≤ e → n = (4503599627370496 + F) * 2 ^ (e - 1075)) ∧ (e < 1075 → n * 2 ^ (1075 - e) = 4503599627370496 + F)
theorem Worth.least {e F n : Nat} (hF : F < 4503599627370496) (h : Worth e F n) : 1023 ≤ e := by
  obtain ⟨h0, _, h2⟩ := h
  rcases Nat.lt_or_ge e 1023 with he | he
  · exfalso
    have h3 := h2 (by omega)
    have h4 : 2 ^ 53 ≤ 2 ^ (1075 - e) := Nat.pow_le_pow_right (by omega) (by omega)
    have h5 : 2 ^ (1075 - e) ≤ n * 2 ^ (1075 - e) := Nat.le_mul_of_pos_left _ (by omega)
    have h6 : (2 : Nat) ^ 53 = 9007199254740992 := by decide
    omega
  · exact he
theorem Worth.div {e F n : Nat} (h : Worth e F n) (he : e < 1075) : (4503599627370496 + F) / 2 ^ (1075 - e) = n ∧ (4503599627370496 + F) % 2 ^ (1075 - e) = 0 := by
  rw [← h.2.2 he]
  exact ⟨Nat.mul_div_cancel _ (Nat.two_pow_pos _), Nat.mul_mod_left _ _⟩
theorem Fl.int {b e F n : Nat} {s : Bool} (h : Fl b s e F) (hn : Worth e F n) : (FloatKind.f64.decode b).toInt .zero = some (if s then -(n : Int) else (n : Int)) := by
  obtain ⟨_, hF, h0, h1⟩ := id h
  unfold FloatKind.decode Ieee.Datum.toInt Ieee.Datum.integral
  rw [h.read]
  simp only [signed_is, Nat.pow_zero, Nat.mul_one]
  suffices hc : Ieee.Toward.zero.cut s ((4503599627370496 + F) <<< ((e : Int) - 1075).toNat) (-((e : Int) - 1075)).toNat = n by rw [hc]
  unfold Ieee.Toward.cut
  simp only [Bool.toNat_false, Nat.add_zero, Nat.shiftLeft_eq, Nat.one_mul]
  rcases Nat.lt_or_ge e 1075 with he | he
  · rw [show ((e : Int) - 1075).toNat = 0 by omega, show (-((e : Int) - 1075)).toNat = 1075 - e by omega, Nat.pow_zero, Nat.mul_one, log_full (show Full (4503599627370496 + F) from ⟨by omega, by omega⟩)]
    have := hn.least hF
    rw [Nat.min_eq_left (by omega)]
    exact (hn.div he).1
  · rw [show ((e : Int) - 1075).toNat = e - 1075 by omega, show (-((e : Int) - 1075)).toNat = 0 by omega, Nat.zero_min, Nat.pow_zero, Nat.div_one]
    exact (hn.2.1 he).symm
theorem Worth.low {e F n : Nat} (hF : F < 4503599627370496) (hn : Worth e F n) (he : e < 1086) : n < 9223372036854775808 := by
  rcases Nat.lt_or_ge e 1075 with h | h
  · have := hn.2.2 h
    have h5 : n ≤ n * 2 ^ (1075 - e) := Nat.le_mul_of_pos_right _ (Nat.two_pow_pos _)
    omega
  · rw [hn.2.1 h]
    have : 2 ^ (e - 1075) ≤ 2 ^ 10 := Nat.pow_le_pow_right (by omega) (by omega)
    have h6 : (2 : Nat) ^ 10 = 1024 := by decide
    calc (4503599627370496 + F) * 2 ^ (e - 1075) ≤ (4503599627370496 + F) * 1024 := Nat.mul_le_mul_left _ (by omega)
      _ < 9223372036854775808 := by omega
theorem Worth.least63 {n : Nat} (hn : Worth 1086 0 n) : n = 9223372036854775808 := by
  rw [hn.2.1 (by omega)]
set_option exponentiation.threshold 2000 in
theorem Fl.finite {e F : Nat} (hF : F < 4503599627370496) (h0 : 0 < e) (h1 : e < 2047) : (FloatKind.f64.format.order (e * 4503599627370496 + F) 9218868437227405311 == some Ordering.lt || FloatKind.f64.format.order (e * 4503599627370496 + F) 9218868437227405311 == some Ordering.eq) = true := by
  have h : Fl (e * 4503599627370496 + F) false e F := ⟨by simp, hF, h0, h1⟩
  rw [order_num h.read max_read]
  have m2 : min ((e : Int) - 1075) 971 = (e : Int) - 1075 := by omega
  rw [m2, Int.sub_self]
  simp only [Int.toNat_zero, Nat.pow_zero, Nat.mul_one]
  have hk : 9007199254740991 ≤ 9007199254740991 * 2 ^ (971 - ((e : Int) - 1075)).toNat := Nat.le_mul_of_pos_right _ (Nat.two_pow_pos _)
  generalize 9007199254740991 * 2 ^ (971 - ((e : Int) - 1075)).toNat = k at *
  simp only [Bool.false_eq_true, if_false]
  rcases Nat.lt_or_ge (4503599627370496 + F) k with h | h
  · rw [cmp_lt (by omega)]; rfl
  · rw [cmp_eq (by omega)]; rfl
/-- The float that is nearest to a whole number is a whole number. -/
theorem nb_low (s : Bool) {n : Nat} (hn : n ≠ 0) (hl : n.log2 < 52) : Fl (nb s n) s (1023 + n.log2) (n * 2 ^ (52 - n.log2) - 4503599627370496) ∧ Worth (1023 + n.log2) (n * 2 ^ (52 - n.log2) - 4503599627370496) n := by
  have h1 : 2 ^ n.log2 ≤ n := Nat.log2_self_le hn
  have h2 : n < 2 ^ (n.log2 + 1) := Nat.lt_log2_self
  have hp : 2 ^ n.log2 * 2 ^ (52 - n.log2) = 4503599627370496 := by rw [← Nat.pow_add, show n.log2 + (52 - n.log2) = 52 by omega]
  have hp2 : 2 ^ (n.log2 + 1) * 2 ^ (52 - n.log2) = 9007199254740992 := by rw [← Nat.pow_add, show n.log2 + 1 + (52 - n.log2) = 53 by omega]
  have b1 : 4503599627370496 ≤ n * 2 ^ (52 - n.log2) := by rw [← hp]; exact Nat.mul_le_mul_right _ h1
  have b2 : n * 2 ^ (52 - n.log2) < 9007199254740992 := by rw [← hp2]; exact Nat.mul_lt_mul_of_pos_right h2 (Nat.two_pow_pos _)
  refine ⟨⟨?_, by omega, by omega, by omega⟩, hn, fun h => by omega, fun _ => ?_⟩
  · unfold nb Ieee.Format.nearest
    rw [if_neg hn]
    have hl : max (0 + (n.log2 : Int) - FloatKind.f64.format.fractionBits) FloatKind.f64.format.leastPlace = (n.log2 : Int) - 52 := by
      rw [leastPlace, fractionBits]
      omega
    simp only [hl]
    rw [leastPlace, binade, infRung, word_of, show (0 - ((n.log2 : Int) - 52)).toNat = 52 - n.log2 by omega, show ((n.log2 : Int) - 52 - 0).toNat = 0 by omega, Nat.shiftLeft_eq, cut_ev _ _ _ (by omega), ev_zero, show ((n.log2 : Int) - 52 - -1074).toNat = n.log2 + 1022 by omega]
    omega
  · rw [show 1075 - (1023 + n.log2) = 52 - n.log2 by omega]
    omega
theorem nb_fl (s : Bool) (n : Nat) (hn : n ≠ 0) (hl : n.log2 < 960) : ∃ e F m, Fl (nb s n) s e F ∧ Worth e F m ∧ e ≤ 2000 := by
  rcases Nat.lt_or_ge n.log2 52 with h | h
  · obtain ⟨h1, h2⟩ := nb_low s hn h
    exact ⟨_, _, _, h1, h2, by omega⟩
  · have hk := kp_full h
    have h2 : (kp n).2 ≤ n.log2 - 52 + 1 := by
      unfold kp
      simp only
      split <;> simp only <;> omega
    have hb := nb_kp s h
    rw [if_pos (show (kp n).2 ≤ 971 by omega)] at hb
    obtain ⟨k1, k2⟩ := hk
    have hk0 : 4503599627370496 + ((kp n).1 - 4503599627370496) = (kp n).1 := by omega
    refine ⟨(kp n).2 + 1075, (kp n).1 - 4503599627370496, (kp n).1 * 2 ^ (kp n).2, ⟨?_, by omega, by omega, by omega⟩, ⟨?_, fun _ => ?_, fun h => by omega⟩, by omega⟩
    · rw [hb]; unfold fb; omega
    · have := Nat.two_pow_pos (kp n).2
      exact Nat.mul_ne_zero (by omega) (by omega)
    · rw [hk0, Nat.add_sub_cancel]
/-! ### The bits as they are read. -/
theorem Fl.exp {b e F : Nat} {s : Bool} (h : Fl b s e F) : bits .and .u64 ((b : Int) / 4503599627370496) 2047 = (e : Int) := by
  have hl := h.lt
  obtain ⟨hb, hF, h0, h1⟩ := h
  have h3 := u64_and_nat (b / 4503599627370496) 2047 (by omega) (by decide)
  rw [show ((2047 : Nat) : Int) = 2047 from rfl] at h3
  rw [show (b : Int) / 4503599627370496 = ((b / 4503599627370496 : Nat) : Int) by omega, h3, show (2047 : Nat) = 2 ^ 11 - 1 from rfl, Nat.and_two_pow_sub_one_eq_mod]
  cases s <;> simp at hb <;> omega
theorem Fl.frac {b e F : Nat} {s : Bool} (h : Fl b s e F) : bits .and .u64 (b : Int) 4503599627370495 = (F : Int) := by
  have hl := h.lt
  obtain ⟨hb, hF, h0, h1⟩ := h
  have h3 := u64_and_nat b 4503599627370495 hl (by decide)
  rw [show ((4503599627370495 : Nat) : Int) = 4503599627370495 from rfl] at h3
  rw [h3, show (4503599627370495 : Nat) = 2 ^ 52 - 1 from rfl, Nat.and_two_pow_sub_one_eq_mod]
  cases s <;> simp at hb <;> omega
theorem fr_or (F : Nat) (hlt : F < 4503599627370496) : bits .or .u64 (F : Int) 4503599627370496 = ((4503599627370496 + F : Nat) : Int) := by
  have h := u64_or_nat F 4503599627370496 (by omega) (by decide)
  rw [show ((4503599627370496 : Nat) : Int) = 4503599627370496 from rfl] at h
  rw [h]
  have h2 := Nat.two_pow_add_eq_or_of_lt (i := 52) (b := F) (by simpa using hlt) 1
  rw [Nat.mul_one, show (2 : Nat) ^ 52 = 4503599627370496 by decide] at h2
  rw [Nat.or_comm, ← h2]
theorem Fl.sign {b e F : Nat} {s : Bool} (h : Fl b s e F) : ((b : Int) / 9223372036854775808 == 1) = s := by
  obtain ⟨hb, hF, h0, h1⟩ := h
  cases s
  · rw [beq_eq_false_iff_ne]; simp at hb; omega
  · rw [beq_iff_eq]; simp at hb; omega
theorem Fl.abs {b e F : Nat} {s : Bool} (h : Fl b s e F) : bits .andNot .u64 (b : Int) 9223372036854775808 = ((e * 4503599627370496 + F : Nat) : Int) := by
  have hl := h.lt
  obtain ⟨hb, hF, h0, h1⟩ := h
  have h3 := u64_andNot_nat b 9223372036854775808 hl (by decide)
  rw [show ((9223372036854775808 : Nat) : Int) = 9223372036854775808 from rfl] at h3
  rw [h3, show (18446744073709551615 - 9223372036854775808 : Nat) = 2 ^ 63 - 1 from rfl, Nat.and_two_pow_sub_one_eq_mod]
  cases s <;> simp at hb <;> omega
end Go.Proofs.YtodipcgilgigbaaGreatDoor.V
/- spec.Whole of a float that is a whole number. -/
set_option linter.unusedVariables false
namespace Go.Proofs.YtodipcgilgigbaaGreatDoor.V
open Go Go.RowKit Go.Proofs.YtodipcgilgigbaaGreatDoor.I Go.Proofs.YtodipcgilgigbaaGreatDoorW.PrintWords Go.Proofs.YtodipcgilgigbaaGreatDoorW.PrintMore

theorem ofs_call (neg : Bool) (m : Nat) (hm : m < 18446744073709551616) (v : Value) (w : World) (h : IsB w v m) : Calls Tryz.prog 15 #[.bool neg, v] w (Gives w (if neg then -(m : Int) else (m : Int))) := by
  obtain ⟨A, c, rfl, hC, hc⟩ := h
  have e : spec_Of.f 9 neg (fix 8 m) = some ((ri (if neg then -(m : Int) else (m : Int))).1, (ri (if neg then -(m : Int) else (m : Int))).2) := by
    rw [of_fix neg 8 m 9 (by decide) (by omega), Nat.mod_eq_of_lt (by simpa using hm), sg_ri]
  exact (spec_Of.calls 9 neg A c (fix 8 m) _ _ w hC hc e).mono fun _ _ h => gives h
theorem lshz_is (neg : Bool) (x n k : Nat) (h : x ≠ 0) (hx : len x ≤ 100000) (hn : n ≤ 100000) (hk : (2 * n + 10) * len x + 2 * (len x + n) + 20 ≤ k) : spec_Int_Lsh.f k (ri (if neg then -(x : Int) else (x : Int))).1 (ri (if neg then -(x : Int) else (x : Int))).2 (n : Int) = some (ri (if neg then -((x * 2 ^ n : Nat) : Int) else ((x * 2 ^ n : Nat) : Int))) := by
  have hz : (if neg then -(x : Int) else (x : Int)) ≠ 0 := by cases neg <;> simp <;> omega
  have hp := len_pow2 n
  have hm : (2 * len (2 ^ n) + 6) * len x ≤ (2 * n + 10) * len x := Nat.mul_le_mul_right _ (by omega)
  unfold spec_Int_Lsh.f
  rw [zero_is, Option.bind_some, if_neg (by simpa using hz), power_is n k (by omega) (by omega), Option.bind_some, ← sg_ri neg x, ← sg_ri neg (x * 2 ^ n)]
  have hs : sg neg x = (neg, I.bytes x) := by unfold sg; rw [decide_eq_true h, Bool.and_true]
  rw [hs]
  show (spec_Int_Mul.f k neg (I.bytes x) (sg false (2 ^ n)).1 (sg false (2 ^ n)).2).bind _ = _
  have hs2 : sg false (2 ^ n) = (false, I.bytes (2 ^ n)) := rfl
  rw [hs2, mul_is neg false x (2 ^ n) k (by omega) (by omega) (by omega), show (neg != false) = neg by cases neg <;> rfl]
  rfl
theorem lshz_call (neg : Bool) (x n : Nat) (hx0 : x ≠ 0) (hx : len x ≤ 1000) (hn : n ≤ 10000) (v : Value) (w : World) (h : IsI w v (if neg then -(x : Int) else (x : Int))) : Calls Tryz.prog 19 #[v, .int .i64 n] w (Gives w (if neg then -((x * 2 ^ n : Nat) : Int) else ((x * 2 ^ n : Nat) : Int))) := by
  obtain ⟨A, c, rfl, hC, hc⟩ := h.read
  exact (spec_Int_Lsh.calls _ _ A c _ n _ _ w hC hc (lshz_is neg x n _ hx0 (by omega) (by omega) (Nat.le_refl _))).mono fun _ _ h => gives h
set_option maxRecDepth 100000 in
theorem parts_fl (b e F : Nat) (s : Bool) (h : Fl b s e F) (w : World) :
    Calls Tryz.prog 27 #[.float .f64 b] w fun r w' => r = .returned (.tuple #[.bool s, .int .u64 (4503599627370496 + F : Nat), .int .i64 ((e : Int) - 1075)]) ∧ w = w' := by
  have RB := run_bits b
  have x1 := h.exp
  have x2 := h.frac
  have x3 := h.sign
  obtain ⟨hbb, hF, h0, h1⟩ := h
  clear hbb
  have x4 := fr_or F hF
  have k0 : ((e : Int) == 0) = false := by rw [beq_eq_false_iff_ne]; omega
  have k1 : (0 : Int) ≤ e := by omega
  have k2 : (e : Int) < 2047 := by omega
  have hw : wrap64 (e : Int) = e := by unfold wrap64; omega
  have hw2 : wrap64 ((e : Int) - 1075) = (e : Int) - 1075 := by unfold wrap64; omega
  generalize ((4503599627370496 + F : Nat) : Int) = M at *
  generalize (F : Int) = F' at *
  generalize (e : Int) = E at *
  go_enter Tryz.func27, Tryz.ntmps27
  go_wp2_with fail
  go_ret3
  exact ⟨rfl, rfl⟩
set_option maxRecDepth 100000 in
theorem parts_zero (w : World) :
    Calls Tryz.prog 27 #[.float .f64 0] w fun r w' => r = .returned (.tuple #[.bool false, .int .u64 0, .int .i64 (-1074)]) ∧ w = w' := by
  have RB := run_bits 0
  have z1 : bits .and .u64 0 2047 = 0 := by decide +kernel
  have z2 : bits .and .u64 0 4503599627370495 = 0 := by decide +kernel
  go_enter Tryz.func27, Tryz.ntmps27
  go_wp2_with fail
  go_ret3
  exact ⟨rfl, rfl⟩
theorem zero_isI (w : World) : IsI w (.agg #[.bool false, .slice none 0 0]) 0 := ⟨_, by rfl, 0, by show Kd.R _ _ _ _ _ _ (I.bytes 0); rw [bytes_zero]; exact Kd.R_nil _ _ _ _ _⟩
set_option maxRecDepth 100000 in
set_option maxHeartbeats 1000000 in
theorem whole_up (b e F n : Nat) (s : Bool) (h : Fl b s e F) (hn : Worth e F n) (he : 1075 ≤ e) (he2 : e ≤ 2000) (w : World) :
    Calls Tryz.prog 7 #[.float .f64 b] w fun r w' => ∃ v, r = .returned (.tuple #[v, .bool true]) ∧ IsI w' v (if s then -(n : Int) else (n : Int)) ∧ Below w.heap.size w w' := by
  have PC := parts_fl b e F s h
  obtain ⟨hbb, hF, _, _⟩ := h
  clear hbb
  have hM : len (4503599627370496 + F) ≤ 1000 := Nat.le_trans (len_le (k := 8) (by omega)) (by omega)
  rw [hn.2.1 he]
  obtain ⟨p, rfl⟩ : ∃ p, e = 1075 + p := ⟨e - 1075, by omega⟩
  rw [show 1075 + p - 1075 = p by omega]
  rw [show ((1075 + p : Nat) : Int) - 1075 = (p : Int) by omega] at PC
  have OC := fun v w h => ofs_call s (4503599627370496 + F) (by omega) v w h
  have LC := fun v w h => lshz_call s (4503599627370496 + F) p (by omega) hM (by omega) v w h
  have k0 : (0 : Int) ≤ p := by omega
  have BC := bytesOf_call (4503599627370496 + F)
  clear hn hM hF
  generalize 4503599627370496 + F = M at *
  generalize hz0 : (if s then -(M : Int) else (M : Int)) = z0 at *
  generalize hz1 : (if s then -((M * 2 ^ p : Nat) : Int) else ((M * 2 ^ p : Nat) : Int)) = z1 at *
  clear hz0 hz1
  go_enter Tryz.func7, Tryz.ntmps7
  go_wp2_with fail
  with_reducible refine (PC _).mono ?_
  rintro _ w1 ⟨rfl, rfl⟩
  have hg0 := heap_alloc_new w (.cells #[.bool false, .slice none 0 0] 24)
  have hA : Below w.heap.size w (w.alloc (.cells #[.bool false, .slice none 0 0] 24)) := (Below.refl _ w).alloc (Nat.le_refl _) _
  have hsz : w.heap.size < (w.alloc (.cells #[.bool false, .slice none 0 0] 24)).heap.size := by simp
  generalize w.alloc (.cells #[.bool false, .slice none 0 0] 24) = W at *
  go_wp2_with fail
  with_reducible refine (BC _).mono ?_
  rintro _ w2 ⟨v2, rfl, i2, b2⟩
  obtain ⟨A2, c2, rfl, _, _⟩ := id i2
  go_wp2_with fail
  with_reducible refine (OC _ _ i2).mono ?_
  rintro _ w3 ⟨v3, rfl, i3, b3⟩
  obtain ⟨t3, A3, n3, k3, rfl⟩ := i3.form
  have B3 : Below W.heap.size W w3 := bt b2 b3 (Nat.le_refl _)
  have g3 := (B3.block _ hsz).trans hg0
  have l3 : w.heap.size < w3.heap.size := (Array.getElem?_eq_some_iff.1 g3).1
  go_wp2_with fail
  with_reducible refine (LC _ _ (i3.below ?_)).mono ?_
  · repeat (first | exact Below.refl _ _ | refine Below.setCell ?_ (Nat.le_refl _) _ | refine Below.alloc ?_ (Nat.le_refl _) _)
  rintro _ w4 ⟨v4, rfl, i4, b4⟩
  obtain ⟨t4, A4, n4, k4, rfl⟩ := i4.form
  have g4 := (b4.block w.heap.size (by simp; omega)).trans ((Below.heap_alloc _ _ _ (by omega)).trans g3)
  have B4 : Below w.heap.size w w4 := bt (bt hA (B3.alloc B3.size _) (by omega)) b4 (by first | (simp; done) | (simp; omega))
  have d0 := (Lib.cell_of_heap g4 0).trans (rfl : _ = some _)
  have d1 := (Lib.cell_of_heap g4 1).trans (rfl : _ = some _)
  have z0 := Lib.frozen_of_heap g4 0
  have z1 := Lib.frozen_of_heap g4 1
  go_wp2_with fail
  have p1 := heap_put g4 0 (.bool t4)
  have p2 := heap_put p1 1 (.slice A4 n4 k4)
  have q0 := (Lib.cell_of_heap p2 0).trans (rfl : _ = some _)
  have q1 := (Lib.cell_of_heap p2 1).trans (rfl : _ = some _)
  exact bodyPost_ret (v := .tuple #[.agg #[.bool t4, .slice A4 n4 k4], .bool true]) (by simp [results, Tryz.results7, go_sem, q0, q1]) rfl ⟨_, rfl, (i4.set g4 0 _).set p1 1 _, ((B4.setCell (p := ⟨w.heap.size, 0, none⟩) (Nat.le_refl _) _).setCell (p := ⟨w.heap.size, 1, none⟩) (Nat.le_refl _) _)⟩
set_option maxRecDepth 100000 in
set_option maxHeartbeats 1000000 in
theorem whole_down (b e F n : Nat) (s : Bool) (h : Fl b s e F) (hn : Worth e F n) (he : e < 1075) (w : World) :
    Calls Tryz.prog 7 #[.float .f64 b] w fun r w' => ∃ v, r = .returned (.tuple #[v, .bool true]) ∧ IsI w' v (if s then -(n : Int) else (n : Int)) ∧ Below w.heap.size w w' := by
  have PC := parts_fl b e F s h
  obtain ⟨hbb, hF, _, _⟩ := h
  clear hbb
  have he0 := hn.least hF
  obtain ⟨hd, hm⟩ := hn.div he
  obtain ⟨r, hr⟩ : ∃ r, 1075 - e = r := ⟨_, rfl⟩
  rw [hr] at hd hm
  obtain rfl : e = 1075 - r := by omega
  rw [show ((1075 - r : Nat) : Int) - 1075 = -(r : Int) by omega] at PC
  have hn64 : n < 18446744073709551616 := by
    have := Nat.div_le_self (4503599627370496 + F) (2 ^ r)
    omega
  have OC := fun v w h => ofs_call s (4503599627370496 + F) (by omega) v w h
  have BC := bytesOf_call (4503599627370496 + F)
  have ON := fun v w h => ofs_call s n hn64 v w h
  have BN := bytesOf_call n
  have kr : r ≤ 52 := by omega
  have kr0 : 0 < r := by omega
  have h52 : 2 ^ r ≤ 4503599627370496 := by
    have : 2 ^ r ≤ 2 ^ 52 := Nat.pow_le_pow_right (by omega) kr
    have h2 : (2 : Nat) ^ 52 = 4503599627370496 := by decide
    omega
  have hpos := Nat.two_pow_pos r
  have hw : IntKind.u64.wrap (IntKind.u64.wrap ((2 : Int) ^ r) - 1) = ((2 ^ r - 1 : Nat) : Int) := by
    have e : (2 : Int) ^ r = ((2 ^ r : Nat) : Int) := by rw [Int.natCast_pow]; rfl
    rw [e]
    generalize 2 ^ r = P at *
    simp [IntKind.wrap, IntKind.bits, IntKind.signed]
    omega
  have m1 : bits .and .u64 ((4503599627370496 + F : Nat) : Int) (IntKind.u64.wrap (IntKind.u64.wrap ((2 : Int) ^ r) - 1)) = 0 := by
    have h3 := u64_and_nat (4503599627370496 + F) (2 ^ r - 1) (by omega) (by omega)
    rw [Nat.and_two_pow_sub_one_eq_mod, hm] at h3
    rw [hw]
    exact h3
  have m2 : ((4503599627370496 + F : Nat) : Int) / 2 ^ r = (n : Int) := by
    rw [← hd, Int.natCast_ediv, Int.natCast_pow]; rfl
  clear hn hF hd hm hr he he0 hn64 h52 hpos hw
  generalize 4503599627370496 + F = M at *
  generalize hz0 : (if s then -(M : Int) else (M : Int)) = z0 at *
  generalize hz1 : (if s then -(n : Int) else (n : Int)) = z1 at *
  clear hz0 hz1
  go_enter Tryz.func7, Tryz.ntmps7
  go_wp2_with fail
  with_reducible refine (PC _).mono ?_
  rintro _ w1 ⟨rfl, rfl⟩
  have hg0 := heap_alloc_new w (.cells #[.bool false, .slice none 0 0] 24)
  have hA : Below w.heap.size w (w.alloc (.cells #[.bool false, .slice none 0 0] 24)) := (Below.refl _ w).alloc (Nat.le_refl _) _
  have hsz : w.heap.size < (w.alloc (.cells #[.bool false, .slice none 0 0] 24)).heap.size := by simp
  generalize w.alloc (.cells #[.bool false, .slice none 0 0] 24) = W at *
  go_wp2_with fail
  with_reducible refine (BC _).mono ?_
  rintro _ w2 ⟨v2, rfl, i2, b2⟩
  obtain ⟨A2, c2, rfl, _, _⟩ := id i2
  go_wp2_with fail
  with_reducible refine (OC _ _ i2).mono ?_
  rintro _ w3 ⟨v3, rfl, i3, b3⟩
  obtain ⟨t3, A3, n3, k3, rfl⟩ := i3.form
  have B3 : Below W.heap.size W w3 := bt b2 b3 (Nat.le_refl _)
  have g3 := (B3.block _ hsz).trans hg0
  have l3 : w.heap.size < w3.heap.size := (Array.getElem?_eq_some_iff.1 g3).1
  go_wp2_with fail
  with_reducible refine (BN _).mono ?_
  rintro _ w5 ⟨v5, rfl, i5, b5⟩
  obtain ⟨A5, c5, rfl, _, _⟩ := id i5
  go_wp2_with fail
  with_reducible refine (ON _ _ i5).mono ?_
  rintro _ w4 ⟨v4, rfl, i4, b4'⟩
  obtain ⟨t4, A4, n4, k4, rfl⟩ := i4.form
  have b4 := bt b5 b4' (Nat.le_refl _)
  have g4 := (b4.block w.heap.size (by simp; omega)).trans ((Below.heap_alloc _ _ _ (by omega)).trans g3)
  have B4 : Below w.heap.size w w4 := bt (bt hA (B3.alloc B3.size _) (by omega)) b4 (by first | (simp; done) | (simp; omega))
  have d0 := (Lib.cell_of_heap g4 0).trans (rfl : _ = some _)
  have d1 := (Lib.cell_of_heap g4 1).trans (rfl : _ = some _)
  have z0 := Lib.frozen_of_heap g4 0
  have z1 := Lib.frozen_of_heap g4 1
  go_wp2_with fail
  have p1 := heap_put g4 0 (.bool t4)
  have p2 := heap_put p1 1 (.slice A4 n4 k4)
  have q0 := (Lib.cell_of_heap p2 0).trans (rfl : _ = some _)
  have q1 := (Lib.cell_of_heap p2 1).trans (rfl : _ = some _)
  exact bodyPost_ret (v := .tuple #[.agg #[.bool t4, .slice A4 n4 k4], .bool true]) (by simp [results, Tryz.results7, go_sem, q0, q1]) rfl ⟨_, rfl, (i4.set g4 0 _).set p1 1 _, ((B4.setCell (p := ⟨w.heap.size, 0, none⟩) (Nat.le_refl _) _).setCell (p := ⟨w.heap.size, 1, none⟩) (Nat.le_refl _) _)⟩
set_option maxRecDepth 100000 in
theorem whole_zero (w : World) :
    Calls Tryz.prog 7 #[.float .f64 0] w fun r w' => ∃ v, r = .returned (.tuple #[v, .bool true]) ∧ IsI w' v 0 ∧ Below w.heap.size w w' := by
  have PC := parts_zero
  have BC := bytesOf_call 0
  have OC := fun v w h => ofs_call false 0 (by omega) v w h
  rw [if_neg (by decide), show ((0 : Nat) : Int) = 0 from rfl] at OC
  rw [show ((0 : Nat) : Int) = 0 from rfl] at BC
  go_enter Tryz.func7, Tryz.ntmps7
  go_wp2_with fail
  with_reducible refine (PC _).mono ?_
  rintro _ w1 ⟨rfl, rfl⟩
  have hg0 := heap_alloc_new w (.cells #[.bool false, .slice none 0 0] 24)
  have hA : Below w.heap.size w (w.alloc (.cells #[.bool false, .slice none 0 0] 24)) := (Below.refl _ w).alloc (Nat.le_refl _) _
  have hsz : w.heap.size < (w.alloc (.cells #[.bool false, .slice none 0 0] 24)).heap.size := by simp
  generalize w.alloc (.cells #[.bool false, .slice none 0 0] 24) = W at *
  go_wp2_with fail
  with_reducible refine (BC _).mono ?_
  rintro _ w2 ⟨v2, rfl, i2, b2⟩
  obtain ⟨A2, c2, rfl, _, _⟩ := id i2
  go_wp2_with fail
  with_reducible refine (OC _ _ i2).mono ?_
  rintro _ w3 ⟨v3, rfl, i3, b3⟩
  obtain ⟨t3, A3, n3, k3, rfl⟩ := i3.form
  have B3 : Below W.heap.size W w3 := bt b2 b3 (Nat.le_refl _)
  have g3 := (B3.block _ hsz).trans hg0
  have l3 : w.heap.size < w3.heap.size := (Array.getElem?_eq_some_iff.1 g3).1
  have d0 := (Lib.cell_of_heap g3 0).trans (rfl : _ = some _)
  have d1 := (Lib.cell_of_heap g3 1).trans (rfl : _ = some _)
  have z0 := Lib.frozen_of_heap g3 0
  have z1 := Lib.frozen_of_heap g3 1
  go_wp2_with fail
  have p1 := heap_put g3 0 (.bool false)
  have p2 := heap_put p1 1 (.slice none 0 0)
  have p3 := (Below.heap_alloc _ (.cells #[.bool t3, .slice A3 n3 k3] 24) w.heap.size (by simp; omega)).trans p2
  have q0 := (Lib.cell_of_heap p3 0).trans (rfl : _ = some _)
  have q1 := (Lib.cell_of_heap p3 1).trans (rfl : _ = some _)
  have hB3 := hA.trans (B3.mono (by omega))
  exact bodyPost_ret (v := .tuple #[.agg #[.bool false, .slice none 0 0], .bool true]) (by simp [results, Tryz.results7, go_sem, q0, q1]) rfl ⟨_, rfl, zero_isI _, ((hB3.setCell (p := ⟨w.heap.size, 0, none⟩) (Nat.le_refl _) _).setCell (p := ⟨w.heap.size, 1, none⟩) (Nat.le_refl _) _).alloc (by simp; omega) _⟩
end Go.Proofs.YtodipcgilgigbaaGreatDoor.V
/- isFinite, Int.Hash. -/
set_option linter.unusedVariables false
namespace Go.Proofs.YtodipcgilgigbaaGreatDoor.V
open Go Go.RowKit Go.Proofs.YtodipcgilgigbaaGreatDoor.I
attribute [local go_sem ↓] Go.wp_at_zero Go.wp_at_succ

set_option maxRecDepth 100000 in
theorem mathAbs_call (b m : Nat) (h : bits .andNot .u64 (b : Int) 9223372036854775808 = (m : Int)) (w : World) : Calls Tryz.prog 118 #[.float .f64 b] w fun e w' => e = .returned (.float .f64 m) ∧ w = w' := by
  have RB := run_bits b
  have RF := run_frombits
  have hm : (m : Int).toNat = m := by omega
  go_enter Tryz.func118, Tryz.ntmps118
  go_wp2_with fail
  go_ret
  exact ⟨rfl, rfl⟩
set_option maxRecDepth 100000 in
theorem isFinite_call (b m : Nat) (h : bits .andNot .u64 (b : Int) 9223372036854775808 = (m : Int)) (hf : (FloatKind.f64.format.order m 9218868437227405311 == some Ordering.lt || FloatKind.f64.format.order m 9218868437227405311 == some Ordering.eq) = true) (w : World) : Calls Tryz.prog 222 #[.float .f64 b] w fun e w' => e = .returned (.bool true) ∧ w = w' := by
  have AC := mathAbs_call b m h
  clear h
  go_enter Tryz.func222, Tryz.ntmps222
  go_wp2_with fail
  with_reducible refine (AC _).mono ?_
  rintro _ w1 ⟨rfl, rfl⟩
  go_wp2_with fail
  go_ret
  exact ⟨by first | rfl | rw [hf], rfl⟩
def hlo (z : Int) : Int := if small (decide (z < 0)) z.natAbs then IntKind.u64.wrap z else ((z.natAbs % 18446744073709551616 : Nat) : Int)
def hz (z : Int) : Int := 12582917 * (IntKind.u64.wrap (hlo z + 3) % 4294967296) % 4294967296
set_option maxRecDepth 100000 in
theorem bits_call (g : Nat) (A : Option Addr) (n c : Nat) (w : World) (h : w.cell? ⟨g, 1, none⟩ = some (.slice A n c)) : Calls Tryz.prog 228 #[.pointer (some ⟨g, 0, none⟩)] w fun e w' => e = .returned (.slice A n c) ∧ w = w' := by
  go_enter Tryz.func228, Tryz.ntmps228
  go_wp2_with fail
  go_ret
  exact ⟨rfl, rfl⟩
set_option maxRecDepth 100000 in
set_option maxHeartbeats 1000000 in
theorem intHash_call (z : Int) (B : Nat) (v : Value) (hl : wl z.natAbs ≤ 1000) (w : World) (h : IsS w B v z) : Calls Tryz.prog 224 #[v] w fun e w' => e = .returned (.tuple #[.int .u32 (hz z), .nilIface]) ∧ Below w.heap.size w w' := by
  rcases h with ⟨rfl, hs⟩ | ⟨g, rfl, hs, hz', hB⟩
  · have e : hlo z = IntKind.u64.wrap z := by unfold hlo; rw [if_pos hs]
    unfold hz
    rw [e]
    clear e
    go_enter Tryz.func224, Tryz.ntmps224
    go_wp2_with fail
    with_reducible refine (get_call z none _).mono ?_
    rintro _ w1 ⟨rfl, hb1⟩
    go_wp2_with fail
    go_ret2
    exact ⟨rfl, bt ((Below.refl _ w).alloc (Nat.le_refl _) _) hb1 (Nat.le_refl _)⟩
  · have e : hlo z = ((z.natAbs % 18446744073709551616 : Nat) : Int) := by unfold hlo; rw [if_neg (by rw [hs]; decide)]
    unfold hz
    rw [e]
    clear e
    obtain ⟨lo, hlo'⟩ : ∃ lo, ((z.natAbs % 18446744073709551616 : Nat) : Int) = lo := ⟨_, rfl⟩
    rw [hlo']
    have h0 : z.natAbs ≠ 0 := by intro h0; rw [h0] at hs; revert hs; unfold small; simp
    have k0 := wl_pos h0
    have hA : Below w.heap.size w (w.alloc (.cells #[.int .i64 0, .pointer (some ⟨g, 0, none⟩)] 99)) := (Below.refl _ w).alloc (Nat.le_refl _) _
    have hzA := hz'.below hA
    go_enter Tryz.func224, Tryz.ntmps224
    go_wp2_with fail
    with_reducible refine (get_call 0 (some ⟨g, 0, none⟩) _).mono ?_
    rintro _ w1 ⟨rfl, hb1⟩
    have hz1 := hzA.below hb1
    obtain ⟨A, c, hw1, x0, x1, _, _, _⟩ := hz1.cells
    have hrow : ∃ a, A = some a ∧ w1.cell? a = some (.int .u64 ((z.natAbs % 18446744073709551616 : Nat) : Int)) := by
      rcases hw1 with ⟨_, hn⟩ | ⟨g1, cap, he, hr⟩
      · exfalso; unfold wl at k0; rw [hn] at k0; simp at k0
      · simp only [Value.slice.injEq] at he
        obtain ⟨rfl, _, rfl⟩ := he
        have hx := words_get (n := z.natAbs) (i := 0) (by omega)
        rw [Nat.pow_zero, Nat.div_one] at hx
        exact ⟨_, rfl, hr.cell hx⟩
    obtain ⟨a, rfl, ha⟩ := hrow
    have k1 : (0 : Int) < wl z.natAbs := by omega
    generalize wl z.natAbs = k at *
    rw [hlo'] at ha
    clear hlo'
    go_wp2_with fail
    with_reducible refine (bits_call g (some a) k c w1 x1).mono ?_
    rintro _ w2 ⟨rfl, rfl⟩
    go_wp2_with fail
    go_ret2
    exact ⟨rfl, bt hA hb1 (Nat.le_refl _)⟩
end Go.Proofs.YtodipcgilgigbaaGreatDoor.V
/- A law's whole: the number on both sides. -/
set_option linter.unusedVariables false
namespace Go.Proofs.YtodipcgilgigbaaGreatDoor.V
open Go Go.RowKit Go.Proofs.YtodipcgilgigbaaGreatDoor.I Go.Proofs.YtodipcgilgigbaaGreatDoorW.PrintWords

theorem by_of {w : World} {base : Nat} {ok : Nat → Prop} {v : Value} {l : List Int} (h : Kd.R (Kd.int .u8) 5 w base ok v l) : ∃ A c, v = .slice A l.length c ∧ c ≤ 9223372036854775807 ∧ IsBy w v l := by
  have h' := h
  obtain ⟨h0, inner, ⟨hlen, hown⟩, hr⟩ := h
  rcases hown with ⟨rfl, hxs⟩ | ⟨g, cap, cur, rfl, hg, hh, hn, hc, hrest⟩
  · have hl0 : l = [] := List.eq_nil_of_length_eq_zero hxs
    subst hl0
    exact ⟨none, 0, rfl, by omega, .inl ⟨rfl, rfl⟩⟩
  · have hC := (Kd.R_reads' h').2.2
    refine ⟨_, _, rfl, hc, .inr ⟨g, cap, rfl, hn, fun i x hx => ?_⟩⟩
    have hi : i < l.length := (List.getElem?_eq_some_iff.1 hx).1
    obtain ⟨ad, had, hcl⟩ := Kd.at_int hC (i : Int) (by omega) (by omega)
    injection had with had
    subst had
    have e : rd l (i : Int) = x := by
      unfold rd
      rw [Int.toNat_natCast, List.getD_eq_getElem?_getD, hx]
      rfl
    rw [e] at hcl
    by_cases h0 : i = 0
    · subst h0
      simpa [Addr.add] using hcl
    · simpa [Addr.add, h0] using hcl
/-- What laws' whole gives: the number z, and the Val that holds it. -/
def Whl (w : World) (z : Int) (e : Ending) (w' : World) : Prop :=
  ∃ sv mA mc kA kn kc, e = .returned (.tuple #[sv, .agg #[.int .i64 2, .bool (decide (z < 0)), .slice mA (I.bytes z.natAbs).length mc, .int .u64 0, .string ⟨#[]⟩, .slice kA kn kc]]) ∧ IsI w' sv z ∧ mc ≤ 9223372036854775807 ∧ IsBy w' (.slice mA (I.bytes z.natAbs).length mc) (I.bytes z.natAbs) ∧ Below w.heap.size w w'
theorem lwhole_call (an : Bool) (A : Option Addr) (c : Nat) (l : List Int) (hm : Bytes l) (most : Nat) (hmost : most ≤ 1000) (w : World) (hr : Kd.C (Kd.int .u8) w A l.length l) (hc : l.length ≤ c) :
    Calls Tryz.prog 5 #[.bool an, .slice A l.length c, .int .i64 most] w (Whl w (if an then -(val (l.take most) : Int) else (val (l.take most) : Int))) := by
  obtain ⟨z, hz⟩ : ∃ z : Int, (if an then -(val (l.take most) : Int) else (val (l.take most) : Int)) = z := ⟨_, rfl⟩
  have e : laws_whole.f 1001 an l most = some ((ri z).1, (ri z).2, 2, (ri z).1, (ri z).2, 0, ⟨#[]⟩, []) := by
    unfold laws_whole.f laws_told.f
    have hmn : mn (l.length : Int) (most : Int) = ((min most l.length : Nat) : Int) := by
      show (if (most : Int) < (l.length : Int) then (most : Int) else (l.length : Int)) = _
      split <;> omega
    have htk : l.take (min most l.length) = l.take most := by
      rw [List.take_eq_take_iff]
      omega
    have hlt : (l.take most).length ≤ 1000 := by rw [List.length_take]; omega
    have hof : spec_Of.f 1001 an (l.take most) = some (ri z) := by
      rw [of_is an (l.take most) (fun d hd => hm d (List.mem_of_mem_take hd)) (by unfold cap; omega) 1001 (by omega), sg_ri, hz]
    have hrl : (ri z).2.length ≤ 1000 := by
      rw [ri_len, ← hz]
      have h1 := val_lt _ _ rfl (show Bytes (l.take most) from fun d hd => hm d (List.mem_of_mem_take hd))
      have : (if an then -(val (l.take most) : Int) else (val (l.take most) : Int)).natAbs = val (l.take most) := by cases an <;> simp
      rw [this]
      exact Nat.le_trans (len_le h1) hlt
    rw [hmn, if_pos (by omega), if_pos (by omega), Int.toNat_natCast, htk, hof, Option.bind_some, Option.bind_some, if_pos (by simp only [List.length_nil]; omega)]
    rfl
  rw [hz]
  refine (laws_whole.calls 1001 an A c l most _ _ _ _ _ _ _ _ w hr hc e).mono ?_
  rintro e w' ⟨v1, v4, v7, rfl, h1, h4, h7, hb⟩
  obtain ⟨A4, c4, rfl, hc4, hby⟩ := by_of h4
  obtain ⟨A7, c7, rfl⟩ := Kd.R_slice h7
  exact ⟨_, A4, c4, A7, _, c7, rfl, ⟨v1, rfl, _, Kd.R_mono h1 (fun _ _ => trivial)⟩, hc4, hby, hb⟩
end Go.Proofs.YtodipcgilgigbaaGreatDoor.V
/- MakeInt64, finiteFloatToInt within int64, the hashes of Int and Float. -/
set_option linter.unusedVariables false
namespace Go.Proofs.YtodipcgilgigbaaGreatDoor.V
open Go Go.RowKit Go.Proofs.YtodipcgilgigbaaGreatDoor.I
attribute [local go_sem ↓] Go.wp_at_zero Go.wp_at_succ

set_option maxRecDepth 100000 in
theorem newIntZ_call (z : Int) (h0 : z ≠ 0) (h1 : -9223372036854775808 ≤ z) (h2 : z < 9223372036854775808) (w : World) : Calls Tryz.prog 146 #[.int .i64 z] w (NewZ w (decide (z < 0)) z.natAbs) := by
  have hw := words_one (x := z.natAbs) (by omega) (by omega)
  have k0 : (z == 0) = false := by rw [beq_eq_false_iff_ne]; exact h0
  rcases Int.lt_or_le z 0 with hz | hz
  · have e1 : IntKind.u64.wrap z = z + 18446744073709551616 := by simp [IntKind.wrap, IntKind.bits, IntKind.signed]; omega
    have e2 : IntKind.u64.wrap (-(z + 18446744073709551616)) = (z.natAbs : Int) := by simp [IntKind.wrap, IntKind.bits, IntKind.signed]; omega
    rw [decide_eq_true hz]
    go_enter Tryz.func146, Tryz.ntmps146
    go_wp2_with fail
    go_ret
    have hr := Row.one w (z.natAbs : Int)
    have hI : IsW (w.alloc (.cells #[.int .u64 (z.natAbs : Int)] 166)) (.slice (some ⟨w.heap.size, 0, none⟩) 1 1) (words z.natAbs) := by rw [hw]; exact .inr ⟨_, 1, rfl, hr⟩
    have k := heap_alloc_new (w.alloc (.cells #[.int .u64 (z.natAbs : Int)] 166)) (.cells #[.bool true, .slice (some ⟨w.heap.size, 0, none⟩) 1 1] 147)
    exact ⟨w.heap.size + 1, _, rfl, by omega, ⟨by simpa using k, hI.below ((Below.refl _ _).alloc (Nat.le_refl _) _)⟩, ((Below.refl _ _).alloc (Nat.le_refl _) _).alloc (by simp) _⟩
  · have ez := Lib.hid (show z = (z.natAbs : Int) by omega)
    have kd : decide (z < 0) = false := decide_eq_false (by omega)
    go_enter Tryz.func146, Tryz.ntmps146
    go_wp2_with fail
    go_ret
    have hr := Row.one w z
    have hI : IsW (w.alloc (.cells #[.int .u64 z] 166)) (.slice (some ⟨w.heap.size, 0, none⟩) 1 1) (words z.natAbs) := by rw [hw, ← ez.out]; exact .inr ⟨_, 1, rfl, hr⟩
    have k := heap_alloc_new (w.alloc (.cells #[.int .u64 z] 166)) (.cells #[.bool false, .slice (some ⟨w.heap.size, 0, none⟩) 1 1] 147)
    rw [kd]
    exact ⟨w.heap.size + 1, _, rfl, by omega, ⟨by simpa using k, hI.below ((Below.refl _ _).alloc (Nat.le_refl _) _)⟩, ((Below.refl _ _).alloc (Nat.le_refl _) _).alloc (by simp) _⟩
theorem small_i64 {z : Int} (h : -2147483648 ≤ z ∧ z ≤ 2147483647) : small (decide (z < 0)) z.natAbs = true := by
  unfold small
  rcases Int.lt_or_le z 0 with hz | hz
  · rw [decide_eq_true hz]; simp; omega
  · rw [decide_eq_false (by omega : ¬ z < 0)]; simp; omega
theorem big_i64 {z : Int} (h : ¬ (-2147483648 ≤ z ∧ z ≤ 2147483647)) : small (decide (z < 0)) z.natAbs = false := by
  unfold small
  rcases Int.lt_or_le z 0 with hz | hz
  · rw [decide_eq_true hz]; simp; omega
  · rw [decide_eq_false (by omega : ¬ z < 0)]; simp; omega
set_option maxRecDepth 100000 in
set_option maxHeartbeats 1000000 in
theorem makeInt64_call (z : Int) (h1 : -9223372036854775808 ≤ z) (h2 : z < 9223372036854775808) (w : World) : Calls Tryz.prog 225 #[.int .i64 z] w fun e w' => ∃ v, e = .returned v ∧ IsS w' w.heap.size v z ∧ Below w.heap.size w w' := by
  have hA : Below w.heap.size w (w.alloc (.cells #[.int .i64 0, .pointer none] 99)) := (Below.refl _ w).alloc (Nat.le_refl _) _
  have hN := heap_alloc_new w (.cells #[.int .i64 0, .pointer none] 99)
  have hsz : (w.alloc (.cells #[.int .i64 0, .pointer none] 99)).heap.size = w.heap.size + 1 := by simp
  have hT : 99 ≠ 166 := by decide
  by_cases hs : -2147483648 ≤ z ∧ z ≤ 2147483647
  · have hsm := small_i64 hs
    obtain ⟨k1, k2⟩ := hs
    go_enter Tryz.func225, Tryz.ntmps225
    go_wp2_with fail
    generalize w.alloc (.cells #[.int .i64 0, .pointer none] 99) = W at *
    with_reducible refine (makeSmall_call z _).mono ?_
    rintro _ w2 ⟨rfl, hb2⟩
    have hN5 := (hb2.block w.heap.size (by omega)).trans hN
    have hB5 := bt hA hb2 (by omega)
    have d0 := (Lib.cell_of_heap hN5 0).trans (rfl : _ = some _)
    have d1 := (Lib.cell_of_heap hN5 1).trans (rfl : _ = some _)
    have z0 := Lib.frozen_of_heap hN5 0
    have z1 := Lib.frozen_of_heap hN5 1
    go_wp2_with fail
    have p1 := heap_put hN5 0 (.int .i64 z)
    have p2 := heap_put p1 1 (.pointer none)
    have q0 := (Lib.cell_of_heap p2 0).trans (rfl : _ = some _)
    have q1 := (Lib.cell_of_heap p2 1).trans (rfl : _ = some _)
    exact bodyPost_ret (v := .agg #[.int .i64 z, .pointer none]) (by simp [results, Tryz.results225, go_sem, q0, q1]) rfl ⟨_, rfl, .inl ⟨rfl, hsm⟩, ((hB5.setCell (p := ⟨w.heap.size, 0, none⟩) (Nat.le_refl _) _).setCell (p := ⟨w.heap.size, 1, none⟩) (Nat.le_refl _) _)⟩
  · have hsm := big_i64 hs
    have NC := newIntZ_call z (by intro h; subst h; exact hs ⟨by omega, by omega⟩) h1 h2
    have hk : z < -2147483648 ∨ 2147483647 < z := by omega
    rcases hk with hk | hk
    all_goals
      clear hs
      go_enter Tryz.func225, Tryz.ntmps225
      go_wp2_with fail
      generalize w.alloc (.cells #[.int .i64 0, .pointer none] 99) = W at *
      with_reducible refine (NC _).mono ?_
      rintro _ w1 ⟨g5, v5, rfl, hg5, hI5, hb1⟩
      go_wp2_with fail
      with_reducible refine (makeBig_call _ _).mono ?_
      rintro _ w2 ⟨rfl, hb2⟩
      have hbb := bt hb1 hb2 (Nat.le_refl _)
      have hN5 := (hbb.block w.heap.size (by omega)).trans hN
      have hB5 := bt hA hbb (by omega)
      have d0 := (Lib.cell_of_heap hN5 0).trans (rfl : _ = some _)
      have d1 := (Lib.cell_of_heap hN5 1).trans (rfl : _ = some _)
      have z0 := Lib.frozen_of_heap hN5 0
      have z1 := Lib.frozen_of_heap hN5 1
      go_wp2_with fail
      have p1 := heap_put hN5 0 (.int .i64 0)
      have p2 := heap_put p1 1 (.pointer (some ⟨g5, 0, none⟩))
      have q0 := (Lib.cell_of_heap p2 0).trans (rfl : _ = some _)
      have q1 := (Lib.cell_of_heap p2 1).trans (rfl : _ = some _)
      obtain ⟨cs, T, v, hzg, hzT, hz0, hz1, hzw⟩ := hI5.z.below hb2
      exact bodyPost_ret (v := .agg #[.int .i64 0, .pointer (some ⟨g5, 0, none⟩)]) (by simp [results, Tryz.results225, go_sem, q0, q1]) rfl ⟨_, rfl, .inr ⟨g5, rfl, hsm, ⟨cs, T, v, by rw [Below.heap_setCell _ _ _ _ (by show g5 ≠ w.heap.size; omega), Below.heap_setCell _ _ _ _ (by show g5 ≠ w.heap.size; omega)]; exact hzg, hzT, hz0, hz1, (hzw.setOther hN5 hT 0 _).setOther p1 hT 1 _⟩, by omega⟩, ((hB5.setCell (p := ⟨w.heap.size, 0, none⟩) (Nat.le_refl _) _).setCell (p := ⟨w.heap.size, 1, none⟩) (Nat.le_refl _) _)⟩
theorem conv_i64 {b : Nat} {z : Int} (h : (FloatKind.f64.decode b).toInt .zero = some z) (h1 : -9223372036854775808 ≤ z) (h2 : z < 9223372036854775808) : floatToIntVal .f64 b .i64 = some z := by
  unfold floatToIntVal
  rw [h]
  have e1 : IntKind.i64.min = -9223372036854775808 := by decide
  have e2 : IntKind.i64.max = 9223372036854775807 := by decide
  simp only [e1, e2]
  rw [if_pos ⟨h1, by omega⟩]
set_option maxRecDepth 100000 in
set_option maxHeartbeats 1000000 in
theorem floatToInt_small (b : Nat) (z : Int) (hlo : (FloatKind.f64.format.order 14114281232179134464 b == some Ordering.lt || FloatKind.f64.format.order 14114281232179134464 b == some Ordering.eq) = true) (hhi : (FloatKind.f64.format.order b 4890909195324358656 == some Ordering.lt) = true)
    (hz : (FloatKind.f64.decode b).toInt .zero = some z) (h1 : -9223372036854775808 ≤ z) (h2 : z < 9223372036854775808) (w : World) :
    Calls Tryz.prog 223 #[.float .f64 b] w fun e w' => ∃ v, e = .returned v ∧ IsS w' w.heap.size v z ∧ Below w.heap.size w w' := by
  have hA : Below w.heap.size w (w.alloc (.cells #[.int .i64 0, .pointer none] 99)) := (Below.refl _ w).alloc (Nat.le_refl _) _
  have hN := heap_alloc_new w (.cells #[.int .i64 0, .pointer none] 99)
  have hsz : (w.alloc (.cells #[.int .i64 0, .pointer none] 99)).heap.size = w.heap.size + 1 := by simp
  have hT : 99 ≠ 166 := by decide
  have hc : ∀ w, (convert 69 2 (.float .f64 b)).run Tryz.prog w = .ok (.int .i64 z) w := fun w => run_convert_float_int w _ _ .f64 .i64 b z (by rw [Tryz.underlying69]; rfl) Tryz.underlying2 (conv_i64 hz h1 h2)
  have MC := makeInt64_call z h1 h2
  clear hz
  go_enter Tryz.func223, Tryz.ntmps223
  go_wp2_with fail
  generalize w.alloc (.cells #[.int .i64 0, .pointer none] 99) = W at *
  with_reducible refine (MC _).mono ?_
  rintro _ w5 ⟨v, rfl, hv, hb5⟩
  have hN5 := (hb5.block w.heap.size (by omega)).trans hN
  have d0 := (Lib.cell_of_heap hN5 0).trans (rfl : _ = some _)
  have d1 := (Lib.cell_of_heap hN5 1).trans (rfl : _ = some _)
  have z0 := Lib.frozen_of_heap hN5 0
  have z1 := Lib.frozen_of_heap hN5 1
  have hB5 := bt hA hb5 (by omega)
  rcases hv with ⟨rfl, hs⟩ | ⟨g5, rfl, hs, hz5, hg5⟩
  · go_wp2_with fail
    have p1 := heap_put hN5 0 (.int .i64 z)
    have p2 := heap_put p1 1 (.pointer none)
    have q0 := (Lib.cell_of_heap p2 0).trans (rfl : _ = some _)
    have q1 := (Lib.cell_of_heap p2 1).trans (rfl : _ = some _)
    exact bodyPost_ret (v := .agg #[.int .i64 z, .pointer none]) (by simp [results, Tryz.results223, go_sem, q0, q1]) rfl ⟨_, rfl, .inl ⟨rfl, hs⟩, ((hB5.setCell (p := ⟨w.heap.size, 0, none⟩) (Nat.le_refl _) _).setCell (p := ⟨w.heap.size, 1, none⟩) (Nat.le_refl _) _)⟩
  · go_wp2_with fail
    have p1 := heap_put hN5 0 (.int .i64 0)
    have p2 := heap_put p1 1 (.pointer (some ⟨g5, 0, none⟩))
    have q0 := (Lib.cell_of_heap p2 0).trans (rfl : _ = some _)
    have q1 := (Lib.cell_of_heap p2 1).trans (rfl : _ = some _)
    obtain ⟨cs, T, v, hzg, hzT, hz0, hz1, hzw⟩ := hz5
    exact bodyPost_ret (v := .agg #[.int .i64 0, .pointer (some ⟨g5, 0, none⟩)]) (by simp [results, Tryz.results223, go_sem, q0, q1]) rfl ⟨_, rfl, .inr ⟨g5, rfl, hs, ⟨cs, T, v, by rw [Below.heap_setCell _ _ _ _ (by show g5 ≠ w.heap.size; omega), Below.heap_setCell _ _ _ _ (by show g5 ≠ w.heap.size; omega)]; exact hzg, hzT, hz0, hz1, (hzw.setOther hN5 hT 0 _).setOther p1 hT 1 _⟩, by omega⟩, ((hB5.setCell (p := ⟨w.heap.size, 0, none⟩) (Nat.le_refl _) _).setCell (p := ⟨w.heap.size, 1, none⟩) (Nat.le_refl _) _)⟩
/-- What an integral float is worth, as starlark's Int. -/
def GivesS (w : World) (z : Int) (e : Ending) (w' : World) : Prop := ∃ v, e = .returned v ∧ IsS w' w.heap.size v z ∧ Below w.heap.size w w'
theorem floatToInt_call (b e F n : Nat) (s : Bool) (h : Fl b s e F) (hn : Worth e F n) (he : e ≤ 2000) (w : World) : Calls Tryz.prog 223 #[.float .f64 b] w (GivesS w (if s then -(n : Int) else (n : Int))) := by
  obtain ⟨hb, hF, h0, h1⟩ := id h
  by_cases hin : e < 1086
  · have hl := hn.low hF hin
    obtain ⟨o1, o2⟩ := h.low hin
    exact floatToInt_small b _ (by rw [o1]; rfl) (by rw [o2]; rfl) (h.int hn) (by split <;> omega) (by split <;> omega) w
  · by_cases hx : s = true ∧ F = 0 ∧ e = 1086
    · obtain ⟨rfl, rfl, rfl⟩ := hx
      have hnn := hn.least63
      subst hnn
      have hbv : b = 14114281232179134464 := by rw [hb]; decide
      subst hbv
      exact floatToInt_small _ _ (by decide +kernel) (by decide +kernel) (h.int hn) (by decide) (by decide) w
    · have hout := h.high (by omega) hx
      have hv := hn.2.1 (by omega)
      obtain ⟨t, rfl⟩ : ∃ t, e = 1075 + t := ⟨e - 1075, by omega⟩
      rw [show 1075 + t - 1075 = t by omega] at hv
      have RC := fun w => rational_big b ((1075 + t : Nat) : Int) (F : Int) (4503599627370496 + F) t s h.exp h.frac (fr_or F hF) (by omega) (by omega) (by omega) h.neg (by omega) (by omega) w
      rw [← hv] at RC
      exact floatToInt_big b n s hn.1 (by rw [hv]; exact wl_shl _ t (by omega) (by omega)) _ _ rfl rfl hout RC w
set_option maxRecDepth 100000 in
theorem floatHash_call (b e F n : Nat) (s : Bool) (h : Fl b s e F) (hn : Worth e F n) (he : e ≤ 2000) (w : World) : Calls Tryz.prog 217 #[.float .f64 b] w fun r w' => r = .returned (.tuple #[.int .u32 (hz (if s then -(n : Int) else (n : Int))), .nilIface]) ∧ Below w.heap.size w w' := by
  have IC := isFinite_call b _ h.abs (Fl.finite h.2.1 h.2.2.1 h.2.2.2)
  have FC := floatToInt_call b e F n s h hn he
  have hw : wl (if s then -(n : Int) else (n : Int)).natAbs ≤ 1000 := by
    have e1 : (if s then -(n : Int) else (n : Int)).natAbs = n := by cases s <;> simp
    rw [e1]
    obtain ⟨hb, hF, h0, h1⟩ := h
    by_cases hin : e < 1086
    · exact Nat.le_trans (wl_le (k := 1) (by have := hn.low hF hin; omega)) (by omega)
    · rw [hn.2.1 (by omega)]
      exact Nat.le_trans (wl_shl _ (e - 1075) (by omega) (by omega)) (by omega)
  have HC := fun (B : Nat) (v : Value) (w : World) => intHash_call (if s then -(n : Int) else (n : Int)) B v hw w
  generalize (if s then -(n : Int) else (n : Int)) = z at *
  clear h hn
  go_enter Tryz.func217, Tryz.ntmps217
  go_wp2_with fail
  with_reducible refine (IC _).mono ?_
  rintro _ w1 ⟨rfl, rfl⟩
  go_wp2_with fail
  with_reducible refine (FC _).mono ?_
  rintro _ w2 ⟨v2, rfl, hv2, hb2⟩
  obtain ⟨i2, p2, rfl⟩ := hv2.form
  go_wp2_with fail
  with_reducible refine (HC _ _ _ hv2).mono ?_
  rintro _ w3 ⟨rfl, hb3⟩
  go_wp2_with fail
  go_ret2
  exact ⟨rfl, bt hb2 hb3 (Nat.le_refl _)⟩
end Go.Proofs.YtodipcgilgigbaaGreatDoor.V
/- impl.Hash of an int and of a float that is a whole number. -/
set_option linter.unusedVariables false
namespace Go.Proofs.YtodipcgilgigbaaGreatDoor.V
open Go Go.RowKit Go.Proofs.YtodipcgilgigbaaGreatDoor.I
attribute [local go_sem ↓] Go.wp_at_zero Go.wp_at_succ

set_option maxRecDepth 100000 in
theorem floatHash_zero (w : World) : Calls Tryz.prog 217 #[.float .f64 0] w fun r w' => r = .returned (.tuple #[.int .u32 (hz 0), .nilIface]) ∧ Below w.heap.size w w' := by
  have IC := isFinite_call 0 0 (by decide +kernel) (by decide +kernel)
  have FC := floatToInt_small 0 0 (by decide +kernel) (by decide +kernel) (by decide +kernel) (by decide) (by decide)
  have HC := fun (B : Nat) (v : Value) (w : World) => intHash_call 0 B v (by decide +kernel) w
  go_enter Tryz.func217, Tryz.ntmps217
  go_wp2_with fail
  with_reducible refine (IC _).mono ?_
  rintro _ w1 ⟨rfl, rfl⟩
  go_wp2_with fail
  with_reducible refine (FC _).mono ?_
  rintro _ w2 ⟨v2, rfl, hv2, hb2⟩
  obtain ⟨i2, p2, rfl⟩ := hv2.form
  go_wp2_with fail
  with_reducible refine (HC _ _ _ hv2).mono ?_
  rintro _ w3 ⟨rfl, hb3⟩
  go_wp2_with fail
  go_ret2
  exact ⟨rfl, bt hb2 hb3 (Nat.le_refl _)⟩
theorem meth_float (x : Nat) (w : World) : (method 420 69 (.float .f64 x) "Hash").run Tryz.prog w = .ok (217, .float .f64 x) w := by kernel_rfl
theorem meth_int (i : Int) (p : Option Addr) (w : World) : (method 420 99 (.agg #[.int .i64 i, .pointer p]) "Hash").run Tryz.prog w = .ok (224, .agg #[.int .i64 i, .pointer p]) w := by kernel_rfl
set_option maxRecDepth 100000 in
theorem hashed_float (b : Nat) (h : Int) (HC : ∀ w, Calls Tryz.prog 217 #[.float .f64 b] w fun r w' => r = .returned (.tuple #[.int .u32 h, .nilIface]) ∧ Below w.heap.size w w') (w : World) :
    Calls Tryz.prog 30 #[.iface 69 (.float .f64 b)] w fun r w' => r = .returned (.tuple #[.int .u32 h, .bool true]) ∧ Below w.heap.size w w' := by
  have MF := meth_float b
  go_enter Tryz.func30, Tryz.ntmps30
  go_wp2_with fail
  with_reducible refine (HC _).mono ?_
  rintro _ w1 ⟨rfl, hb1⟩
  go_wp2_with fail
  go_ret2
  exact ⟨rfl, hb1⟩
set_option maxRecDepth 100000 in
theorem hashed_int (z : Int) (B : Nat) (v : Value) (hl : wl z.natAbs ≤ 1000) (w : World) (h : IsS w B v z) :
    Calls Tryz.prog 30 #[.iface 99 v] w fun r w' => r = .returned (.tuple #[.int .u32 (hz z), .bool true]) ∧ Below w.heap.size w w' := by
  have HC := intHash_call z B v hl w h
  obtain ⟨i, p, rfl⟩ := h.form
  have MI := meth_int i p
  go_enter Tryz.func30, Tryz.ntmps30
  go_wp2_with fail
  with_reducible refine HC.mono ?_
  rintro _ w1 ⟨rfl, hb1⟩
  go_wp2_with fail
  go_ret2
  exact ⟨rfl, hb1⟩
set_option maxRecDepth 100000 in
set_option maxHeartbeats 1000000 in
theorem iHash_float (h : Int) (neg : Bool) (mA : Option Addr) (mn mc : Nat) (bits : Nat) (tx : ByteArray) (kA : Option Addr) (kn kc : Nat) (HC : ∀ w, Calls Tryz.prog 217 #[.float .f64 bits] w fun r w' => r = .returned (.tuple #[.int .u32 h, .nilIface]) ∧ Below w.heap.size w w') (w : World) :
    Calls Tryz.prog 8 #[vval 3 neg mA mn mc bits tx kA kn kc] w fun e w' => e = .returned (.tuple #[.int .u32 h, .bool true, .bool true]) ∧ Below w.heap.size w w' := by
  have hbt : (bits : Int).toNat = bits := by omega
  have V := value_float neg mA mn mc bits tx kA kn kc
  rw [hbt] at V
  have HF := hashed_float bits h HC
  clear HC
  go_enter Tryz.func8, Tryz.ntmps8
  go_wp2_with (first | (go_at_call 29; with_reducible refine (V _).mono ?_; rintro _ w1 ⟨rfl, hb1⟩) | (go_at_call 30; with_reducible refine (HF _).mono ?_; rintro _ w2 ⟨rfl, hb2⟩))
  go_ret3
  exact ⟨rfl, bt (bt (box_below w 3 neg mA mn mc bits tx kA kn kc) hb1 (Nat.le_refl _)) hb2 (Nat.le_refl _)⟩
set_option maxRecDepth 100000 in
set_option maxHeartbeats 1000000 in
theorem iHash_int (neg : Bool) (mA : Option Addr) (mn mc : Nat) (bits : Int) (tx : ByteArray) (kA : Option Addr) (kn kc : Nat) (m : List Int) (hm : Bytes m) (hl : m.length ≤ 1000) (z : Int) (hzz : zn (neg && decide (val m ≠ 0)) (val m) = z) (w : World) (h : IsBy w (.slice mA mn mc) m) (hcap : mc ≤ 9223372036854775807) :
    Calls Tryz.prog 8 #[vval 2 neg mA mn mc bits tx kA kn kc] w fun e w' => e = .returned (.tuple #[.int .u32 (hz z), .bool true, .bool true]) ∧ Below w.heap.size w w' := by
  have hA := box_below w 2 neg mA mn mc bits tx kA kn kc
  have hx := value_int neg mA mn mc bits tx kA kn kc m hm hl _ (h.below hA) hcap
  rw [hzz] at hx
  have hw : wl z.natAbs ≤ 1000 := by
    rw [← hzz, zn_abs]
    have h1 := val_lt _ _ rfl hm
    have h2 : val m < 18446744073709551616 ^ m.length := Nat.lt_of_lt_of_le h1 (by rw [← pow256]; exact Nat.pow_le_pow_right (by omega) (by omega))
    exact Nat.le_trans (wl_le h2) hl
  clear hzz
  go_enter Tryz.func8, Tryz.ntmps8
  go_wp2_with (first | (go_at_call 29; refine hx.mono ?_; rintro _ w1 ⟨v, rfl, hv, hb1⟩; obtain ⟨i, p, rfl⟩ := hv.form) | (go_at_call 30; with_reducible refine (hashed_int z _ _ hw w1 hv).mono ?_; rintro _ w2 ⟨rfl, hb2⟩))
  go_ret3
  exact ⟨rfl, bt (bt hA hb1 (Nat.le_refl _)) hb2 (Nat.le_refl _)⟩
end Go.Proofs.YtodipcgilgigbaaGreatDoor.V
/- FnHashNumbers answers true. -/
set_option linter.unusedVariables false
namespace Go.Proofs.YtodipcgilgigbaaGreatDoor.V
open Go Go.RowKit Go.Proofs.YtodipcgilgigbaaGreatDoor.I Go.Proofs.YtodipcgilgigbaaGreatDoorW.PrintWords
attribute [local go_sem ↓] Go.wp_at_zero Go.wp_at_succ

/-- The Val of an int. -/
def Told (w : World) (z : Int) (e : Ending) (w' : World) : Prop :=
  ∃ mA mc kA kn kc, e = .returned (.agg #[.int .i64 2, .bool (decide (z < 0)), .slice mA (I.bytes z.natAbs).length mc, .int .u64 0, .string ⟨#[]⟩, .slice kA kn kc]) ∧ mc ≤ 9223372036854775807 ∧ IsBy w' (.slice mA (I.bytes z.natAbs).length mc) (I.bytes z.natAbs) ∧ Below w.heap.size w w'
theorem told_call (z : Int) (hl : len z.natAbs ≤ 1000) (v : Value) (w : World) (h : IsI w v z) : Calls Tryz.prog 9 #[v] w (Told w z) := by
  obtain ⟨A, c, rfl, hC, hc⟩ := h.read
  have e : laws_told.f (ri z).1 (ri z).2 = some (2, (ri z).1, (ri z).2, 0, ⟨#[]⟩, []) := by
    unfold laws_told.f
    have hrl : (ri z).2.length ≤ 1000 := by rw [ri_len]; exact hl
    rw [Option.bind_some, if_pos (by simp only [List.length_nil]; omega)]
    rfl
  refine (laws_told.calls (ri z).1 A c (ri z).2 _ _ _ _ _ _ w hC hc e).mono ?_
  rintro e w' ⟨v2, v5, rfl, h4, h7, hb⟩
  obtain ⟨A4, c4, rfl, hc4, hby⟩ := by_of h4
  obtain ⟨A7, c7, rfl⟩ := Kd.R_slice h7
  exact ⟨A4, c4, A7, _, c7, rfl, hc4, hby, hb⟩
set_option maxRecDepth 100000 in
theorem floatVal_call (b : Nat) (w : World) : Calls Tryz.prog 10 #[.float .f64 b] w fun e w' => e = .returned (.agg #[.int .i64 3, .bool false, .slice none 0 0, .int .u64 b, .string ⟨#[]⟩, .slice none 0 0]) ∧ Below w.heap.size w w' := by
  have RB := run_bits b
  go_enter Tryz.func10, Tryz.ntmps10
  go_wp2_with fail
  exact bodyPost_ret (v := .agg #[.int .i64 3, .bool false, .slice none 0 0, .int .u64 b, .string ⟨#[]⟩, .slice none 0 0]) (by simp [results, Tryz.results10, go_sem]) rfl ⟨rfl, (Below.refl _ w).alloc (Nat.le_refl _) _⟩
set_option maxRecDepth 100000 in
set_option maxHeartbeats 2000000 in
theorem law_core (z zz : Int) (hz3 : len z.natAbs ≤ 300) (hl : len zz.natAbs ≤ 1000) (b : Nat) (hb : nb (decide (z < 0)) z.natAbs = b)
    (WC : ∀ w : World, Calls Tryz.prog 7 #[.float .f64 b] w fun r w' => ∃ v, r = .returned (.tuple #[v, .bool true]) ∧ IsI w' v zz ∧ Below w.heap.size w w')
    (HC : ∀ w : World, Calls Tryz.prog 217 #[.float .f64 b] w fun r w' => r = .returned (.tuple #[.int .u32 (hz zz), .nilIface]) ∧ Below w.heap.size w w')
    (an : Bool) (A : Option Addr) (c n : Nat) (hn : ¬ (2147483647 : Int) < n) (w : World) (XC : Calls Tryz.prog 5 #[.bool an, .slice A n c, .int .i64 120] w (Whl w z)) :
    Calls Tryz.prog 3 #[.bool an, .slice A n c] w fun e w' => e = .returned (.bool true) ∧ Below w.heap.size w w' := by
  have NC := nearest_walk z hz3
  rw [hb] at NC
  have TC := fun (v : Value) (w : World) (h : IsI w v zz) => told_call zz hl v w h
  have VC := floatVal_call b
  have HF := iHash_float (hz zz) false none 0 0 b ⟨#[]⟩ none 0 0 HC
  have hbl : (I.bytes zz.natAbs).length ≤ 1000 := hl
  have hzz : zn (decide (zz < 0) && decide (val (I.bytes zz.natAbs) ≠ 0)) (val (I.bytes zz.natAbs)) = zz := by
    rw [val_bytes]
    unfold zn
    by_cases h0 : zz < 0
    · rw [decide_eq_true h0, Bool.true_and, decide_eq_true (show zz.natAbs ≠ 0 by omega), if_pos rfl]; omega
    · rw [decide_eq_false h0, Bool.false_and, if_neg (by decide)]; omega
  have HI := fun (mA : Option Addr) (mc : Nat) (kA : Option Addr) (kn kc : Nat) (w' : World) => iHash_int (decide (zz < 0)) mA (I.bytes zz.natAbs).length mc 0 ⟨#[]⟩ kA kn kc (I.bytes zz.natAbs) (bytes_bytes zz.natAbs) hbl zz hzz w'
  unfold Told at TC
  unfold Whl at XC
  clear hzz HC hb hbl hl hz3
  generalize I.bytes zz.natAbs = bs at *
  generalize bs.length = bn at *
  generalize hz zz = H at *
  generalize decide (zz < 0) = sg at *
  go_enter Tryz.func3, Tryz.ntmps3
  go_wp2_with fail
  with_reducible refine XC.mono ?_
  rintro _ w1 ⟨sv, mA, mc, kA, kn, kc, rfl, hi, hmc, hby, hb1⟩
  obtain ⟨ib, iA, inn, ic, rfl⟩ := hi.form
  go_wp2_with fail
  have hA0 := ((Below.refl w1.heap.size w1).alloc (Nat.le_refl _) (.cells #[.bool ib, .slice iA inn ic] 24)).alloc (by simp) (.cells #[.int .i64 2, .bool (decide (z < 0)), .slice mA (I.bytes z.natAbs).length mc, .int .u64 0, .string ⟨#[]⟩, .slice kA kn kc] 28)
  have hi0 := hi.below hA0
  generalize (w1.alloc (.cells #[.bool ib, .slice iA inn ic] 24)).alloc (.cells #[.int .i64 2, .bool (decide (z < 0)), .slice mA (I.bytes z.natAbs).length mc, .int .u64 0, .string ⟨#[]⟩, .slice kA kn kc] 28) = W at *
  with_reducible refine (NC _ _ hi0).mono ?_
  rintro _ w2 ⟨rfl, hb2⟩
  go_wp2_with fail
  with_reducible refine (WC _).mono ?_
  rintro _ w3 ⟨v3, rfl, i3, hb3⟩
  obtain ⟨jb, jA, jn, jc, rfl⟩ := i3.form
  go_wp2_with fail
  with_reducible refine (TC _ _ (i3.below ((Below.refl _ _).alloc (Nat.le_refl _) _))).mono ?_
  rintro _ w4 ⟨mA4, mc4, kA4, kn4, kc4, rfl, hmc4, hby4, hb4⟩
  go_wp2_with fail
  with_reducible refine (HI _ _ _ _ _ _ hby4 hmc4).mono ?_
  rintro _ w5 ⟨rfl, hb5⟩
  go_wp2_with fail
  with_reducible refine (VC _).mono ?_
  rintro _ w6 ⟨rfl, hb6⟩
  go_wp2_with fail
  with_reducible refine (HF _).mono ?_
  rintro _ w7 ⟨rfl, hb7⟩
  go_wp2_with fail
  go_ret
  exact ⟨rfl, bt (bt (bt (bt (bt (bt (bt (bt hb1 hA0 (Nat.le_refl _)) hb2 (Nat.le_refl _)) hb3 (Nat.le_refl _)) ((Below.refl _ _).alloc (Nat.le_refl _) _) (Nat.le_refl _)) hb4 (Nat.le_refl _)) hb5 (Nat.le_refl _)) hb6 (Nat.le_refl _)) hb7 (Nat.le_refl _)⟩
set_option exponentiation.threshold 4000 in
theorem worth_len {e F m : Nat} (hF : F < 4503599627370496) (h : Worth e F m) (he : e ≤ 2000) : len m ≤ 1000 := by
  by_cases hin : e < 1086
  · have := h.low hF hin
    exact Nat.le_trans (len_le (k := 8) (by omega)) (by omega)
  · rw [h.2.1 (by omega)]
    have h1 := len_mul (4503599627370496 + F) (2 ^ (e - 1075))
    have h2 := len_pow2 (e - 1075)
    have h3 : len (4503599627370496 + F) ≤ 8 := len_le (by omega)
    omega
set_option exponentiation.threshold 2000 in
set_option maxRecDepth 100000 in
theorem law (an : Bool) (A : Option Addr) (c : Nat) (l : List Int) (hm : Bytes l) (w : World) (hr : Kd.C (Kd.int .u8) w A l.length l) (hc : l.length ≤ c) (hn : l.length ≤ 9223372036854775807) :
    Calls Tryz.prog 3 #[.bool an, .slice A l.length c] w fun e w' => e = .returned (.bool true) ∧ Below w.heap.size w w' := by
  by_cases hL : (2147483647 : Int) < l.length
  · generalize l.length = n at *
    go_enter Tryz.func3, Tryz.ntmps3
    go_wp2_with fail
    go_ret
    exact ⟨rfl, Below.refl _ _⟩
  · have XC := lwhole_call an A c l hm 120 (by omega) w hr hc
    have h1 := val_lt _ _ rfl (show Bytes (l.take 120) from fun d hd => hm d (List.mem_of_mem_take hd))
    have hlt : (l.take 120).length ≤ 120 := by rw [List.length_take]; omega
    have hab : (if an then -(val (l.take 120) : Int) else (val (l.take 120) : Int)).natAbs = val (l.take 120) := by cases an <;> simp
    have hlt2 : (if an then -(val (l.take 120) : Int) else (val (l.take 120) : Int)).natAbs < 2 ^ 960 := by
      rw [hab]
      refine Nat.lt_of_lt_of_le h1 ?_
      rw [show (256 : Nat) = 2 ^ 8 from rfl, ← Nat.pow_mul]
      exact Nat.pow_le_pow_right (by omega) (by omega)
    have hlen : len (if an then -(val (l.take 120) : Int) else (val (l.take 120) : Int)).natAbs ≤ 300 := by
      rw [hab]
      exact Nat.le_trans (len_le h1) (by omega)
    generalize (if an then -(val (l.take 120) : Int) else (val (l.take 120) : Int)) = z at *
    clear h1 hlt hab
    rw [show ((120 : Nat) : Int) = 120 from rfl] at XC
    by_cases hz : z = 0
    · subst hz
      exact law_core 0 0 hlen (by decide +kernel) 0 (by decide +kernel) whole_zero floatHash_zero an A c _ hL w XC
    · have hz0 : z.natAbs ≠ 0 := by omega
      obtain ⟨e, F, m, hf, hW, he⟩ := nb_fl (decide (z < 0)) z.natAbs hz0 ((Nat.log2_lt hz0).2 hlt2)
      refine law_core z (if decide (z < 0) then -(m : Int) else (m : Int)) hlen ?_ _ rfl ?_ (floatHash_call _ e F m _ hf hW he) an A c _ hL w XC
      · have e1 : (if decide (z < 0) then -(m : Int) else (m : Int)).natAbs = m := by cases decide (z < 0) <;> simp
        rw [e1]
        exact worth_len hf.2.1 hW he
      · intro w
        rcases Nat.lt_or_ge e 1075 with h | h
        · exact whole_down _ e F m _ hf hW h w
        · exact whole_up _ e F m _ hf hW h he w
end Go.Proofs.YtodipcgilgigbaaGreatDoor.V
