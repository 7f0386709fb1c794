/- What spec's functions on whole numbers give: Add, Cmp, Length, low, Floor, near. Plain. -/
import Derived.Test.YtodipcgilgigbaaGreatDoorI5
namespace Go.Proofs.YtodipcgilgigbaaGreatDoor.I
open Go Go.RowKit Go.Proofs.YtodipcgilgigbaaGreatDoorW.PrintWords Go.Proofs.YtodipcgilgigbaaGreatDoorW.PrintMore

/-- A whole number, as spec's Int has it. -/
def ri (z : Int) : Bool × List Int := (decide (z < 0), bytes z.natAbs)
theorem sg_false (n : Nat) : sg false n = ri (n : Int) := by simp [sg, ri]
theorem sg_ri (neg : Bool) (n : Nat) : sg neg n = ri (if neg then -(n : Int) else n) := by
  cases neg
  · exact sg_false n
  · unfold sg ri
    simp only [if_true, Bool.true_and]
    congr 1
    · by_cases h : n = 0
      · subst h; rfl
      · rw [decide_eq_true h, decide_eq_true (by omega)]
    · congr 1; omega
theorem ri_len (z : Int) : (ri z).2.length = len z.natAbs := rfl
theorem zero_is (z : Int) : spec_Int_Zero.f (ri z).1 (ri z).2 = some (decide (z = 0)) := by
  unfold spec_Int_Zero.f
  rw [ri_len]
  congr 1
  by_cases h : z = 0
  · subst h; simp [len, bytes_zero]
  · have : len z.natAbs ≠ 0 := by
      unfold len; rw [bytes_pos (by omega)]; simp
    rw [decide_eq_false h]
    simp [this]
theorem sign_is (z : Int) : spec_Int_Sign.f (ri z).1 (ri z).2 = some (if z < 0 then -1 else if z = 0 then 0 else 1) := by
  unfold spec_Int_Sign.f
  rw [zero_is, Option.bind_some]
  by_cases h : z = 0
  · subst h; rfl
  · rw [if_neg (by simpa using h)]
    by_cases h1 : z < 0
    · rw [if_pos h1, if_pos (by simpa [ri] using h1)]
    · rw [if_neg h1, if_neg h, if_neg (by simpa [ri] using h1)]
/-- -1, 0, 1: x is less than y, equal, greater. -/
def cmpZ (x y : Int) : Int := if x < y then -1 else if x = y then 0 else 1
theorem cmp_is (x y : Int) (k : Nat) (hx : len x.natAbs ≤ 10000000) (hy : len y.natAbs ≤ 10000000) (hk : len x.natAbs + len y.natAbs < k) : spec_Int_Cmp.f k (ri x).1 (ri x).2 (ri y).1 (ri y).2 = some (cmpZ x y) := by
  unfold spec_Int_Cmp.f
  rw [sign_is, Option.bind_some, sign_is, Option.bind_some, Option.bind_some, Option.bind_some]
  have o1 : spec_order.f k (ri x).2 (ri y).2 = some (cmpI x.natAbs y.natAbs) := order_is _ _ _ (by unfold cap; omega) (by omega)
  have o2 : spec_order.f k (ri y).2 (ri x).2 = some (cmpI y.natAbs x.natAbs) := order_is _ _ _ (by unfold cap; omega) (by omega)
  rw [o1, o2]
  simp only [Option.bind_some]
  rcases Int.lt_trichotomy x 0 with hx0 | hx0 | hx0 <;> rcases Int.lt_trichotomy y 0 with hy0 | hy0 | hy0
  · rw [if_pos hx0, if_pos hy0, if_pos rfl, if_pos (by simpa [ri] using hx0)]
    congr 1; unfold cmpI cmpZ; split <;> split <;> (try split) <;> (try split) <;> omega
  all_goals
    simp only [ri, cmpI, cmpZ, decide_eq_true_eq]
    congr 1
    repeat' split
    all_goals (first | omega | simp at *) <;> omega
theorem add_is (x y : Int) (k : Nat) (hx : len x.natAbs ≤ 10000000) (hy : len y.natAbs ≤ 10000000) (hk : 2 * (len x.natAbs + len y.natAbs + 4) < k) : spec_Int_Add.f k (ri x).1 (ri x).2 (ri y).1 (ri y).2 = some (ri (x + y)) := by
  unfold spec_Int_Add.f
  have e1 : (ri x).2 = bytes x.natAbs := rfl
  have e2 : (ri y).2 = bytes y.natAbs := rfl
  have e3 : (ri x).1 = decide (x < 0) := rfl
  have e4 : (ri y).1 = decide (y < 0) := rfl
  rw [e1, e2]
  have hle : ∀ a, a ≤ x.natAbs + y.natAbs → len a ≤ len x.natAbs + len y.natAbs + 1 := by
    intro a ha
    refine len_le (Nat.lt_of_le_of_lt ha ?_)
    have h1 := Nat.lt_of_lt_of_le (lt_len x.natAbs) (Nat.pow_le_pow_right (n := 256) (by omega) (Nat.le_add_right (len x.natAbs) (len y.natAbs)))
    have h2 := Nat.lt_of_lt_of_le (lt_len y.natAbs) (Nat.pow_le_pow_right (n := 256) (by omega) (Nat.le_add_left (len y.natAbs) (len x.natAbs)))
    rw [Nat.pow_succ]; omega
  by_cases hs : (x < 0 ↔ y < 0)
  · rw [if_pos (by rw [e3, e4]; simp [hs]), sum_is _ _ _ (by omega) (by omega) (by omega), Option.bind_some]
    have hl := hle (x.natAbs + y.natAbs) (Nat.le_refl _)
    rw [of_bytes _ _ _ (by unfold cap; omega) (by omega), Option.bind_some, e3]
    simp only [sg_ri]
    refine congrArg (fun z => some (ri z)) ?_
    by_cases h : x < 0
    · rw [if_pos (by simpa using h)]; omega
    · rw [if_neg (by simpa using h)]; omega
  · rw [if_neg (by rw [e3, e4]; simp [hs]), order_is _ _ _ (by unfold cap; omega) (by omega), Option.bind_some]
    by_cases hc : y.natAbs ≤ x.natAbs
    · have hl := hle (x.natAbs - y.natAbs) (by omega)
      rw [if_pos ((cmpI_ge _ _).2 hc), less_is _ _ _ hc (by omega) (by omega), Option.bind_some, of_bytes _ _ _ (by unfold cap; omega) (by omega), Option.bind_some, e3]
      simp only [sg_ri]
      refine congrArg (fun z => some (ri z)) ?_
      by_cases h : x < 0
      · rw [if_pos (by simpa using h)]; omega
      · rw [if_neg (by simpa using h)]; omega
    · have hl := hle (y.natAbs - x.natAbs) (by omega)
      rw [if_neg (fun h => hc ((cmpI_ge _ _).1 h)), less_is _ _ _ (by omega) (by omega) (by omega), Option.bind_some, of_bytes _ _ _ (by unfold cap; omega) (by omega), Option.bind_some, e4]
      simp only [sg_ri]
      refine congrArg (fun z => some (ri z)) ?_
      by_cases h : y < 0
      · rw [if_pos (by simpa using h)]; omega
      · rw [if_neg (by simpa using h)]; omega

/-! ### The count of bits. -/
def bl (n : Nat) : Nat := if n = 0 then 0 else Nat.log2 n + 1
theorem length_loop (n : Nat) (neg : Bool) (hl : len n ≤ 10000000) : ∀ (i k : Nat), i ≤ 80000000 → i < k → n < 2 ^ i → spec_Int_Length.l0 k (i : Int) neg (bytes n) = some ((bl n : Nat) : Int) := by
  intro i
  induction i with
  | zero =>
    intro k _ hk hn
    obtain ⟨k, rfl⟩ : ∃ m, k = m + 1 := ⟨k - 1, by omega⟩
    simp only [spec_Int_Length.l0]
    have : n = 0 := by simpa using hn
    subst this
    rw [if_neg (by omega)]; rfl
  | succ i ih =>
    intro k hi hk hn
    obtain ⟨k, rfl⟩ : ∃ m, k = m + 1 := ⟨k - 1, by omega⟩
    simp only [spec_Int_Length.l0]
    have e : wrap64 (((i + 1 : Nat) : Int) - 1) = (i : Int) := by rw [w64 (by omega) (by omega)]; omega
    rw [if_pos (by omega), e, bit_is n i (by unfold cap; omega) (by omega), Option.bind_some]
    have hd : n / 2 ^ i < 2 := by
      rw [Nat.div_lt_iff_lt_mul (Nat.pow_pos (by omega))]; rw [Nat.pow_succ] at hn; omega
    by_cases hge : 2 ^ i ≤ n
    · have h1 : 1 ≤ n / 2 ^ i := (Nat.le_div_iff_mul_le (Nat.pow_pos (by omega))).2 (by omega)
      have hp : 0 < 2 ^ i := Nat.pow_pos (by omega)
      rw [if_pos (by omega)]
      have hn0 : n ≠ 0 := by omega
      have hlog : Nat.log2 n = i := by
        rw [Nat.log2_eq_iff hn0]; exact ⟨hge, hn⟩
      unfold bl
      rw [if_neg hn0, hlog]
    · have h0 : n / 2 ^ i = 0 := Nat.div_eq_of_lt (by omega)
      rw [if_neg (by omega)]
      exact ih k (by omega) (by omega) (by omega)
theorem length_is (neg : Bool) (n k : Nat) (hl : len n ≤ 10000000) (hk : 8 * len n < k) : spec_Int_Length.f k neg (bytes n) = some ((bl n : Nat) : Int) := by
  have h1 : (bytes n).length = len n := rfl
  unfold spec_Int_Length.f
  have e1 : wrap64 (8 * (len n : Int)) = ((8 * len n : Nat) : Int) := by rw [w64 (by omega) (by omega)]; omega
  rw [h1, e1]
  refine length_loop n neg hl (8 * len n) k (by omega) hk ?_
  rw [Nat.pow_mul]; exact lt_len n

/-! ### The lowest 64 bits. -/
theorem s_join (u d : Nat) (hu : u < 2 ^ 56) (hd : d < 256) : Go.bits .or .u64 (IntKind.u64.wrap ((u : Int) * 256)) (IntKind.u64.wrap (d : Int)) = ((u * 256 + d : Nat) : Int) := by
  have e1 : IntKind.u64.wrap ((u : Int) * 256) = (u : Int) * 256 := by rw [u64w]; omega
  have e2 : IntKind.u64.wrap (d : Int) = (d : Int) := by rw [u64w]; omega
  rw [e1, e2, bits_join .u64 64 (by decide) (fun n h0 h1 => by rw [u64w]; omega) 8 _ _ (by omega) (by omega) (by omega) (by omega) (by omega) (by omega)]
  omega
theorem low_loop (n : Nat) (neg : Bool) (hl : len n ≤ 10000000) : ∀ (j i k : Nat), i + j = 8 → j < k → spec_Int_low.l0 k ((n / 256 ^ j % 256 ^ i : Nat) : Int) ((j : Int) - 1) neg (bytes n) = some ((n % 256 ^ 8 : Nat) : Int) := by
  intro j
  induction j with
  | zero =>
    intro i k hi hk
    obtain ⟨k, rfl⟩ : ∃ m, k = m + 1 := ⟨k - 1, by omega⟩
    obtain rfl : i = 8 := by omega
    simp only [spec_Int_low.l0]
    rw [if_neg (by omega), Nat.pow_zero, Nat.div_one]
  | succ j ih =>
    intro i k hi hk
    obtain ⟨k, rfl⟩ : ∃ m, k = m + 1 := ⟨k - 1, by omega⟩
    have e : ((j + 1 : Nat) : Int) - 1 = (j : Int) := by omega
    simp only [spec_Int_low.l0]
    rw [e, if_pos (by omega), digit_is n j (by unfold cap; omega), Option.bind_some]
    have hlt : n / 256 ^ (j + 1) % 256 ^ i < 2 ^ 56 := by
      refine Nat.lt_of_lt_of_le (Nat.mod_lt _ (Nat.pow_pos (by omega))) ?_
      rw [show (2 : Nat) ^ 56 = 256 ^ 7 from rfl]
      exact Nat.pow_le_pow_right (by omega) (by omega)
    rw [s_join _ _ hlt (dig_lt n j), w64 (by omega) (by omega)]
    have := ih (i + 1) k (by omega) (by omega)
    have e2 : n / 256 ^ j % 256 ^ (i + 1) = n / 256 ^ (j + 1) % 256 ^ i * 256 + dig n j := by
      unfold dig
      rw [Nat.pow_succ 256 i, Nat.mul_comm (256 ^ i) 256, Nat.mod_mul, Nat.div_div_eq_div_mul, ← Nat.pow_succ, Nat.add_comm, Nat.mul_comm]
    rw [e2] at this
    exact this
theorem low_is (neg : Bool) (n k : Nat) (hl : len n ≤ 10000000) (hk : 8 < k) : spec_Int_low.f k neg (bytes n) = some ((n % 18446744073709551616 : Nat) : Int) := by
  unfold spec_Int_low.f
  have := low_loop n neg hl 8 0 k rfl hk
  rw [Nat.pow_zero, Nat.mod_one, show (256 : Nat) ^ 8 = 18446744073709551616 by decide] at this
  exact this

/-! ### A quotient, the nearest whole number to one. -/
theorem floor_is (a b k : Nat) (hb0 : 0 < b) (ha : len a ≤ 1000000) (hb : len b ≤ 1000000) (hk : 17 * len a + (4 * len b + 40) < k) :
    spec_Int_Floor.f k (ri a).1 (ri a).2 (ri b).1 (ri b).2 = some ((ri ((a / b : Nat) : Int)).1, (ri ((a / b : Nat) : Int)).2, (ri ((a % b : Nat) : Int)).1, (ri ((a % b : Nat) : Int)).2) := by
  have f1 : ∀ n : Nat, (ri (n : Int)).1 = false := fun n => by simp [ri]
  have f2 : ∀ n : Nat, (ri (n : Int)).2 = bytes n := fun n => by simp [ri]
  have hq : len (a / b) ≤ len a := len_mono (Nat.div_le_self _ _)
  have hr : len (a % b) ≤ len b := len_mono (Nat.le_of_lt (Nat.mod_lt _ hb0))
  unfold spec_Int_Floor.f
  simp only [f1, f2]
  rw [split_is a b k hb0 (by omega) (by omega) (by omega)]
  simp only [Option.bind_some]
  rw [if_pos (by rfl), of_bytes _ _ _ (by unfold cap; omega) (by omega)]
  simp only [Option.bind_some]
  rw [of_bytes _ _ _ (by unfold cap; omega) (by omega)]
  simp only [Option.bind_some]
  simp [sg]
/-- The whole number that is nearest to a quotient; of two as near, the even one. -/
def nr (a b : Nat) : Nat := if b < 2 * (a % b) ∨ 2 * (a % b) = b ∧ a / b % 2 = 1 then a / b + 1 else a / b
theorem and1u (x : Nat) (h : x < 18446744073709551616) : Go.bits .and .u64 (x : Int) 1 = ((x % 2 : Nat) : Int) := by
  have := bits_mask .u64 64 (by decide) (fun n h0 h1 => by rw [u64w]; omega) 1 (by decide) (x : Int) (by omega) (by omega)
  simp at this
  rw [this]; omega
theorem near_is (a b k : Nat) (hb0 : 0 < b) (ha : len a ≤ 1000000) (hb : len b ≤ 1000000) (hk : 17 * len a + (8 * len b + 60) < k) :
    spec_near.f k (ri a).1 (ri a).2 (ri b).1 (ri b).2 = some (ri (nr a b : Nat)) := by
  have hq : len (a / b) ≤ len a := len_mono (Nat.div_le_self _ _)
  have hmod := Nat.mod_lt a hb0
  have hr : len (a % b) ≤ len b := len_mono (Nat.le_of_lt hmod)
  have hr2 : len (a % b + a % b) ≤ len b + 1 := len_succ_le (by omega)
  unfold spec_near.f nr
  rw [floor_is a b k hb0 ha hb (by omega)]
  generalize a / b = q at *
  generalize a % b = r at *
  have hN : ∀ n : Nat, len ((n : Int)).natAbs = len n := fun n => by rw [Int.natAbs_natCast]
  simp only [Option.bind_some]
  rw [add_is (r : Int) (r : Int) k (by rw [hN]; omega) (by rw [hN]; omega) (by rw [hN]; omega)]
  simp only [Option.bind_some]
  have es : (r : Int) + (r : Int) = ((r + r : Nat) : Int) := by omega
  rw [es, cmp_is _ _ _ (by rw [hN]; omega) (by rw [hN]; omega) (by rw [hN, hN]; omega)]
  simp only [Option.bind_some]
  have hlow : spec_Int_low.f k (ri (q : Int)).1 (ri (q : Int)).2 = some ((q % 18446744073709551616 : Nat) : Int) := by
    have : (ri (q : Int)).2 = bytes q := by simp [ri]
    rw [this]; exact low_is _ _ _ (by omega) (by omega)
  obtain ⟨k, rfl⟩ : ∃ m, k = m + 1 := ⟨k - 1, by omega⟩
  have hone : spec_Small.f k 1 = some (ri ((1 : Nat) : Int)) := by
    rw [small_is 1 k (by omega) (by omega) (by omega)]; rfl
  have hadd : spec_Int_Add.f k (ri (q : Int)).1 (ri (q : Int)).2 (ri ((1 : Nat) : Int)).1 (ri ((1 : Nat) : Int)).2 = some (ri ((q + 1 : Nat) : Int)) := by
    rw [add_is _ _ _ (by rw [hN]; omega) (by rw [hN, len_one]; omega) (by rw [hN, hN, len_one]; omega)]
    exact congrArg (fun z => some (ri z)) (by omega)
  have jt : spec_near.j0 (k + 1) true (ri (q : Int)).1 (ri (q : Int)).2 = some (ri ((q + 1 : Nat) : Int)) := by
    simp only [spec_near.j0, if_true]
    rw [hone]; simp only [Option.bind_some]
    rw [hadd]; simp only [Option.bind_some]
  have jf : spec_near.j0 (k + 1) false (ri (q : Int)).1 (ri (q : Int)).2 = some (ri (q : Int)) := by
    simp only [spec_near.j0]
    rw [if_neg (by simp)]
  rcases Nat.lt_trichotomy b (2 * r) with h | h | h
  · have hc : cmpZ ((r + r : Nat) : Int) (b : Int) = 1 := by unfold cmpZ; rw [if_neg (by omega), if_neg (by omega)]
    rw [hc, if_pos (by omega), jt, if_pos (Or.inl h)]
  · have hc : cmpZ ((r + r : Nat) : Int) (b : Int) = 0 := by unfold cmpZ; rw [if_neg (by omega), if_pos (by omega)]
    rw [hc, if_neg (by omega), if_pos rfl, hlow]
    simp only [Option.bind_some]
    rw [and1u _ (Nat.mod_lt _ (by omega)), Nat.mod_mod_of_dvd _ (by decide)]
    by_cases ho : q % 2 = 1
    · rw [ho, if_pos (Or.inr ⟨h.symm, rfl⟩)]; exact jt
    · have : q % 2 = 0 := by omega
      rw [this, if_neg (by omega)]; exact jf
  · have hc : cmpZ ((r + r : Nat) : Int) (b : Int) = -1 := by unfold cmpZ; rw [if_pos (by omega)]
    rw [hc, if_neg (by omega), if_neg (by omega), jf, if_neg (by omega)]
end Go.Proofs.YtodipcgilgigbaaGreatDoor.I
