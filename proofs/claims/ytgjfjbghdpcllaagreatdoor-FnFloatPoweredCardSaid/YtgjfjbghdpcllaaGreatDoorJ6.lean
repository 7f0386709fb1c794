/- Powered at each finite float: the text. -/
import Derived.Test.YtgjfjbghdpcllaaGreatDoorJ5
namespace Go.Proofs.YtgjfjbghdpcllaaGreatDoor
open Go Go.RowKit U I

theorem read_zero : FloatKind.f64.format.read 0 = .number false 0 (-1074) := by decide +kernel
theorem signed_zero (s : Bool) (m up : Nat) : Ieee.signed s m up = 0 ↔ m = 0 := by
  have hp : 0 < 2 ^ up := Nat.pow_pos (by omega)
  have e : m <<< up = 0 ↔ m = 0 := by
    rw [Nat.shiftLeft_eq]
    constructor
    · intro h
      rcases Nat.mul_eq_zero.1 h with h | h <;> omega
    · rintro rfl; simp
  unfold Ieee.signed
  cases s
  · rw [if_neg (by decide)]; omega
  · rw [if_pos rfl]; omega
/-- Is it zero. -/
theorem order_zero (b : Nat) (hf : Finite b) : (FloatKind.f64.format.order b 0 != some .eq) = decide (mm b ≠ 0) := by
  have h : ∃ s m i, FloatKind.f64.format.read b = .number s m i ∧ -1074 ≤ i ∧ (m = 0 ↔ mm b = 0) := by
    unfold Finite at hf
    unfold Ieee.Format.read
    simp only [weight, binade, infRung, leastPlace]
    by_cases h1 : b % 9223372036854775808 < 4503599627370496
    · rw [if_pos h1]
      refine ⟨_, _, _, rfl, by omega, ?_⟩
      have : ex b = 0 := by unfold ex; omega
      rw [mm_sub b this]
      unfold fr
      omega
    · rw [if_neg h1, if_pos hf]
      refine ⟨_, _, _, rfl, by omega, ?_⟩
      have : ex b ≠ 0 := by unfold ex; omega
      rw [mm_nrm b this]
      omega
  obtain ⟨s, m, i, hr, hi, hiff⟩ := h
  have e : FloatKind.f64.format.order b 0 = some (compare (Ieee.signed s m (i - min i (-1074)).toNat) (Ieee.signed false 0 (-1074 - min i (-1074)).toNat)) := by
    unfold Ieee.Format.order
    rw [hr, read_zero]
    rfl
  have hz : Ieee.signed false 0 (-1074 - min i (-1074)).toNat = 0 := (signed_zero _ _ _).2 rfl
  rw [e, hz]
  have hs := signed_zero s m (i - min i (-1074)).toNat
  generalize Ieee.signed s m (i - min i (-1074)).toNat = z at *
  by_cases hm : mm b = 0
  · obtain rfl : z = 0 := hs.2 (hiff.2 hm)
    rw [decide_eq_false (by simpa using hm), Int.compare_eq_eq.2 rfl]; rfl
  · have hz0 : z ≠ 0 := fun h => hm (hiff.1 (hs.1 h))
    rw [decide_eq_true hm]
    rcases Int.lt_or_gt_of_ne hz0 with h | h
    · rw [Int.compare_eq_lt.2 h]; rfl
    · rw [Int.compare_eq_gt.2 h]; rfl
theorem len_small (n : Nat) (h : n < 256 ^ 1000) : len n ≤ 1000 := len_le h
theorem len_d (n : Nat) (h : n < 1000000000) : len n ≤ 1000 := Nat.le_trans (len_le (k := 4) (by omega)) (by omega)
theorem decs_le (n j : Nat) (hj : 1 ≤ j) (h : n < 10 ^ j) : (decs n).length ≤ j := by
  unfold decs
  split
  · simpa using hj
  · rw [List.length_reverse]; exact decl_len_le h
theorem qq_bounds (b : Nat) (hf : Finite b) : -1074 ≤ qq b ∧ qq b ≤ 971 := by
  have := ex_lt b hf
  unfold qq
  split <;> omega
theorem expo_len (X : Int) : (strOfNums (expo X)).size ≤ 3 := by
  rw [strOfNums_size]
  unfold expo
  split
  · simp
  · split <;> simp
theorem Gives.cast {w w' : World} {e : Ending} {a b : Nat} (h : Gives w (a : Nat) e w') (hab : a = b) : Gives w (b : Nat) e w' := hab ▸ h
theorem powered (b : Nat) (hb : b < 18446744073709551616) (hf : Finite b) (hm : 0 < mm b) (c : Int) (u d : Nat) (X e0 : Int) (big : Bool) (S : Same (mm b) (EE b) (qq b) u d X e0 big) (w : World) :
    Calls Tryz.prog 8 #[.float .f64 b, .string (strOfNums [c])] w fun e w' => e = .returned (.string (strOfNums (txt (ng b) d X c))) ∧ Below w.heap.size w w' := by
  obtain ⟨E0, E1, E2, l1, l2⟩ := EE_bounds b hf hm
  obtain ⟨c1, c2, _, _, _, _, g0, g1, _⟩ := chk2_at (EE b) E0 E1
  have hmlt := mm_lt b
  have hP := parts b hb hf
  have hqb := qq_bounds b hf
  have hq : -1100 ≤ qq b ∧ qq b ≤ 1100 := by omega
  have he9 : -330 ≤ e0 ∧ e0 ≤ 311 := by have := S.e0l; have := S.e0h; omega
  have he0 : -400 ≤ e0 ∧ e0 ≤ 400 := by omega
  have hX : -400 ≤ X ∧ X ≤ 400 := by have := S.x0; have := S.x1; omega
  have hord : (FloatKind.f64.format.order b 0 != some .eq) = true := by rw [order_zero b hf, decide_eq_true (by omega)]
  have hEb : ((bl (mm b) : Nat) : Int) + qq b = EE b + 1 := by omega
  have LD : ∀ w, Calls Tryz.prog 13 #[.float .f64 b] w fun e w' => e = .returned (.int .i64 e0) ∧ Below w.heap.size w w' := fun w =>
    leading_walk b (ng b) (mm b) (qq b) e0 _ w hP (by omega) hq rfl (by omega) he0.1 (by rw [hEb]; have := S.e0h; omega) (by rw [hEb]; omega) S.ge0 (fun n hn _ => S.none n hn)
  have S1 : ∀ w, Calls Tryz.prog 14 #[.float .f64 b, .int .i64 (6 - e0)] w (Gives w ((sc (mm b) (qq b) (6 - e0) : Nat) : Int)) := fun w =>
    scaled_walk b (ng b) (mm b) (qq b) (6 - e0) w hP (by omega) hq (by omega)
  have n0 := S.n0
  have n1 := S.n1
  have hbig : decide (7 < (strOfNums (decs (sc (mm b) (qq b) (6 - e0)))).size) = big := by
    rw [strOfNums_size, S.b]
    by_cases h : sc (mm b) (qq b) (6 - e0) = 10000000
    · rw [h, decs_len8]; rfl
    · rw [decs_len7 _ n0 (by omega), decide_eq_false h]; rfl
  have hd := S.d1
  have key := powered_walk b (ng b) (mm b) (qq b) e0 X (sc (mm b) (qq b) (6 - e0)) d (strOfNums (decs (sc (mm b) (qq b) (6 - e0)))) (strOfNums (decs d)) (strOfNums (digs d 7)) (strOfNums (decs X.natAbs)) (strOfNums (expo X)) (strOfNums [c]) big w hP hord he0 LD S1
    (fun v w i => text_call _ 8 (by omega) (len_d _ (by omega)) (by omega) v w i) hbig S.f
    (fun hb => ⟨(S.t hb).1, fun w => (scaled_walk b (ng b) (mm b) (qq b) (6 - (e0 + 1)) w hP (by omega) hq (by omega)).mono fun _ _ h => Gives.cast h (S.t hb).2.symm⟩)
    (fun v w i => text_call d 7 (by omega) (len_d _ (by omega)) (by omega) v w i)
    (fun w => by rw [← pad7 d hd]; exact pad_call (decs d) 7 (Nat.le_trans (decs_le d 7 (by omega) (by omega)) (by omega)) (by omega) w)
    (by rw [strOfNums_size]; simp [digs]) (by rw [strOfNums_size]; rfl) (expo_len X) hX
    (fun v w i => text_call X.natAbs 3 (by omega) (len_d _ (by omega)) (by omega) v w i)
    (fun w => by rw [← pad_expo X X.natAbs rfl (by omega)]; exact pad_call (decs X.natAbs) 2 (Nat.le_trans (decs_le X.natAbs 3 (by omega) (by omega)) (by omega)) (by omega) w)
  rw [text_same] at key
  exact key
theorem powered0 (b : Nat) (hb : b < 18446744073709551616) (hf : Finite b) (hm : mm b = 0) (c : Int) (w : World) :
    Calls Tryz.prog 8 #[.float .f64 b, .string (strOfNums [c])] w fun e w' => e = .returned (.string (strOfNums (txt (ng b) 0 0 c))) ∧ Below w.heap.size w w' := by
  have hP := parts b hb hf
  have hord : (FloatKind.f64.format.order b 0 != some .eq) = false := by rw [order_zero b hf, decide_eq_false (by omega)]
  have h : ex b = 0 := by
    rcases Nat.eq_zero_or_pos (ex b) with h | h
    · exact h
    · rw [mm_nrm b (by omega)] at hm; omega
  have hq : qq b = -1074 := by unfold qq; rw [if_pos h]
  have hsc : sc (mm b) (qq b) 6 = 0 := by
    rw [hm]
    unfold sc
    simp [nr]
  have key := powered_zero b (ng b) (mm b) (qq b) 0 (strOfNums (decs 0)) (strOfNums (digs 0 7)) (strOfNums (decs 0)) (strOfNums (expo 0)) (strOfNums [c]) w hP hord
    (fun w => (scaled_walk b (ng b) (mm b) (qq b) 6 w hP (by omega) (by omega) (by omega)).mono fun _ _ h => Gives.cast h hsc)
    (by rw [strOfNums_size]; decide)
    (fun v w i => text_call 0 7 (by omega) (len_d _ (by omega)) (by omega) v w i)
    (fun w => by rw [← pad7 0 (by omega)]; exact pad_call (decs 0) 7 (by decide) (by omega) w)
    (by rw [strOfNums_size]; simp [digs]) (by rw [strOfNums_size]; rfl) (expo_len 0)
    (fun v w i => text_call 0 3 (by omega) (len_d _ (by omega)) (by omega) v w i)
    (fun w => by rw [← pad_expo 0 0 rfl (by omega)]; exact pad_call (decs 0) 2 (by decide) (by omega) w)
  rw [text_same] at key
  exact key
end Go.Proofs.YtgjfjbghdpcllaaGreatDoor
