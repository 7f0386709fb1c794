/- ftoa64 at each finite float: the text. -/
import Derived.Test.YtgjfjbghdpcllaaGreatDoorJ4
namespace Go.Proofs.YtgjfjbghdpcllaaGreatDoor
open Go Go.RowKit U I

theorem shl_is (m : Nat) (h0 : 0 < m) (h1 : m < 2 ^ 53) : IntKind.u64.wrap ((m : Int) * 2 ^ ((64 : Int) - (bl m : Nat)).toNat) = ((m * 2 ^ (53 - bl m) * 2048 : Nat) : Int) := by
  obtain ⟨a, b, c⟩ := shifted m h0 h1
  have e : ((64 : Int) - (bl m : Nat)).toNat = (53 - bl m) + 11 := by omega
  rw [e, Int.pow_add, ← Int.mul_assoc]
  have e2 : (m : Int) * 2 ^ (53 - bl m) * 2 ^ 11 = ((m * 2 ^ (53 - bl m) * 2048 : Nat) : Int) := by simp
  rw [e2, u64_nat _ (by omega)]
theorem mm_sub (b : Nat) (h : ex b = 0) : mm b = fr b := by unfold mm; rw [if_pos h]
theorem mm_nrm (b : Nat) (h : ex b ≠ 0) : mm b = fr b + 4503599627370496 := by unfold mm; rw [if_neg h]
theorem ff_e (b : Nat) (hb : b < 18446744073709551616) (hf : Finite b) (hm : 0 < mm b) (u d : Nat) (X e0 : Int) (big : Bool) (S : Same (mm b) (EE b) (qq b) u d X e0 big)
    (hu : u = cutq (mm b * 2 ^ (53 - bl (mm b)) * al (EE b)) (be (EE b))) (w : World) (T : Tab w) : FF b 101 (txt (ng b) d X 101) w := by
  intro v B w' hbel hown hB
  have T' := T.below hbel
  obtain ⟨E0, E1, E2, l1, l2⟩ := EE_bounds b hf hm
  obtain ⟨_, y0, y1⟩ := shifted (mm b) hm (mm_lt b)
  obtain ⟨_, _, _, _, _, _, g0, g1, _⟩ := chk2_at (EE b) E0 E1
  have hmlt := mm_lt b
  have hsx := shl_is (mm b) hm hmlt
  have sx0 := S.x0
  have sx1 := S.x1
  have hxl := ex_lt b hf
  have FW : ∀ e : Int, e = EE b - 63 → ∀ w2, Below w'.heap.size w' w2 → Calls Tryz.prog 65 #[.int .u64 ((mm b * 2 ^ (53 - bl (mm b)) * 2048 : Nat) : Int), .int .i64 e, .int .i64 7, .int .i64 6, .int .u8 101] w2 fun r w3 => r = .returned (.tuple #[.int .u64 d, .int .i64 (X - 6)]) ∧ Below w2.heap.size w2 w3 :=
    fun e he w2 hb2 => fw _ _ (EE b) X e0 (qq b) e 101 u d (mm b) big w2 (T'.below hb2) E0 E1 rfl y0 y1 hu S he (by decide)
  by_cases h : ex b = 0
  · have he := ex_i64 b hb
    rw [h] at he
    have hfr := fr_is b hb
    rw [← mm_sub b h] at hfr
    refine ftoa_sub b b (mm b) (bl (mm b) : Nat) (64 - (bl (mm b) : Nat)) _ (X - 6) X d B (ng b) v w' (run_bits56 b) (ng_ne b hb) he hfr ?_ (fun w => len_call (mm b) (by omega) hm w) rfl (by omega) (by omega) hsx T'.opt T'.size S.d0 S.d1 (by omega) (by omega) (by omega)
      (FW _ ?_) (fun w2 hb2 => nd d S.d0 S.d1 w2 (T'.below hb2)) hown hB
    · rw [beq_eq_false_iff_ne]; omega
    · have : qq b = -1074 := by unfold qq; rw [if_pos h]
      omega
  · have hor := fr_or b
    rw [← mm_nrm b h] at hor
    refine ftoa_norm b b (ex b) (fr b) (mm b) (bl (mm b) : Nat) (64 - (bl (mm b) : Nat)) _ (X - 6) X d B (ng b) v w' (run_bits56 b) (ng_ne b hb) (ex_i64 b hb) (fr_is b hb) hor ?_ (fun w => len_call (mm b) (by omega) hm w) rfl (by omega) (by omega) hsx T'.opt T'.size (by omega) (by omega) S.d0 S.d1 (by omega) (by omega) (by omega)
      (FW _ ?_) (fun w2 hb2 => nd d S.d0 S.d1 w2 (T'.below hb2)) hown hB
    · rw [beq_eq_false_iff_ne]; omega
    · have : qq b = (ex b : Int) - 1075 := by unfold qq; rw [if_neg h]
      omega
theorem ff0_e (b : Nat) (hb : b < 18446744073709551616) (hm : mm b = 0) (w : World) : FF b 101 (txt (ng b) 0 0 101) w := by
  intro v B w' hbel hown hB
  have h : ex b = 0 := by
    rcases Nat.eq_zero_or_pos (ex b) with h | h
    · exact h
    · rw [mm_nrm b (by omega)] at hm; omega
  have he := ex_i64 b hb
  rw [h] at he
  have hfr := fr_is b hb
  rw [← mm_sub b h, hm] at hfr
  exact ftoa_zero_e b b B (ng b) v w' (run_bits56 b) (ng_ne b hb) he hfr hown hB
theorem ff_E (b : Nat) (hb : b < 18446744073709551616) (hf : Finite b) (hm : 0 < mm b) (u d : Nat) (X e0 : Int) (big : Bool) (S : Same (mm b) (EE b) (qq b) u d X e0 big)
    (hu : u = cutq (mm b * 2 ^ (53 - bl (mm b)) * al (EE b)) (be (EE b))) (w : World) (T : Tab w) : FF b 69 (txt (ng b) d X 69) w := by
  intro v B w' hbel hown hB
  have T' := T.below hbel
  obtain ⟨E0, E1, E2, l1, l2⟩ := EE_bounds b hf hm
  obtain ⟨_, y0, y1⟩ := shifted (mm b) hm (mm_lt b)
  obtain ⟨_, _, _, _, _, _, g0, g1, _⟩ := chk2_at (EE b) E0 E1
  have hmlt := mm_lt b
  have hsx := shl_is (mm b) hm hmlt
  have sx0 := S.x0
  have sx1 := S.x1
  have hxl := ex_lt b hf
  have FW : ∀ e : Int, e = EE b - 63 → ∀ w2, Below w'.heap.size w' w2 → Calls Tryz.prog 65 #[.int .u64 ((mm b * 2 ^ (53 - bl (mm b)) * 2048 : Nat) : Int), .int .i64 e, .int .i64 7, .int .i64 6, .int .u8 69] w2 fun r w3 => r = .returned (.tuple #[.int .u64 d, .int .i64 (X - 6)]) ∧ Below w2.heap.size w2 w3 :=
    fun e he w2 hb2 => fw _ _ (EE b) X e0 (qq b) e 69 u d (mm b) big w2 (T'.below hb2) E0 E1 rfl y0 y1 hu S he (by decide)
  by_cases h : ex b = 0
  · have he := ex_i64 b hb
    rw [h] at he
    have hfr := fr_is b hb
    rw [← mm_sub b h] at hfr
    refine ftoa_sub_E b b (mm b) (bl (mm b) : Nat) (64 - (bl (mm b) : Nat)) _ (X - 6) X d B (ng b) v w' (run_bits56 b) (ng_ne b hb) he hfr ?_ (fun w => len_call (mm b) (by omega) hm w) rfl (by omega) (by omega) hsx T'.opt T'.size S.d0 S.d1 (by omega) (by omega) (by omega)
      (FW _ ?_) (fun w2 hb2 => nd d S.d0 S.d1 w2 (T'.below hb2)) hown hB
    · rw [beq_eq_false_iff_ne]; omega
    · have : qq b = -1074 := by unfold qq; rw [if_pos h]
      omega
  · have hor := fr_or b
    rw [← mm_nrm b h] at hor
    refine ftoa_norm_E b b (ex b) (fr b) (mm b) (bl (mm b) : Nat) (64 - (bl (mm b) : Nat)) _ (X - 6) X d B (ng b) v w' (run_bits56 b) (ng_ne b hb) (ex_i64 b hb) (fr_is b hb) hor ?_ (fun w => len_call (mm b) (by omega) hm w) rfl (by omega) (by omega) hsx T'.opt T'.size (by omega) (by omega) S.d0 S.d1 (by omega) (by omega) (by omega)
      (FW _ ?_) (fun w2 hb2 => nd d S.d0 S.d1 w2 (T'.below hb2)) hown hB
    · rw [beq_eq_false_iff_ne]; omega
    · have : qq b = (ex b : Int) - 1075 := by unfold qq; rw [if_neg h]
      omega
theorem ff0_E (b : Nat) (hb : b < 18446744073709551616) (hm : mm b = 0) (w : World) : FF b 69 (txt (ng b) 0 0 69) w := by
  intro v B w' hbel hown hB
  have h : ex b = 0 := by
    rcases Nat.eq_zero_or_pos (ex b) with h | h
    · exact h
    · rw [mm_nrm b (by omega)] at hm; omega
  have he := ex_i64 b hb
  rw [h] at he
  have hfr := fr_is b hb
  rw [← mm_sub b h, hm] at hfr
  exact ftoa_zero_E b b B (ng b) v w' (run_bits56 b) (ng_ne b hb) he hfr hown hB
end Go.Proofs.YtgjfjbghdpcllaaGreatDoor
