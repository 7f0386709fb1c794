/- starlark's Int as a float. -/
import Derived.Test.YtodipcgilgigbaaGreatDoorVI
set_option linter.unusedVariables false
namespace Go.Proofs.YtodipcgilgigbaaGreatDoor.V
open Go Go.RowKit Go.Proofs.YtodipcgilgigbaaGreatDoor.I Go.Proofs.YtodipcgilgigbaaGreatDoorW.PrintWords
attribute [local go_sem ↓] Go.wp_at_zero Go.wp_at_succ

theorem float_of (z : Int) : floatOfInt .f64 z = nb (decide (z < 0)) z.natAbs := by
  unfold floatOfInt FloatKind.nearest nb
  rfl
set_option maxRecDepth 100000 in
set_option maxHeartbeats 2000000 in
theorem intFloat_call (B : Nat) (v : Value) (z : Int) (hl : wl z.natAbs ≤ 1000) (w : World) (h : IsS w B v z) :
    Calls Tryz.prog 49 #[v] w fun e w' => e = .returned (.float .f64 (nb (decide (z < 0)) z.natAbs)) ∧ Below w.heap.size w w' := by
  rcases h with ⟨rfl, hs⟩ | ⟨g, rfl, hs, hz, hB⟩
  · have hf := float_of z
    have GC := get_call z none
    go_enter Tryz.func49, Tryz.ntmps49
    go_wp2_with (go_at_call 57; refine (GC _).mono ?_; rintro _ w1 ⟨rfl, hb1⟩)
    go_ret
    exact ⟨rfl, bt ((Below.refl _ w).alloc (Nat.le_refl _) _) hb1 (Nat.le_refl _)⟩
  · generalize hneg : decide (z < 0) = neg at *
    generalize hn : z.natAbs = n at *
    have h0 : n ≠ 0 := by
      intro h0
      subst h0
      simp [small] at hs
    clear hneg hn
    have GC := get_call 0 (some ⟨g, 0, none⟩)
    have hwA : ∀ w1, Below (w.alloc (.cells #[.int .i64 0, .pointer (some ⟨g, 0, none⟩)] 99)).heap.size (w.alloc (.cells #[.int .i64 0, .pointer (some ⟨g, 0, none⟩)] 99)) w1 → Below w.heap.size w w1 := fun w1 hb => bt ((Below.refl _ w).alloc (Nat.le_refl _) _) hb (Nat.le_refl _)
    by_cases hu : (!neg && decide (n < 18446744073709551616)) = true
    · have hn0 : neg = false := by cases neg <;> simp_all
      subst hn0
      have hn1 : n < 18446744073709551616 := by simpa using hu
      have hf : floatOfInt .f64 ((n : Int) % 18446744073709551616) = nb false n := by
        rw [Int.emod_eq_of_lt (by omega) (by omega), float_of, show decide ((n : Int) < 0) = false by rw [decide_eq_false_iff_not]; omega, Int.natAbs_natCast]
      go_enter Tryz.func49, Tryz.ntmps49
      go_wp2_with (first | (go_at_call 57; refine (GC _).mono ?_; rintro _ w1 ⟨rfl, hb1⟩; have hB1 := hwA w1 hb1; have hz1 := hz.below hB1; clear hb1) | (go_at_call 58; refine (isUint64_call g 0 n false _ hz1).mono ?_; rw [hu]; rintro _ w2 ⟨rfl, rfl⟩) | (go_at_call 59; refine (uint64_call g 0 n false hl _ hz1).mono ?_; rintro _ w3 ⟨rfl, rfl⟩))
      go_ret
      exact ⟨rfl, hB1⟩
    have hu2 : (!neg && decide (n < 18446744073709551616)) = false := by simpa using hu
    by_cases hi : (decide (n < 9223372036854775808) || (neg && decide (n = 9223372036854775808))) = true
    · have hn0 : neg = true := by
        cases neg
        · simp at hu2 hi; omega
        · rfl
      subst hn0
      have hn1 : n ≤ 9223372036854775808 := by simp at hi; omega
      have hf : floatOfInt .f64 (i64of true n) = nb true n := by
        have e : i64of true n = -(n : Int) := by
          unfold i64of
          rw [if_pos rfl, Nat.mod_eq_of_lt (by omega)]
          unfold wrap64
          omega
        rw [e, float_of, show decide (-(n : Int) < 0) = true by rw [decide_eq_true_iff]; omega, Int.natAbs_neg, Int.natAbs_natCast]
      go_enter Tryz.func49, Tryz.ntmps49
      go_wp2_with (first | (go_at_call 57; refine (GC _).mono ?_; rintro _ w1 ⟨rfl, hb1⟩; have hB1 := hwA w1 hb1; have hz1 := hz.below hB1; clear hb1) | (go_at_call 58; refine (isUint64_call g 0 n true _ hz1).mono ?_; rw [hu2]; rintro _ w2 ⟨rfl, rfl⟩) | (go_at_call 60; refine (isInt64_call g 0 n true hl _ hz1).mono ?_; rw [hi]; rintro _ w2 ⟨rfl, rfl⟩) | (go_at_call 61; refine (int64_call g 0 n true hl _ hz1).mono ?_; rintro _ w3 ⟨rfl, rfl⟩))
      go_ret
      exact ⟨rfl, hB1⟩
    have hi2 : (decide (n < 9223372036854775808) || (neg && decide (n = 9223372036854775808))) = false := by simpa using hi
    have hn63 : 9223372036854775808 ≤ n := by
      cases neg <;> simp at hi2 <;> omega
    have hb64 : 64 ≤ bl n := by
      unfold bl
      rw [if_neg h0]
      have := (Nat.le_log2 h0 (k := 63)).2 (by omega)
      omega
    have hblw := bl_wl h0
    by_cases hov : 1024 < bl n
    · have hinf := fun s => nb_inf s (n := n) (by unfold bl at hov; rw [if_neg h0] at hov; omega)
      have hoi : (1024 : Int) < bl n := by omega
      have hi1 := minf_neg
      have hi0 := minf_pos
      have SG := fun w => sign_call g 0 n neg w
      rw [hinf]
      cases neg
      all_goals
        go_enter Tryz.func49, Tryz.ntmps49
        go_wp2_with (first | (go_at_call 57; refine (GC _).mono ?_; rintro _ w1 ⟨rfl, hb1⟩; have hB1 := hwA w1 hb1; have hz1 := hz.below hB1; clear hb1) | (go_at_call 58; refine (isUint64_call g 0 n _ _ hz1).mono ?_; rw [hu2]; rintro _ w2 ⟨rfl, rfl⟩) | (go_at_call 60; refine (isInt64_call g 0 n _ hl _ hz1).mono ?_; rw [hi2]; rintro _ w2 ⟨rfl, rfl⟩) | (go_at_call 62; refine (intBitLen_call g 0 n _ hl _ hz1).mono ?_; rintro _ w3 ⟨rfl, rfl⟩) | (go_at_call 63; refine (SG _ hz1).mono ?_; rw [if_neg h0]; rintro _ w4 ⟨rfl, rfl⟩) | (go_at_call 43; (first | refine (hi0 _).mono ?_ | refine (hi1 _).mono ?_); rintro _ w5 ⟨rfl, rfl⟩))
        go_ret
        exact ⟨rfl, hB1⟩
    · have hoi : ¬ (1024 : Int) < bl n := by omega
      go_enter Tryz.func49, Tryz.ntmps49
      go_wp2_with (first | (go_at_call 57; refine (GC _).mono ?_; rintro _ w1 ⟨rfl, hb1⟩; have hB1 := hwA w1 hb1; have hz1 := hz.below hB1; clear hb1) | (go_at_call 58; refine (isUint64_call g 0 n _ _ hz1).mono ?_; rw [hu2]; rintro _ w2 ⟨rfl, rfl⟩) | (go_at_call 60; refine (isInt64_call g 0 n _ hl _ hz1).mono ?_; rw [hi2]; rintro _ w2 ⟨rfl, rfl⟩) | (go_at_call 62; refine (intBitLen_call g 0 n _ hl _ hz1).mono ?_; rintro _ w3 ⟨rfl, rfl⟩))
      have hA : Below w1.heap.size w1 (w1.alloc (.cells #[.int .u32 0, .int .u8 0, .int .i8 0, .int .u8 0, .bool false, .slice none 0 0, .int .i32 0] 143)) := (Below.refl _ w1).alloc (Nat.le_refl _) _
      have hF : FAt (w1.alloc (.cells #[.int .u32 0, .int .u8 0, .int .i8 0, .int .u8 0, .bool false, .slice none 0 0, .int .i32 0] 143)) w1.heap.size 0 0 0 false (.slice none 0 0) 0 := heap_alloc_new w1 _
      have hz2 := hz1.below hA
      have hB2 := bt hB1 hA (Nat.le_refl _)
      have hgl := hz1.lt
      obtain ⟨W, hW⟩ : ∃ W, w1.alloc (.cells #[.int .u32 0, .int .u8 0, .int .i8 0, .int .u8 0, .bool false, .slice none 0 0, .int .i32 0] 143) = W := ⟨_, rfl⟩
      have hs1 := hB1.size
      rw [hW] at hF hz2 hB2 ⊢
      have SI := setInt_call w1.heap.size g 0 n neg hb64 (by omega) W hF hz2 (by omega)
      unfold SetF at SI
      clear hW
      go_wp2_with (first | (go_at_call 64; refine SI.mono ?_; rintro _ w4 ⟨rfl, g4, c4, hF4, hr4, hne4, hO4⟩) | (go_at_call 65; refine (float64_call w1.heap.size g4 c4 n neg hb64 (by omega) w4 hF4 hr4).mono ?_; rintro _ w5 ⟨ac, rfl, hb5⟩))
      go_ret
      refine ⟨rfl, ?_⟩
      have hB4 : Below w.heap.size w w4 := ⟨hO4.os.trans hB2.os, hO4.tape.trans hB2.tape, hO4.output.trans hB2.output, by have := hO4.size; have := hB2.size; omega, fun i hi => (hO4.block i (by have := hB2.size; omega) (fun e => by omega)).trans (hB2.block i hi)⟩
      exact bt hB4 hb5 (Nat.le_refl _)
end Go.Proofs.YtodipcgilgigbaaGreatDoor.V
