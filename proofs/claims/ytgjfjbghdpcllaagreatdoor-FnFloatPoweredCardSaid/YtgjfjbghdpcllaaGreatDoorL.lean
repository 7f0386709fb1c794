/- The law FnFloatPowered, walked. -/
import Derived.Test.YtgjfjbghdpcllaaGreatDoorJ6
namespace Go.Proofs.YtgjfjbghdpcllaaGreatDoor
open Go Go.RowKit U I

/-- What both sides give at a finite float. -/
theorem both (b : Nat) (hb : b < 18446744073709551616) (hf : Finite b) (c : Int) (hc : c = 101 ∨ c = 69) (W : World) (T : Tab W) :
    ∃ l : List Int, (∀ w, Below W.heap.size W w → Calls Tryz.prog 6 #[.int .u64 b, .int .u8 c] w fun e w' => e = .returned (.string (strOfNums l)) ∧ Below w.heap.size w w') ∧
      (∀ w, Below W.heap.size W w → Calls Tryz.prog 8 #[.float .f64 b, .string (strOfNums [c])] w fun e w' => e = .returned (.string (strOfNums l)) ∧ Below w.heap.size w w') := by
  have e1 : (c == 103) = false := by rcases hc with rfl | rfl <;> decide
  have e2 : (c == 71) = false := by rcases hc with rfl | rfl <;> decide
  have hne : ∀ (neg : Bool) (d : Nat) (X : Int), txt neg d X c ≠ [] := by
    intro neg d X h
    have := congrArg List.length h
    simp [txt, mant] at this
  have hln : ∀ (neg : Bool) (d : Nat) (X : Int), (txt neg d X c).length ≤ 1000 := by
    intro neg d X
    have h1 : (sgn neg).length ≤ 1 := by cases neg <;> decide
    have h2 : (expo X).length ≤ 3 := by
      unfold expo
      split
      · simp
      · split <;> simp
    simp [txt, mant]
    omega
  by_cases hm : mm b = 0
  · refine ⟨txt (ng b) 0 0 c, fun w hbw => ?_, fun w _ => powered0 b hb hf hm c w⟩
    have hF : FF b c (txt (ng b) 0 0 c) w := by
      rcases hc with rfl | rfl
      · exact ff0_e b hb hm w
      · exact ff0_E b hb hm w
    exact form6 b c _ w hF (hne _ _ _) (hln _ _ _) hb hf e1 e2
  · have hm : 0 < mm b := by omega
    obtain ⟨E0, E1, E2, l1, l2⟩ := EE_bounds b hf hm
    obtain ⟨_, y0, y1⟩ := shifted (mm b) hm (mm_lt b)
    obtain ⟨d, X, e0, big, S⟩ := same (mm b) (53 - bl (mm b)) (EE b) (qq b) _ E0 E1 E2 y0 y1 rfl
    refine ⟨txt (ng b) d X c, fun w hbw => ?_, fun w _ => powered b hb hf hm c _ d X e0 big S w⟩
    have hF : FF b c (txt (ng b) d X c) w := by
      rcases hc with rfl | rfl
      · exact ff_e b hb hf hm _ d X e0 big S rfl w (T.below hbw)
      · exact ff_E b hb hf hm _ d X e0 big S rfl w (T.below hbw)
    exact form6 b c _ w hF (hne _ _ _) (hln _ _ _) hb hf e1 e2
/-- The region with the two calls, at a float that is finite and a letter. -/
def Both (b : Nat) (c : Int) (s : ByteArray) (R : ByteArray) (W : World) : Prop := (∀ w, Below W.heap.size W w → Calls Tryz.prog 6 #[.int .u64 b, .int .u8 c] w fun e w' => e = .returned (.string R) ∧ Below w.heap.size w w') ∧
      (∀ w, Below W.heap.size W w → Calls Tryz.prog 8 #[.float .f64 b, .string s] w fun e w' => e = .returned (.string R) ∧ Below w.heap.size w w')
set_option maxHeartbeats 4000000 in
set_option maxRecDepth 100000 in
theorem law_fin (b y : Nat) (hb : b < 18446744073709551616) (hf : Finite b) (W : World) (T : Tab W) (hy : y < 256) :
    Calls Tryz.prog 3 #[.int .u64 b, .int .u8 y] W fun e w' => e = .returned (.bool true) ∧ Below W.heap.size W w' := by
  have F := run_frombits b
  rw [Int.toNat_natCast] at F
  have K := finite_yes b W hb hf
  have B := run_bits b
  have b0 : Below W.heap.size W W.drew := (Below.refl _ W).drew
  have hy0 : (0 : Int) ≤ y := by omega
  rcases Nat.mod_two_eq_zero_or_one y with h2 | h2
  · obtain ⟨l, L6, L8⟩ := both b hb hf 101 (Or.inl rfl) W T
    generalize strOfNums l = R at *
    have m1 : (y : Int) % 2 = 0 := by omega
    have m2 : (y : Int).tmod 2 = 0 := by rw [Int.tmod_eq_emod_of_nonneg hy0]; exact m1
    have hw1 : IntKind.u8.wrap 1 = 1 := by decide
    have hsl : (⟨#[101, 69]⟩ : ByteArray).extract 0 1 = strOfNums [101] := by decide
    rw [← hsl] at L8
    have hix : ((⟨#[101, 69]⟩ : ByteArray)[0]'(by decide)).toNat = 101 := by decide
    clear hb hf h2 hy T hsl hix
    go_enter Tryz.func3, Tryz.ntmps3
    go_wp2_with fail
    refine K.mono ?_; rintro _ w1 ⟨rfl, rfl⟩
    go_wp2_with fail
    go_region_with (first | (go_at_call 6; refine (L6 _ b0).mono ?_; rintro _ w1 ⟨rfl, b1⟩; have b2 := b0.trans (b1.mono b0.size); clear b0; have b0 := b2; clear b2) | (go_at_call 8; refine (L8 _ b0).mono ?_; rintro _ w1 ⟨rfl, b1⟩; have b2 := b0.trans (b1.mono b0.size); clear b0; have b0 := b2; clear b2))
    all_goals
      go_wp2_with fail
      go_ret
      exact ⟨rfl, b0⟩
  · obtain ⟨l, L6, L8⟩ := both b hb hf 69 (Or.inr rfl) W T
    generalize strOfNums l = R at *
    have m1 : (y : Int) % 2 = 1 := by omega
    have m2 : (y : Int).tmod 2 = 1 := by rw [Int.tmod_eq_emod_of_nonneg hy0]; exact m1
    have hw1 : IntKind.u8.wrap 2 = 2 := by decide
    have hsl : (⟨#[101, 69]⟩ : ByteArray).extract 1 2 = strOfNums [69] := by decide
    rw [← hsl] at L8
    have hix : ((⟨#[101, 69]⟩ : ByteArray)[1]'(by decide)).toNat = 69 := by decide
    clear hb hf h2 hy T hsl hix
    go_enter Tryz.func3, Tryz.ntmps3
    go_wp2_with fail
    refine K.mono ?_; rintro _ w1 ⟨rfl, rfl⟩
    go_wp2_with fail
    go_region_with (first | (go_at_call 6; refine (L6 _ b0).mono ?_; rintro _ w1 ⟨rfl, b1⟩; have b2 := b0.trans (b1.mono b0.size); clear b0; have b0 := b2; clear b2) | (go_at_call 8; refine (L8 _ b0).mono ?_; rintro _ w1 ⟨rfl, b1⟩; have b2 := b0.trans (b1.mono b0.size); clear b0; have b0 := b2; clear b2))
    all_goals
      go_wp2_with fail
      go_ret
      exact ⟨rfl, b0⟩
set_option maxHeartbeats 4000000 in
set_option maxRecDepth 100000 in
theorem law_not (b y : Nat) (hb : b < 18446744073709551616) (hf : ¬ Finite b) (W : World) (T : Tab W) (hy : y < 256) :
    Calls Tryz.prog 3 #[.int .u64 b, .int .u8 y] W fun e w' => e = .returned (.bool true) ∧ Below W.heap.size W w' := by
  have F := run_frombits b
  rw [Int.toNat_natCast] at F
  have K := finite_no b W hb hf
  have B : ∀ w, (callFunc 7 #[.float .f64 4602678819172646912]).run Tryz.prog w = .ok (.value (.int .u64 4602678819172646912)) w := run_bits 4602678819172646912
  have b0 : Below W.heap.size W W.drew := (Below.refl _ W).drew
  have hy0 : (0 : Int) ≤ y := by omega
  rcases Nat.mod_two_eq_zero_or_one y with h2 | h2
  · obtain ⟨l, L6o, L8⟩ := both 4602678819172646912 (by decide) (by unfold Finite; decide) 101 (Or.inl rfl) W T
    generalize strOfNums l = R at *
    have L6 : ∀ w, Below W.heap.size W w → Calls Tryz.prog 6 #[.int .u64 4602678819172646912, .int .u8 101] w fun e w' => e = .returned (.string R) ∧ Below w.heap.size w w' := L6o
    clear L6o
    have m1 : (y : Int) % 2 = 0 := by omega
    have m2 : (y : Int).tmod 2 = 0 := by rw [Int.tmod_eq_emod_of_nonneg hy0]; exact m1
    have hw1 : IntKind.u8.wrap 1 = 1 := by decide
    have hsl : (⟨#[101, 69]⟩ : ByteArray).extract 0 1 = strOfNums [101] := by decide
    rw [← hsl] at L8
    have hix : ((⟨#[101, 69]⟩ : ByteArray)[0]'(by decide)).toNat = 101 := by decide
    clear hb hf h2 hy T hsl hix
    go_enter Tryz.func3, Tryz.ntmps3
    go_wp2_with fail
    refine K.mono ?_; rintro _ w1 ⟨rfl, rfl⟩
    go_wp2_with fail
    go_region_with (first | (go_at_call 6; refine (L6 _ b0).mono ?_; rintro _ w1 ⟨rfl, b1⟩; have b2 := b0.trans (b1.mono b0.size); clear b0; have b0 := b2; clear b2) | (go_at_call 8; refine (L8 _ b0).mono ?_; rintro _ w1 ⟨rfl, b1⟩; have b2 := b0.trans (b1.mono b0.size); clear b0; have b0 := b2; clear b2))
    all_goals
      go_wp2_with fail
      go_ret
      exact ⟨rfl, b0⟩
  · obtain ⟨l, L6o, L8⟩ := both 4602678819172646912 (by decide) (by unfold Finite; decide) 69 (Or.inr rfl) W T
    generalize strOfNums l = R at *
    have L6 : ∀ w, Below W.heap.size W w → Calls Tryz.prog 6 #[.int .u64 4602678819172646912, .int .u8 69] w fun e w' => e = .returned (.string R) ∧ Below w.heap.size w w' := L6o
    clear L6o
    have m1 : (y : Int) % 2 = 1 := by omega
    have m2 : (y : Int).tmod 2 = 1 := by rw [Int.tmod_eq_emod_of_nonneg hy0]; exact m1
    have hw1 : IntKind.u8.wrap 2 = 2 := by decide
    have hsl : (⟨#[101, 69]⟩ : ByteArray).extract 1 2 = strOfNums [69] := by decide
    rw [← hsl] at L8
    have hix : ((⟨#[101, 69]⟩ : ByteArray)[1]'(by decide)).toNat = 69 := by decide
    clear hb hf h2 hy T hsl hix
    go_enter Tryz.func3, Tryz.ntmps3
    go_wp2_with fail
    refine K.mono ?_; rintro _ w1 ⟨rfl, rfl⟩
    go_wp2_with fail
    go_region_with (first | (go_at_call 6; refine (L6 _ b0).mono ?_; rintro _ w1 ⟨rfl, b1⟩; have b2 := b0.trans (b1.mono b0.size); clear b0; have b0 := b2; clear b2) | (go_at_call 8; refine (L8 _ b0).mono ?_; rintro _ w1 ⟨rfl, b1⟩; have b2 := b0.trans (b1.mono b0.size); clear b0; have b0 := b2; clear b2))
    all_goals
      go_wp2_with fail
      go_ret
      exact ⟨rfl, b0⟩
theorem law (b y : Nat) (hb : b < 18446744073709551616) (W : World) (T : Tab W) (hy : y < 256) :
    Calls Tryz.prog 3 #[.int .u64 b, .int .u8 y] W fun e w' => e = .returned (.bool true) ∧ Below W.heap.size W w' := by
  by_cases hf : Finite b
  · exact law_fin b y hb hf W T hy
  · exact law_not b y hb hf W T hy
end Go.Proofs.YtgjfjbghdpcllaaGreatDoor
