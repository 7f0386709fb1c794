/- big.Float's round, where nothing is lost. -/
import Derived.Test.YtodipcgilgigbaaGreatDoorVD
import Derived.Outline
namespace Go.Proofs.YtodipcgilgigbaaGreatDoor.V
open Go Go.RowKit Go.Proofs.YtodipcgilgigbaaGreatDoor.I
set_option linter.unusedVariables false

/-- A big.Float in block f. -/
def FAt (w : World) (f : Nat) (prec acc form : Int) (neg : Bool) (sv : Value) (e : Int) : Prop :=
  w.heap[f]? = some (.cells #[.int .u32 prec, .int .u8 0, .int .i8 acc, .int .u8 form, .bool neg, sv, .int .i32 e] 143 (0, 0))
theorem FAt.lt {w : World} {f : Nat} {prec acc form e : Int} {neg : Bool} {sv : Value} (h : FAt w f prec acc form neg sv e) : f < w.heap.size := (Array.getElem?_eq_some_iff.1 h).1
theorem FAt.cells {w : World} {f : Nat} {prec acc form e : Int} {neg : Bool} {sv : Value} (h : FAt w f prec acc form neg sv e) : w.cell? ⟨f, 0, none⟩ = some (.int .u32 prec) ∧ w.cell? ⟨f, 1, none⟩ = some (.int .u8 0) ∧ w.cell? ⟨f, 2, none⟩ = some (.int .i8 acc) ∧ w.cell? ⟨f, 3, none⟩ = some (.int .u8 form) ∧ w.cell? ⟨f, 4, none⟩ = some (.bool neg) ∧ w.cell? ⟨f, 5, none⟩ = some sv ∧ w.cell? ⟨f, 6, none⟩ = some (.int .i32 e) := by
  unfold FAt at h
  exact ⟨(Lib.cell_of_heap h 0).trans rfl, (Lib.cell_of_heap h 1).trans rfl, (Lib.cell_of_heap h 2).trans rfl, (Lib.cell_of_heap h 3).trans rfl, (Lib.cell_of_heap h 4).trans rfl, (Lib.cell_of_heap h 5).trans rfl, (Lib.cell_of_heap h 6).trans rfl⟩
theorem FAt.fr {w : World} {f : Nat} {prec acc form e : Int} {neg : Bool} {sv : Value} (h : FAt w f prec acc form neg sv e) (i : Nat) : w.frozen? ⟨f, i, none⟩ = false := Lib.frozen_of_heap h i
theorem FAt.off {w w' : World} {f : Nat} {prec acc form e : Int} {neg : Bool} {sv : Value} (h : FAt w f prec acc form neg sv e) {S : Nat → Prop} (ho : Off S w w') (hs : ¬ S f) : FAt w' f prec acc form neg sv e := (ho.block f h.lt hs).trans h
theorem FAt.acc {w : World} {f : Nat} {prec acc form e : Int} {neg : Bool} {sv : Value} (h : FAt w f prec acc form neg sv e) (a : Int) : FAt (w.setCell ⟨f, 2, none⟩ (.int .i8 a)) f prec a form neg sv e := by
  have := heap_put h 2 (.int .i8 a)
  simpa [FAt] using this
theorem low_clear {x d : Nat} (hd : d < 64) (hx : x < 18446744073709551616) : bits .andNot .u64 (x : Int) ((2 ^ d - 1 : Nat) : Int) = ((2 ^ d * (x / 2 ^ d) : Nat) : Int) := by
  have h2 : (2 : Nat) ^ d ≤ 2 ^ 63 := Nat.pow_le_pow_right (by omega) (by omega)
  rw [u64_andNot_nat x (2 ^ d - 1) hx (by omega)]
  congr 1
  have e : 18446744073709551615 - (2 ^ d - 1) = 2 ^ d * (2 ^ (64 - d) - 1) := by
    have h3 : 2 ^ d * 2 ^ (64 - d) = 18446744073709551616 := by rw [← Nat.pow_add, show d + (64 - d) = 64 by omega]
    have h4 := Nat.two_pow_pos d
    rw [Nat.mul_sub, h3]
    omega
  rw [e]
  apply Nat.eq_of_testBit_eq
  intro j
  rw [Nat.testBit_and, Nat.testBit_two_pow_mul, Nat.testBit_two_pow_mul, Nat.testBit_two_pow_sub_one, Nat.testBit_div_two_pow]
  by_cases h : d ≤ j
  · rw [decide_eq_true h, Bool.true_and, Bool.true_and, show j - d + d = j by omega]
    by_cases hj : j - d < 64 - d
    · rw [decide_eq_true hj, Bool.and_true]
    · rw [decide_eq_false hj, Bool.and_false]
      exact (Nat.testBit_lt_two_pow (Nat.lt_of_lt_of_le hx (show 2 ^ 64 ≤ 2 ^ j from Nat.pow_le_pow_right (by omega) (by omega)))).symm
  · rw [decide_eq_false h]; simp
set_option maxRecDepth 100000 in
set_option maxHeartbeats 4000000 in
/-- The mantissa has no more bits than z.prec asks for, but noughts. -/
theorem round_exact (f g cap N k d : Nat) (hk : wl N = k + 1) (hk2 : k ≤ 900) (hd : d < 64) (hz : N % 2 ^ d = 0) (P acc e : Int) (hP : P = ((k : Int) + 1) * 64 - d) (neg : Bool) (w : World) (hf : FAt w f P acc 1 neg (.slice (some ⟨g, 0, none⟩) (k + 1) cap) e) (hr : Row w g cap (words N)) (hne : f ≠ g) :
    Calls Tryz.prog 93 #[.pointer (some ⟨f, 0, none⟩), .int .u64 0] w fun en w' => en = .returned (.tuple #[]) ∧ FAt w' f P 0 1 neg (.slice (some ⟨g, 0, none⟩) (k + 1) cap) e ∧ Row w' g cap (words N) ∧ Off (fun i => i = f ∨ i = g) w w' := by
  obtain ⟨c0, c1, c2, c3, c4, c5, c6⟩ := hf.cells
  have fr := hf.fr
  have hA := hf.acc 0
  obtain ⟨a0, a1, a2, a3, a4, a5, a6⟩ := hA.cells
  have hcz := (hr.cell (words_wd (n := N) (i := 0) (by omega)))
  have kk : (k : Int) ≤ 900 := by omega
  have hr2 : Row (w.setCell ⟨f, 2, none⟩ (.int .i8 0)) g cap (words N) := hr.off' ((Off.refl (fun i => i = f) w).setCell (p := ⟨f, 2, none⟩) (.inl rfl) _) (fun h => hne h.symm)
  have hO : Off (fun i => i = f ∨ i = g) w (w.setCell ⟨f, 2, none⟩ (.int .i8 0)) := (Off.refl (fun i => i = f ∨ i = g) w).setCell (p := ⟨f, 2, none⟩) (.inl (.inl rfl)) _
  rcases Nat.eq_zero_or_pos d with rfl | hd0
  · have hP0 : ((k : Int) + 1) * 64 ≤ P := by omega
    clear hP
    go_enter Tryz.func93, Tryz.ntmps93
    go_wp2_with fail
    refine bodyPost_ret (v := .tuple #[]) (by simp [results, Tryz.results93, go_sem]) rfl ⟨rfl, hA, hr2, hO⟩
  · have hP1 : ((k : Int) + 1) * 64 - P = d := by omega
    have hP2 : P < ((k : Int) + 1) * 64 := by omega
    have hP3 : (P + 63) / 64 = (k : Int) + 1 := by omega
    have hP4 : 0 ≤ P := by omega
    have hP5 : P ≤ 100000 := by omega
    have d1 : (0 : Int) < d := by omega
    have d2 : (d : Int) < 64 := by omega
    have hz1 : N / 2 ^ (d - 1) % 2 = 0 := by
      have e : 2 ^ d = 2 ^ (d - 1) * 2 := by rw [← Nat.pow_succ, show (d - 1).succ = d by omega]
      have h1 : 2 ^ (d - 1) * 2 ∣ N := e ▸ Nat.dvd_of_mod_eq_zero hz
      obtain ⟨q, rfl⟩ := h1
      rw [Nat.mul_assoc, Nat.mul_div_cancel_left _ (Nat.two_pow_pos _)]
      omega
    have hz2 : stk N (d - 1) = 0 := by
      unfold stk
      rw [if_pos]
      exact Nat.mod_eq_zero_of_dvd (Nat.dvd_trans (Nat.pow_dvd_pow 2 (by omega)) (Nat.dvd_of_mod_eq_zero hz))
    have BC : ∀ (r : Int) (wq : World), r = ((d - 1 : Nat) : Int) → Row wq g cap (words N) → Calls Tryz.prog 102 #[.slice (some ⟨g, 0, none⟩) (k + 1) cap, .int .u64 r] wq fun e w' => e = .returned (.int .u64 0) ∧ wq = w' := by
      intro r wq hrr hrow
      subst hrr
      have := bit_call N (d - 1) g cap (by omega) (by omega) wq hrow
      rw [hk, hz1] at this
      exact this
    have TC : ∀ (r : Int) (wq : World), r = ((d - 1 : Nat) : Int) → Row wq g cap (words N) → Calls Tryz.prog 75 #[.slice (some ⟨g, 0, none⟩) (k + 1) cap, .int .u64 r] wq fun e w' => e = .returned (.int .u64 0) ∧ wq = w' := by
      intro r wq hrr hrow
      subst hrr
      have := sticky_call N (d - 1) g cap (by omega) (by omega) wq hrow
      rw [hk, hz2] at this
      exact this
    have l1 : bits .and .u64 0 1 = 0 := by decide +kernel
    have l2 : bits .or .u64 0 0 = 0 := by decide +kernel
    have _hr2 : Row (w.setCell ⟨f, 2, none⟩ (.int .i8 0)) g cap (words N) := hr.off' ((Off.refl (fun i => i = f) w).setCell (p := ⟨f, 2, none⟩) (.inl rfl) _) (fun h => hne h.symm)
    have fr2 := hA.fr
    have hxx := wd_lt N 0
    have hcl := low_clear hd hxx
    have hzx : wd N 0 % 2 ^ d = 0 := by
      have := mod_bits N d
      rw [hz, show d / 64 = 0 by omega, Nat.pow_zero, Nat.mod_one, show d % 64 = d by omega] at this
      omega
    have hdm : 2 ^ d * (wd N 0 / 2 ^ d) = wd N 0 := by have := Nat.div_add_mod (wd N 0) (2 ^ d); omega
    rw [hdm] at hcl
    have hc0 := (hr2.cell (words_wd (n := N) (i := 0) (by omega)))
    have hf0 := hr2.frozen 0
    have hst := hr2.set (i := 0) ((wd N 0 : Nat) : Int)
    have hsl := half_zero (words N) (words N)
    have hset0 : (words N).set 0 ((wd N 0 : Nat) : Int) = words N := by
      have := half_set (words N) (words N) 0 rfl (by show 0 < wl N; omega) _ (words_wd (n := N) (i := 0) (by omega))
      rw [half_zero] at this
      rw [← this]
      unfold half
      simp
    have HS := Lib.hid hset0
    have hd63 : (2 : Nat) ^ d ≤ 2 ^ 63 := Nat.pow_le_pow_right (by omega) (by omega)
    have hd1 := Nat.two_pow_pos d
    have ep : (2 : Int) ^ d = ((2 ^ d : Nat) : Int) := by rw [Int.natCast_pow]; rfl
    have w1 : IntKind.u64.wrap ((2 : Int) ^ d) = (2 : Int) ^ d := IntWalk.u64_in _ (by omega)
    have w2 : IntKind.u64.wrap ((2 : Int) ^ d - 1) = (2 : Int) ^ d - 1 := IntWalk.u64_in _ (by omega)
    rw [show ((2 ^ d - 1 : Nat) : Int) = (2 : Int) ^ d - 1 by omega] at hcl
    clear hz hz1 hz2 hzx hdm hP hsl hset0 hd63 hd1 ep
    generalize wd N 0 = x at *
    go_enter Tryz.func93, Tryz.ntmps93
    go_wp2_with (first | (go_at_call 102; refine (BC _ _ (by omega) hr2).mono ?_; rintro _ w1 ⟨rfl, rfl⟩) | (go_at_call 75; refine (TC _ _ (by omega) hr2).mono ?_; rintro _ w1 ⟨rfl, rfl⟩))
    go_end0
    exact ⟨rfl, hA.off (S := fun i => i = g) ((Off.refl (fun i => i = g) _).setCell (p := ⟨g, 0, none⟩) (.inl rfl) _) hne, by rw [HS.out] at hst; exact hst, hO.setCell (p := ⟨g, 0, none⟩) (.inl (.inr rfl)) _⟩
end Go.Proofs.YtodipcgilgigbaaGreatDoor.V
