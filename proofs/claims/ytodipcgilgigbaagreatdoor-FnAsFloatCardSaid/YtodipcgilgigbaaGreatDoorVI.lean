/- big.Float's Float64. -/
import Derived.Test.YtodipcgilgigbaaGreatDoorVH
import Derived.Test.YtodipcgilgigbaaGreatDoorS2
set_option linter.unusedVariables false
namespace Go.Proofs.YtodipcgilgigbaaGreatDoor.V
open Go Go.RowKit Go.Proofs.YtodipcgilgigbaaGreatDoor.I Go.Proofs.YtodipcgilgigbaaGreatDoorW.PrintWords
attribute [local go_sem ↓] Go.wp_at_zero Go.wp_at_succ

set_option maxRecDepth 100000 in
theorem minf_pos (w : World) : Calls Tryz.prog 43 #[.int .i64 1] w fun e w' => e = .returned (.float .f64 9218868437227405312) ∧ w = w' := by
  have h' := run_frombits
  go_enter Tryz.func43, Tryz.ntmps43
  go_wp2
  go_ret
  exact ⟨rfl, rfl⟩
set_option maxRecDepth 100000 in
theorem minf_neg (w : World) : Calls Tryz.prog 43 #[.int .i64 (-1)] w fun e w' => e = .returned (.float .f64 (9223372036854775808 + 9218868437227405312)) ∧ w = w' := by
  have h' := run_frombits
  go_enter Tryz.func43, Tryz.ntmps43
  go_wp2
  go_ret
  exact ⟨rfl, rfl⟩
set_option maxRecDepth 100000 in
theorem msb_call (T : Int) (g cap : Nat) (w : World) (hr : Row w g cap [T]) : Calls Tryz.prog 77 #[.slice (some ⟨g, 0, none⟩) 1 cap] w fun e w' => e = .returned (.int .u64 T) ∧ w' = w := by
  have h0 := hr.cell (i := 0) (x := T) rfl
  go_enter Tryz.func77, Tryz.ntmps77
  go_wp2
  go_ret
  exact ⟨rfl, rfl⟩
theorem fbits (sg : Bool) (K P : Nat) (h1 : 4503599627370496 ≤ K) (h2 : K < 9007199254740992) (hP : P ≤ 971) :
    (bits .or .u64 (bits .or .u64 (if sg then 9223372036854775808 else 0) (((P : Int) + 53 - 1 + 1023) * 4503599627370496)) (bits .and .u64 (K : Int) 4503599627370495)).toNat = (if sg then 9223372036854775808 else 0) + (if P ≤ 971 then fb K P else 9218868437227405312) := by
  have hm : bits .and .u64 (K : Int) 4503599627370495 = ((K - 4503599627370496 : Nat) : Int) := by
    have h := u64_and_nat K 4503599627370495 (by omega) (by decide)
    rw [show ((4503599627370495 : Nat) : Int) = 4503599627370495 from rfl] at h
    rw [h, show (4503599627370495 : Nat) = 2 ^ 52 - 1 from rfl, Nat.and_two_pow_sub_one_eq_mod]
    omega
  have ho : bits .or .u64 (if sg then 9223372036854775808 else 0) (((P : Int) + 53 - 1 + 1023) * 4503599627370496) = (((P + 1075) * 4503599627370496 + (if sg then 9223372036854775808 else 0) : Nat) : Int) := by
    have e : ((P : Int) + 53 - 1 + 1023) * 4503599627370496 = (((P + 1075) * 4503599627370496 : Nat) : Int) := by omega
    have e2 : (if sg then (9223372036854775808 : Int) else 0) = ((if sg then 1 else 0 : Nat) * 9223372036854775808 : Nat) := by cases sg <;> rfl
    rw [e, e2, u64_or_nat _ _ (by cases sg <;> simp) (by omega), Nat.or_comm, or_join 63 _ _ 9223372036854775808 (by decide) (by omega)]
    cases sg <;> simp
  have e3 : (P + 1075) * 4503599627370496 + (if sg then 9223372036854775808 else 0) = ((P + 1075) + (if sg then 2048 else 0)) * 4503599627370496 := by cases sg <;> simp <;> omega
  rw [hm, ho, e3, u64_or_nat _ _ (by cases sg <;> simp <;> omega) (by omega), Nat.or_comm, or_join 52 _ _ 4503599627370496 (by decide) (by omega), if_pos hP]
  unfold fb
  rw [Int.toNat_natCast]
  cases sg <;> simp <;> omega
def F64 (w : World) (n : Nat) (neg : Bool) (en : Ending) (w' : World) : Prop := ∃ a : Int, en = .returned (.tuple #[.float .f64 (nb neg n), .int .i8 a]) ∧ Below w.heap.size w w'
set_option maxRecDepth 100000 in
set_option maxHeartbeats 2000000 in
theorem float64_call (f2 g cap n : Nat) (neg : Bool) (hb : 64 ≤ bl n) (hl : wl n ≤ 900) (w : World) (hx : FAt w f2 (bl n : Nat) 0 1 neg (.slice (some ⟨g, 0, none⟩) (wl n) cap) (bl n : Nat)) (hr : Row w g cap (words (n * 2 ^ nz n))) :
    Calls Tryz.prog 65 #[.pointer (some ⟨f2, 0, none⟩)] w (F64 w n neg) := by
  have h0 : n ≠ 0 := by intro h0; subst h0; simp [bl] at hb
  obtain ⟨k, hk⟩ : ∃ k, wl n = k + 1 := ⟨wl n - 1, by have := wl_pos h0; omega⟩
  obtain ⟨hk2, hbN⟩ := wl_nz h0
  rw [hk] at hk2 hbN hx hl
  have hblw := bl_wl h0
  rw [hk] at hblw
  obtain ⟨x0, x1, x2, x3, x4, x5, x6⟩ := hx.cells
  have xl := hx.lt
  have SC := fun (f : Nat) (w' : World) (hf : FAt w' f 53 0 0 false (.slice none 0 0) 0) (hx' : FAt w' f2 (bl n : Nat) 0 1 neg (.slice (some ⟨g, 0, none⟩) (k + 1) cap) (bl n : Nat)) (hr' : Row w' g cap (words (n * 2 ^ nz n))) (hne : f ≠ f2) => fset_call f f2 g cap (n * 2 ^ nz n) k hk2 (by omega) hbN (bl n : Nat) (bl n : Nat) (by omega) (by omega) (by omega) neg w' hf hx' hr' hne
  have hrk := rk_kp hb hk
  have hb2 : (64 : Int) ≤ bl n := by omega
  have hb3 : (bl n : Int) ≤ 60000 := by omega
  unfold SetD at SC
  rw [hrk] at SC
  have hnb := fun s => nb_kp s (n := n) (by unfold bl at hb; rw [if_neg h0] at hb; omega)
  have hfull := kp_full (n := n) (by unfold bl at hb; rw [if_neg h0] at hb; omega)
  have hkp := kp_is (n := n) (by omega)
  have hP2 : (kp n).2 ≤ bl n := by rw [hkp]; split <;> (simp only; omega)
  unfold F64
  rw [hnb]
  clear hnb hkp
  obtain ⟨hK1, hK2⟩ := hfull
  generalize (kp n).1 = K at *
  generalize (kp n).2 = P at *
  generalize hB : bl n = b at *
  have hP3 : (P : Int) ≤ 60000 := by omega
  have hi1 := minf_neg
  have hi2 := minf_pos
  go_enter Tryz.func65, Tryz.ntmps65
  go_wp2_with fail
  have hB0 : Below w.heap.size w (w.alloc (.cells #[.int .u32 53, .int .u8 0, .int .i8 0, .int .u8 0, .bool false, .slice none 0 0, .int .i32 0] 143)) := (Below.refl _ w).alloc (Nat.le_refl _) _
  have hA : FAt (w.alloc (.cells #[.int .u32 53, .int .u8 0, .int .i8 0, .int .u8 0, .bool false, .slice none 0 0, .int .i32 0] 143)) w.heap.size 53 0 0 false (.slice none 0 0) 0 := heap_alloc_new w _
  have hX1 := hx.off (S := fun _ => False) (Off.of hB0) (fun h => h)
  have hR1 := hr.below hB0
  obtain ⟨W, hW⟩ : ∃ W, w.alloc (.cells #[.int .u32 53, .int .u8 0, .int .i8 0, .int .u8 0, .bool false, .slice none 0 0, .int .i32 0] 143) = W := ⟨_, rfl⟩
  rw [hW] at hB0 hA hX1 hR1 ⊢
  have hS := hB0.size
  have hf2 : w.heap.size ≠ f2 := by omega
  clear hW
  go_wp2_with (go_at_call 76; refine (SC w.heap.size W hA hX1 hR1 hf2).mono ?_; rintro _ w1 ⟨rfl, ac, g1, c1, hF1, hrow1, hO1⟩; obtain ⟨m0, m1, m2, m3, m4, m5, m6⟩ := hF1.cells; have hx1 := hX1.off hO1 (fun e => hf2 e.symm); obtain ⟨n0, n1, n2, n3, n4, n5, n6⟩ := hx1.cells; have hbw : Below w.heap.size w w1 := ⟨hO1.os.trans hB0.os, hO1.tape.trans hB0.tape, hO1.output.trans hB0.output, by have := hO1.size; omega, fun i hi => (hO1.block i (by omega) (fun e => by omega)).trans (hB0.block i hi)⟩; have hMB := msb_call _ g1 c1 w1 hrow1; by_cases hov : (971 : Int) < P <;> cases neg)
  · go_wp2_with (go_at_call 43; refine (hi2 _).mono ?_; rintro _ w2 ⟨rfl, rfl⟩)
    go_ret2
    exact ⟨⟨1, rfl⟩, hbw⟩
  · go_wp2_with (go_at_call 43; refine (hi1 _).mono ?_; rintro _ w2 ⟨rfl, rfl⟩)
    go_ret2
    exact ⟨⟨-1, rfl⟩, hbw⟩
  · go_wp2_with (go_at_call 77; refine hMB.mono ?_; rintro _ w2 ⟨rfl, rfl⟩)
    have h' := run_frombits
    go_quiet (fail)
    go_wp2_with fail
    go_ret2
    have := fbits false K P hK1 hK2 (by omega)
    rw [if_pos (show P ≤ 971 by omega)] at this
    rw [show fb K P = _ from (Nat.zero_add _).symm.trans this.symm]
    exact ⟨⟨ac, rfl⟩, bt hbw (drewn_below _ _) (Nat.le_refl _)⟩
  · go_wp2_with (go_at_call 77; refine hMB.mono ?_; rintro _ w2 ⟨rfl, rfl⟩)
    have h' := run_frombits
    go_quiet (fail)
    go_wp2_with fail
    go_ret2
    have := fbits true K P hK1 hK2 (by omega)
    rw [if_pos (show P ≤ 971 by omega)] at this
    rw [show 9223372036854775808 + fb K P = _ from this.symm]
    exact ⟨⟨ac, rfl⟩, bt hbw (drewn_below _ _) (Nat.le_refl _)⟩
end Go.Proofs.YtodipcgilgigbaaGreatDoor.V
