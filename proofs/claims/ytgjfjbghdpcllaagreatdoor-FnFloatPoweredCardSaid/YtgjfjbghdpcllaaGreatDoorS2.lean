/- The walks of spec's floatParts, scaled, leading. -/
import Derived.Test.YtgjfjbghdpcllaaGreatDoorS1
import Derived.Test.YtgjfjbghdpcllaaGreatDoorW4
import Derived.Deep.DeepCutAuto
import Derived.Deep.CutBlock
import Derived.Outline
namespace Go.Proofs.YtgjfjbghdpcllaaGreatDoor
open Go Go.RowKit U I

set_option maxRecDepth 100000 in
theorem parts_norm (bN : Nat) (b e11 frac mn : Int) (neg : Bool) (w : World) (hb : ∀ w, (callFunc 7 #[.float .f64 bN]).run Tryz.prog w = .ok (.value (.int .u64 b)) w)
    (hneg : (b / 9223372036854775808 == 1) = neg) (hexp : bits .and .u64 (b / 4503599627370496) 2047 = e11) (hman : bits .and .u64 b 4503599627370495 = frac) (hor : bits .or .u64 frac 4503599627370496 = mn)
    (he0 : 0 < e11) (he1 : e11 < 2047) :
    Calls Tryz.prog 18 #[.float .f64 bN] w fun e w' => e = .returned (.tuple #[.bool neg, .int .u64 mn, .int .i64 (e11 - 1075)]) ∧ w = w' := by
  have he3 : (e11 == 0) = false := by rw [beq_eq_false_iff_ne]; omega
  go_enter Tryz.func18, Tryz.ntmps18
  go_wp2_with fail
  go_ret3
  exact ⟨rfl, rfl⟩
set_option maxRecDepth 100000 in
theorem parts_sub (bN : Nat) (b mn : Int) (neg : Bool) (w : World) (hb : ∀ w, (callFunc 7 #[.float .f64 bN]).run Tryz.prog w = .ok (.value (.int .u64 b)) w)
    (hneg : (b / 9223372036854775808 == 1) = neg) (hexp : bits .and .u64 (b / 4503599627370496) 2047 = 0) (hman : bits .and .u64 b 4503599627370495 = mn) :
    Calls Tryz.prog 18 #[.float .f64 bN] w fun e w' => e = .returned (.tuple #[.bool neg, .int .u64 mn, .int .i64 (-1074)]) ∧ w = w' := by
  go_enter Tryz.func18, Tryz.ntmps18
  go_wp2_with fail
  go_ret3
  exact ⟨rfl, rfl⟩
/-- What floatParts tells of a float. -/
def Parts (bN : Nat) (neg : Bool) (m : Nat) (q : Int) : Prop := ∀ w, Calls Tryz.prog 18 #[.float .f64 bN] w fun e w' => e = .returned (.tuple #[.bool neg, .int .u64 m, .int .i64 q]) ∧ w = w'
theorem i64_nat (N : Nat) (h : N < 9223372036854775808) : IntKind.i64.wrap (N : Int) = (N : Int) := by simp [IntKind.wrap, IntKind.bits, IntKind.signed]; omega
theorem pw1 (q : Int) (h : 0 < q) : (2 : Nat) ^ (-q).toNat = 1 := by rw [show (-q).toNat = 0 by omega, Nat.pow_zero]
theorem pw2 (q : Int) (h : q ≤ 0) : (2 : Nat) ^ q.toNat = 1 := by rw [show q.toNat = 0 by omega, Nat.pow_zero]
theorem len64 {m : Nat} (h : m < 18446744073709551616) : len m ≤ 8 := len_le (by simpa using h)
set_option maxHeartbeats 1000000 in
set_option maxRecDepth 100000 in
theorem scaled_walk (bN : Nat) (neg : Bool) (m : Nat) (q n : Int) (w : World) (hP : Parts bN neg m q) (hm : m < 18446744073709551616) (hq : -1100 ≤ q ∧ q ≤ 1100) (hn : -400 ≤ n ∧ n ≤ 400) :
    Calls Tryz.prog 14 #[.float .f64 bN, .int .i64 n] w (Gives w (sc m q n : Nat)) := by
  have P := hP
  have hl := len64 hm
  clear hP
  obtain ⟨hq0, hq1⟩ := hq
  obtain ⟨hn0, hn1⟩ := hn
  go_enter Tryz.func14, Tryz.ntmps14
  go_wp2_with fail
  refine (P _).mono ?_; rintro _ w1 ⟨rfl, rfl⟩
  go_wp2_with fail
  refine (bytesOf_call m _).mono ?_; rintro _ w2 ⟨v2, rfl, i2, b2⟩
  go_wp2_with fail
  refine (of_call m hm v2 _ i2).mono ?_; rintro _ w3 ⟨v3, rfl, i3, b3⟩
  obtain ⟨t3, A3, n3, k3, rfl⟩ := i3.form
  go_wp2_with fail
  refine (small_call 1 (by decide) (by decide) _).mono ?_; rintro _ w4 ⟨v4, rfl, i4, b4⟩
  obtain ⟨t4, A4, n4, k4, rfl⟩ := i4.form
  have B4 := (b2.trans (b3.mono b2.size)).trans (b4.mono (b2.trans (b3.mono b2.size)).size)
  have T0 := Two.new _ w4 (m : Int) 1 t3 t4 (.slice A3 n3 k3) (.slice A4 n4 k4) B4 (i3.below b4) i4
  have HW := Lib.hid (show (w.alloc (.cells #[.bool false, .slice none 0 0] 37)).heap.size = w.heap.size + 1 by simp)
  clear i2 i3 i4 b2 b3 b4 B4
  go_upto_if 21 with fail
  go_cut [4] (fun s4 wx => s4 = .pointer (some ⟨w.heap.size, 0, none⟩) ∧ Two (w.alloc (.cells #[.bool false, .slice none 0 0] 37)) w4.heap.size (w4.heap.size + 1) ((m * 2 ^ q.toNat : Nat) : Int) ((2 ^ (-q).toNat : Nat) : Int) wx)
  case first =>
    generalize (w4.alloc (.cells #[.bool t3, .slice A3 n3 k3] 37)).alloc (.cells #[.bool t4, .slice A4 n4 k4] 37) = wa at *
    rcases Int.lt_or_le 0 q with hh | hh
    · obtain ⟨Q, rfl⟩ := Int.eq_ofNat_of_zero_le (Int.le_of_lt hh)
      obtain ⟨ba, sa, ia, c0, c1, _, _, _⟩ := T0.opena
      go_wp2_with fail
      refine (lsh_call m Q (by omega) (by omega) _ _ ia).mono ?_; rintro _ w5 ⟨v5, rfl, i5, b5⟩
      obtain ⟨t5, A5, n5, k5, rfl⟩ := i5.form
      have T5 := T0.keep b5
      obtain ⟨_, _, _, d0, d1, f0, f1, _⟩ := T5.opena
      have T6 := T5.put i5
      clear T0 T5 i5 ia
      go_wp2_with fail
      go_meet
      rw [pw1 Q hh, Int.toNat_natCast]
      exact ⟨rfl, T6⟩
    · obtain ⟨Q, hQ⟩ := Int.eq_ofNat_of_zero_le (show 0 ≤ -q by omega)
      obtain rfl : q = -(Q : Int) := by omega
      obtain ⟨ba, sa, ia, c0, c1, _, _, _⟩ := T0.swap.opena
      have hh' : ¬ ((0 : Int) < -(Q : Int)) := by omega
      clear hQ
      go_wp2_with fail
      refine (lsh_call 1 Q (by rw [len_one]; omega) (by omega) _ _ ia).mono ?_; rintro _ w5 ⟨v5, rfl, i5, b5⟩
      obtain ⟨t5, A5, n5, k5, rfl⟩ := i5.form
      have T5 := T0.keep b5
      obtain ⟨_, _, _, d0, d1, f0, f1, _⟩ := T5.swap.opena
      have T6 := (T5.swap.put i5).swap
      clear T0 T5 i5 ia
      go_wp2_with fail
      go_meet
      rw [pw2 _ hh, Nat.mul_one, Int.neg_neg, Int.toNat_natCast]
      rw [Nat.one_mul] at T6
      exact ⟨rfl, T6⟩
  case rest =>
    obtain ⟨rfl, T1⟩ := hcut
    clear T0 P
    have la : len (m * 2 ^ q.toNat) ≤ 300 := by
      have h1 := len_mul m (2 ^ q.toNat)
      have h2 := len_pow2 q.toNat
      omega
    have lb : len (2 ^ (-q).toNat) ≤ 300 := by
      have h2 := len_pow2 (-q).toNat
      omega
    have pb : 0 < 2 ^ (-q).toNat := Nat.pow_pos (by omega)
    generalize ha : m * 2 ^ q.toNat = a at *
    generalize hb : 2 ^ (-q).toNat = b at *
    have HA := Lib.hid ha
    have HB := Lib.hid hb
    clear ha hb hl hm hq0 hq1
    go_upto_if 30 with fail
    go_cut [4] (fun s4 wx => s4 = .pointer (some ⟨w.heap.size, 0, none⟩) ∧ Two (w.alloc (.cells #[.bool false, .slice none 0 0] 37)) w4.heap.size (w4.heap.size + 1) ((a * 10 ^ n.toNat : Nat) : Int) ((b * 10 ^ (-n).toNat : Nat) : Int) wx)
    case first =>
      rcases Int.lt_or_le 0 n with hh | hh
      · obtain ⟨N, rfl⟩ := Int.eq_ofNat_of_zero_le (Int.le_of_lt hh)
        obtain ⟨ba, sa, ia, c0, c1, _, _, hA⟩ := T1.opena
        have hNN : N ≤ 400 := by omega
        have lN : len (10 ^ N) ≤ 300 := by have := len_pow10 N; omega
        have T2 : Two (w.alloc (.cells #[.bool false, .slice none 0 0] 37)) w4.heap.size (w4.heap.size + 1) (a : Int) (b : Int) wc.drew := T1.keep (Below.refl _ wc).drew
        have i2 : IsI wc.drew (.agg #[.bool ba, sa]) (a : Int) := ia.below (Below.refl _ wc).drew
        clear hn0 hn1 T1 ia
        go_wp2_with fail
        go_region_with (first | (go_at_call 27; refine (tens_call N (by omega) _).mono ?_; rintro _ w7 ⟨v7, rfl, i7, b7⟩; obtain ⟨t7, A7, n7, k7, rfl⟩ := i7.form; have d0 := cell_keep (w := wc.drew) c0 b7 hA; have d1 := cell_keep (w := wc.drew) c1 b7 hA; have T7 := T2.keep b7) | (go_at_call 26; refine (mul_call a (10 ^ N) (by omega) (by omega) _ _ _ (i2.below b7) i7).mono ?_; rintro _ w8 ⟨v8, rfl, i8, b8⟩; obtain ⟨t8, A8, n8, k8, rfl⟩ := i8.form; have T8 := T7.keep b8; have T9 := T8.put i8; obtain ⟨_, _, _, e0, e1, f0, f1, _⟩ := T8.opena; clear T7 T8))
        all_goals
          go_wp2_with fail
          go_meet
          rw [show (-(N : Int)).toNat = 0 by omega, Nat.pow_zero, Nat.mul_one, Int.toNat_natCast]
          exact ⟨rfl, T9⟩
      · obtain ⟨N, hN⟩ := Int.eq_ofNat_of_zero_le (show 0 ≤ -n by omega)
        obtain rfl : n = -(N : Int) := by omega
        obtain ⟨ba, sa, ia, c0, c1, _, _, hA⟩ := T1.swap.opena
        have hNN : N ≤ 400 := by omega
        have lN : len (10 ^ N) ≤ 300 := by have := len_pow10 N; omega
        have hh' : ¬ ((0 : Int) < -(N : Int)) := by omega
        have T2 : Two (w.alloc (.cells #[.bool false, .slice none 0 0] 37)) w4.heap.size (w4.heap.size + 1) (a : Int) (b : Int) wc.drew := T1.keep (Below.refl _ wc).drew
        have i2 : IsI wc.drew (.agg #[.bool ba, sa]) (b : Int) := ia.below (Below.refl _ wc).drew
        have hwr := i64_nat N (by omega)
        clear hn0 hn1 T1 ia hN
        go_wp2_with fail
        go_region_with (first | (go_at_call 27; refine (tens_call N (by omega) _).mono ?_; rintro _ w7 ⟨v7, rfl, i7, b7⟩; obtain ⟨t7, A7, n7, k7, rfl⟩ := i7.form; have d0 := cell_keep (w := wc.drew) c0 b7 hA; have d1 := cell_keep (w := wc.drew) c1 b7 hA; have T7 := T2.keep b7) | (go_at_call 26; refine (mul_call b (10 ^ N) (by omega) (by omega) _ _ _ (i2.below b7) i7).mono ?_; rintro _ w8 ⟨v8, rfl, i8, b8⟩; obtain ⟨t8, A8, n8, k8, rfl⟩ := i8.form; have T8 := T7.keep b8; have T9 := (T8.swap.put i8).swap; obtain ⟨_, _, _, e0, e1, f0, f1, _⟩ := T8.swap.opena; clear T7 T8))
        all_goals
          go_wp2_with fail
          go_meet
          rw [show (-(N : Int)).toNat = 0 by omega, Nat.pow_zero, Nat.mul_one, Int.neg_neg, Int.toNat_natCast]
          exact ⟨rfl, T9⟩
    case rest =>
      obtain ⟨rfl, T3⟩ := hcut
      have l10 := len_pow10 n.toNat
      have l10' := len_pow10 (-n).toNat
      have l1 := len_mul a (10 ^ n.toNat)
      have l2 := len_mul b (10 ^ (-n).toNat)
      have pt : 0 < b * 10 ^ (-n).toNat := Nat.mul_pos pb (Nat.pow_pos (by omega))
      have N1 := near_call (a * 10 ^ n.toNat) (b * 10 ^ (-n).toNat) pt (by omega) (by omega)
      obtain ⟨ba, sa, ia, c0, c1, _, _, hA⟩ := T3.opena
      obtain ⟨bc, sc', ic, c2, c3, _, _, hC⟩ := T3.swap.opena
      have B3 := T3.below
      clear T1 l10 l10' l1 l2 pt hn0 hn1
      go_wp2_with fail
      refine (N1 _ _ _ ia ic).mono ?_; rintro _ w9 ⟨v9, rfl, i9, b9⟩
      obtain ⟨t9, A9, n9, k9, rfl⟩ := i9.form
      have hz0 : (w.alloc (.cells #[.bool false, .slice none 0 0] 37)).heap.size = w.heap.size + 1 := by simp
      have zc := B3.size
      have gr : w9.heap[w.heap.size]? = some (.cells #[.bool false, .slice none 0 0] 37 (0, 0)) :=
        (b9.block _ (by omega)).trans ((B3.block _ (by omega)).trans (heap_alloc_new w _))
      have r0 : w9.cell? ⟨w.heap.size, 0, none⟩ = some (.bool false) := by rw [Lib.cell_of_heap gr]; rfl
      have r1 : w9.cell? ⟨w.heap.size, 1, none⟩ = some (.slice none 0 0) := by rw [Lib.cell_of_heap gr]; rfl
      have f0 := Lib.frozen_of_heap gr 0
      have f1 := Lib.frozen_of_heap gr 1
      have j9 := (i9.set gr 0 (.bool t9)).set (two_put gr 0 (.bool t9)) 1 (.slice A9 n9 k9)
      have B9 : Below w.heap.size w w9 := (((Below.refl _ w).alloc (Nat.le_refl _) _).trans (B3.mono (by omega))).trans (b9.mono (by omega))
      have J9 := (B9.setCell (p := ⟨w.heap.size, 0, none⟩) (Nat.le_refl _) (.bool t9)).setCell (p := ⟨w.heap.size, 1, none⟩) (Nat.le_refl _) (.slice A9 n9 k9)
      have hsc : (((nr (a * 10 ^ n.toNat) (b * 10 ^ (-n).toNat) : Nat) : Int)) = ((sc m q n : Nat) : Int) := by unfold sc; rw [HA.out, HB.out]
      rw [hsc] at j9
      clear i9 B9 b9 B3 zc hz0 hsc ia ic N1 T3 gr
      go_wp2_with fail
      exact bodyPost_ret (v := .agg #[.bool t9, .slice A9 n9 k9]) (by simp [results, Tryz.results14, go_sem, r0, r1]) rfl ⟨_, rfl, j9, J9⟩
end Go.Proofs.YtgjfjbghdpcllaaGreatDoor
