/- The walk of spec's leading. -/
import Derived.Test.YtgjfjbghdpcllaaGreatDoorS2
namespace Go.Proofs.YtgjfjbghdpcllaaGreatDoor
open Go Go.RowKit U I

theorem cmp_ge (a b : Nat) : (0 : Int) ≤ cmpZ (a : Int) (b : Int) ↔ b ≤ a := by
  unfold cmpZ
  split
  · omega
  · split <;> omega
set_option maxHeartbeats 2000000 in
set_option maxRecDepth 100000 in
theorem leading_walk (bN : Nat) (neg : Bool) (m : Nat) (q L n0 : Int) (w : World) (hP : Parts bN neg m q) (hm : m < 18446744073709551616) (hq : -1100 ≤ q ∧ q ≤ 1100)
    (hn : (((bl m : Int) + q) * 30103).tdiv 100000 + 1 = n0) (hbl : bl m ≤ 64) (hL0 : -400 ≤ L) (hL1 : L ≤ n0) (hn1 : n0 ≤ 400) (hL : ge m q L) (hgt : ∀ n, L < n → n ≤ n0 → ¬ ge m q n) :
    Calls Tryz.prog 13 #[.float .f64 bN] w fun e w' => e = .returned (.int .i64 L) ∧ Below w.heap.size w w' := by
  have P := hP
  have hl := len64 hm
  clear hP
  obtain ⟨hq0, hq1⟩ := hq
  have HG := Lib.hid hgt
  have HL := Lib.hid hL
  clear hgt hL
  go_enter Tryz.func13, Tryz.ntmps13
  go_wp2_with fail
  refine (P _).mono ?_; rintro _ w1 ⟨rfl, rfl⟩
  go_wp2_with fail
  refine (bytesOf_call m _).mono ?_; rintro _ w2 ⟨v2, rfl, i2, b2⟩
  go_wp2_with fail
  refine (of_call m hm v2 _ i2).mono ?_; rintro _ w3 ⟨v3, rfl, i3, b3⟩
  go_wp2_with fail
  refine (length_call m (by omega) v3 _ i3).mono ?_; rintro _ w4 ⟨rfl, b4⟩
  have B4 := (b2.trans (b3.mono b2.size)).trans (b4.mono (b2.trans (b3.mono b2.size)).size)
  clear i2 i3 b2 b3 b4
  go_wp2_with fail
  go_loopw [6, 7, 8] (fun s6 _ _ wr => ∃ n : Int, s6 = .int .i64 n ∧ L ≤ n ∧ n ≤ n0 ∧ Below w.heap.size w wr) (fun s6 _ _ _ => (intOf s6 - L).toNat)
  case atStart => exact ⟨n0, rfl, hL1, Int.le_refl _, B4⟩
  case round =>
    obtain ⟨n, rfl, hLn, hnn, BR⟩ := hrel
    clear B4
    go_wp2_with fail
    refine (bytesOf_call m _).mono ?_; rintro _ w5 ⟨v5, rfl, i5, b5⟩
    go_wp2_with fail
    refine (of_call m hm v5 _ i5).mono ?_; rintro _ wz ⟨v6, rfl, i6, b6⟩
    obtain ⟨t6, A6, n6, k6, rfl⟩ := i6.form
    go_wp2_with fail
    refine (small_call 1 (by decide) (by decide) _).mono ?_; rintro _ wb ⟨v7, rfl, i7, b7⟩
    obtain ⟨t7, A7, n7, k7, rfl⟩ := i7.form
    have B7 := ((BR.trans (b5.mono BR.size)).trans (b6.mono (BR.trans (b5.mono BR.size)).size)).trans (b7.mono ((BR.trans (b5.mono BR.size)).trans (b6.mono (BR.trans (b5.mono BR.size)).size)).size)
    have T0 := Two.new w wb (m : Int) 1 t6 t7 (.slice A6 n6 k6) (.slice A7 n7 k7) B7 (i6.below b7) i7
    clear i5 i6 i7 b5 b6 b7 B7 BR
    go_upto_if 29 with fail
    go_cut [3] (fun s3 wx => s3 = .bool neg ∧ Two w wb.heap.size (wb.heap.size + 1) ((m * 2 ^ q.toNat : Nat) : Int) ((2 ^ (-q).toNat : Nat) : Int) wx)
    case first =>
      generalize (wb.alloc (.cells #[.bool t6, .slice A6 n6 k6] 37)).alloc (.cells #[.bool t7, .slice A7 n7 k7] 37) = wa at *
      rcases Int.lt_or_le 0 q with hh | hh
      · obtain ⟨Q, rfl⟩ := Int.eq_ofNat_of_zero_le (Int.le_of_lt hh)
        obtain ⟨ba, sa, ia, c0, c1, _, _, _⟩ := T0.opena
        go_wp2_with fail
        refine (lsh_call m Q (by omega) (by omega) _ _ ia).mono ?_; rintro _ w5 ⟨v5, rfl, i5, b5⟩
        obtain ⟨t5, A5, n5, k5, rfl⟩ := i5.form
        have T5 := T0.keep b5
        obtain ⟨_, _, _, d0, d1, f0, f1, _⟩ := T5.opena
        have T6 := T5.put i5
        clear T0 T5 i5 ia
        go_wp2_with fail
        go_meet
        rw [pw1 Q hh, Int.toNat_natCast]
        exact ⟨rfl, T6⟩
      · obtain ⟨Q, hQ⟩ := Int.eq_ofNat_of_zero_le (show 0 ≤ -q by omega)
        obtain rfl : q = -(Q : Int) := by omega
        obtain ⟨ba, sa, ia, c0, c1, _, _, _⟩ := T0.swap.opena
        have hh' : ¬ ((0 : Int) < -(Q : Int)) := by omega
        clear hQ
        go_wp2_with fail
        refine (lsh_call 1 Q (by rw [len_one]; omega) (by omega) _ _ ia).mono ?_; rintro _ w5 ⟨v5, rfl, i5, b5⟩
        obtain ⟨t5, A5, n5, k5, rfl⟩ := i5.form
        have T5 := T0.keep b5
        obtain ⟨_, _, _, d0, d1, f0, f1, _⟩ := T5.swap.opena
        have T6 := (T5.swap.put i5).swap
        clear T0 T5 i5 ia
        go_wp2_with fail
        go_meet
        rw [pw2 _ hh, Nat.mul_one, Int.neg_neg, Int.toNat_natCast]
        rw [Nat.one_mul] at T6
        exact ⟨rfl, T6⟩
    case rest =>
      obtain ⟨rfl, T1⟩ := hcut
      clear T0
      have la : len (m * 2 ^ q.toNat) ≤ 300 := by
        have h1 := len_mul m (2 ^ q.toNat)
        have h2 := len_pow2 q.toNat
        omega
      have lb : len (2 ^ (-q).toNat) ≤ 300 := by
        have h2 := len_pow2 (-q).toNat
        omega
      generalize ha : m * 2 ^ q.toNat = a at *
      generalize hb : 2 ^ (-q).toNat = b at *
      have HA := Lib.hid ha
      have HB := Lib.hid hb
      clear ha hb
      go_upto_if 38 with fail
      go_cut [3] (fun s3 wx => s3 = .bool neg ∧ Two w wb.heap.size (wb.heap.size + 1) ((a * 10 ^ (-n).toNat : Nat) : Int) ((b * 10 ^ n.toNat : Nat) : Int) wx)
      case first =>
        rcases Int.lt_or_le 0 n with hh | hh
        · obtain ⟨N, rfl⟩ := Int.eq_ofNat_of_zero_le (Int.le_of_lt hh)
          obtain ⟨ba, sa, ia, c0, c1, _, _, hA⟩ := T1.swap.opena
          have hNN : N ≤ 401 := by omega
          have lN : len (10 ^ N) ≤ 300 := by have := len_pow10 N; omega
          have T2 : Two w wb.heap.size (wb.heap.size + 1) (a : Int) (b : Int) wc.drew := T1.keep (Below.refl _ wc).drew
          have i2 : IsI wc.drew (.agg #[.bool ba, sa]) (b : Int) := ia.below (Below.refl _ wc).drew
          clear T1 ia
          go_wp2_with fail
          go_region_with (first | (go_at_call 27; refine (tens_call N (by omega) _).mono ?_; rintro _ w7 ⟨v7, rfl, i7, b7⟩; obtain ⟨t7, A7, n7, k7, rfl⟩ := i7.form; have d0 := cell_keep (w := wc.drew) c0 b7 hA; have d1 := cell_keep (w := wc.drew) c1 b7 hA; have T7 := T2.keep b7) | (go_at_call 26; refine (mul_call b (10 ^ N) (by omega) (by omega) _ _ _ (i2.below b7) i7).mono ?_; rintro _ w8 ⟨v8, rfl, i8, b8⟩; obtain ⟨t8, A8, n8, k8, rfl⟩ := i8.form; have T8 := T7.keep b8; have T9 := (T8.swap.put i8).swap; obtain ⟨_, _, _, e0, e1, f0, f1, _⟩ := T8.swap.opena; clear T7 T8))
          all_goals
            go_wp2_with fail
            go_meet
            rw [show (-(N : Int)).toNat = 0 by omega, Nat.pow_zero, Nat.mul_one, Int.toNat_natCast]
            exact ⟨rfl, T9⟩
        · obtain ⟨N, hN⟩ := Int.eq_ofNat_of_zero_le (show 0 ≤ -n by omega)
          obtain rfl : n = -(N : Int) := by omega
          obtain ⟨ba, sa, ia, c0, c1, _, _, hA⟩ := T1.opena
          have hh' : ¬ ((0 : Int) < -(N : Int)) := by omega
          have hNN : N ≤ 401 := by omega
          have lN : len (10 ^ N) ≤ 300 := by have := len_pow10 N; omega
          have T2 : Two w wb.heap.size (wb.heap.size + 1) (a : Int) (b : Int) wc.drew := T1.keep (Below.refl _ wc).drew
          have i2 : IsI wc.drew (.agg #[.bool ba, sa]) (a : Int) := ia.below (Below.refl _ wc).drew
          have hwr := i64_nat N (by omega)
          clear T1 ia hN
          go_wp2_with fail
          go_region_with (first | (go_at_call 27; refine (tens_call N (by omega) _).mono ?_; rintro _ w7 ⟨v7, rfl, i7, b7⟩; obtain ⟨t7, A7, n7, k7, rfl⟩ := i7.form; have d0 := cell_keep (w := wc.drew) c0 b7 hA; have d1 := cell_keep (w := wc.drew) c1 b7 hA; have T7 := T2.keep b7) | (go_at_call 26; refine (mul_call a (10 ^ N) (by omega) (by omega) _ _ _ (i2.below b7) i7).mono ?_; rintro _ w8 ⟨v8, rfl, i8, b8⟩; obtain ⟨t8, A8, n8, k8, rfl⟩ := i8.form; have T8 := T7.keep b8; have T9 := T8.put i8; obtain ⟨_, _, _, e0, e1, f0, f1, _⟩ := T8.opena; clear T7 T8))
          all_goals
            go_wp2_with fail
            go_meet
            rw [show (-(N : Int)).toNat = 0 by omega, Nat.pow_zero, Nat.mul_one, Int.neg_neg, Int.toNat_natCast]
            exact ⟨rfl, T9⟩
      case rest =>
        obtain ⟨rfl, T3⟩ := hcut
        have l10 := len_pow10 n.toNat
        have l10' := len_pow10 (-n).toNat
        have l1 := len_mul a (10 ^ (-n).toNat)
        have l2 := len_mul b (10 ^ n.toNat)
        have C1 := cmp_call ((a * 10 ^ (-n).toNat : Nat) : Int) ((b * 10 ^ n.toNat : Nat) : Int) (by rw [Int.natAbs_natCast]; omega) (by rw [Int.natAbs_natCast]; omega)
        have hcmp := cmp_ge (a * 10 ^ (-n).toNat) (b * 10 ^ n.toNat)
        have hge : ge m q n ↔ b * 10 ^ n.toNat ≤ a * 10 ^ (-n).toNat := by unfold ge; rw [HA.out, HB.out]
        obtain ⟨ba, sa, ia, c0, c1, _, _, hA⟩ := T3.opena
        obtain ⟨bc, sc', ic, c2, c3, _, _, hC⟩ := T3.swap.opena
        have B3 := T3.below
        clear T1 l10 l10' l1 l2 T3
        generalize cmpZ ((a * 10 ^ (-n).toNat : Nat) : Int) ((b * 10 ^ n.toNat : Nat) : Int) = z at *
        by_cases hz : 0 ≤ z
        · have hgn : ge m q n := hge.2 (hcmp.1 hz)
          have hnL : n = L := by
            rcases Int.lt_or_le L n with h | h
            · exact absurd hgn (HG.out n h hnn)
            · omega
          subst hnL
          clear hge hcmp hgn
          go_wp2_with fail
          refine (C1 _ _ _ ia ic).mono ?_; rintro _ w9 ⟨rfl, b9⟩
          have B9 := B3.trans (b9.mono B3.size)
          clear C1 ia ic b9 B3
          go_wp2_with fail
          go_ret
          exact ⟨rfl, B9⟩
        · have hgn : ¬ ge m q n := fun h => hz (hcmp.2 (hge.1 h))
          have hnL : L < n := by
            rcases Int.lt_or_le L n with h | h
            · exact h
            · obtain rfl : n = L := by omega
              exact absurd HL.out hgn
          clear hge hcmp hgn
          go_wp2_with fail
          refine (C1 _ _ _ ia ic).mono ?_; rintro _ w9 ⟨rfl, b9⟩
          have B9 := B3.trans (b9.mono B3.size)
          clear C1 ia ic b9 B3
          go_wp2_with fail
          go_roundw
          case rel => exact ⟨n - 1, rfl, by omega, by omega, B9⟩
          case measure => simp [intOf]; omega
end Go.Proofs.YtgjfjbghdpcllaaGreatDoor
