/- big.Float's Set to 53 bits, Float64. -/
import Derived.Test.YtodipcgilgigbaaGreatDoorVG
set_option linter.unusedVariables false
namespace Go.Proofs.YtodipcgilgigbaaGreatDoor.V
open Go Go.RowKit Go.Proofs.YtodipcgilgigbaaGreatDoor.I
attribute [local go_sem ↓] Go.wp_at_zero Go.wp_at_succ

theorem wd_top {N k : Nat} (hk : wl N = k + 1) : wd N k = N / 18446744073709551616 ^ k := by
  unfold wd
  refine Nat.mod_eq_of_lt ?_
  rw [Nat.div_lt_iff_lt_mul (Nat.pow_pos (by omega)), Nat.mul_comm, ← Nat.pow_succ]
  have := lt_wl N
  rwa [hk] at this
theorem top_div {N k : Nat} (hk : wl N = k + 1) : wd N k / 2048 = N / 2 ^ (64 * (k + 1) - 53) := by
  rw [wd_top hk, Nat.div_div_eq_div_mul, two64, ← Nat.pow_mul, show (2048 : Nat) = 2 ^ 11 from rfl, ← Nat.pow_add]
  congr 2
  try omega
theorem top_ge {N k : Nat} (hk : wl N = k + 1) (hb : bl N = 64 * (k + 1)) : 9223372036854775808 ≤ wd N k := by
  have h0 : N ≠ 0 := by intro h; subst h; rw [wl_zero] at hk; omega
  rw [wd_top hk, Nat.le_div_iff_mul_le (Nat.pow_pos (by omega))]
  have h1 := Nat.log2_self_le h0
  unfold bl at hb
  rw [if_neg h0] at hb
  have h2 : N.log2 = 63 + 64 * k := by omega
  rw [h2, Nat.pow_add, Nat.pow_mul] at h1
  exact h1
theorem round53 (f g cap N k : Nat) (hk : wl N = k + 1) (hk2 : k ≤ 900) (hb : bl N = 64 * (k + 1)) (acc e : Int) (he : e < 2000000000) (he0 : 0 ≤ e) (neg : Bool) (w : World) (hf : FAt w f 53 acc 1 neg (.slice (some ⟨g, 0, none⟩) (k + 1) cap) e) (hr : Row w g cap (words N)) (hne : f ≠ g) :
    Calls Tryz.prog 93 #[.pointer (some ⟨f, 0, none⟩), .int .u64 0] w (Rounded w f g cap (wd N k) neg e (inc N (64 * (k + 1) - 54))) := by
  have hT := top_ge hk hb
  have hd := top_div hk
  unfold inc
  rw [show 64 * (k + 1) - 54 + 1 = 64 * (k + 1) - 53 by omega, ← hd]
  have hs : stk N (64 * (k + 1) - 54) = if N % 2 ^ (64 * (k + 1) - 54) = 0 then 0 else 1 := rfl
  rcases Nat.mod_two_eq_zero_or_one (N / 2 ^ (64 * (k + 1) - 54)) with ha | ha
  · rw [ha, show ((0 : Nat) == 1) = false from rfl, Bool.false_and]
    by_cases hz : N % 2 ^ (64 * (k + 1) - 54) = 0
    · rw [if_pos hz] at hs
      exact round53_00 f g cap N k _ hk hk2 rfl hT acc e neg w hf hr hne ha hs
    · rw [if_neg hz] at hs
      exact round53_01 f g cap N k _ hk hk2 rfl hT acc e neg w hf hr hne ha hs
  · rw [ha, show ((1 : Nat) == 1) = true from rfl, Bool.true_and]
    by_cases hz : N % 2 ^ (64 * (k + 1) - 54) = 0
    · rw [if_pos hz] at hs
      rw [hz, show ((0 : Nat) != 0) = false from rfl, Bool.false_or]
      rcases Nat.mod_two_eq_zero_or_one (wd N k / 2048) with hq | hq
      · rw [hq, show ((0 : Nat) == 1) = false from rfl]
        exact round53_10e f g cap N k _ hk hk2 rfl hT acc e neg w hf hr hne ha hs hq
      · rw [hq, show ((1 : Nat) == 1) = true from rfl]
        exact round53_10o f g cap N k _ hk hk2 rfl hT acc e neg w hf hr hne ha hs hq he he0
    · rw [if_neg hz] at hs
      have : (N % 2 ^ (64 * (k + 1) - 54) != 0) = true := by simp [hz]
      rw [this, Bool.true_or]
      exact round53_11 f g cap N k _ hk hk2 rfl hT acc e neg w hf hr hne ha hs he he0
/-- The rounded word and its power. -/
theorem rk_kp {n k : Nat} (h : 64 ≤ bl n) (hk : wl n = k + 1) : rk (wd (n * 2 ^ nz n) k) (inc (n * 2 ^ nz n) (64 * (k + 1) - 54)) (bl n : Nat) = ((kp n).1, (((kp n).2 + 53 : Nat) : Int)) := by
  have h0 : n ≠ 0 := by intro h0; subst h0; simp [bl] at h
  obtain ⟨e1, e2⟩ := wl_nz h0
  have e1' := e1
  rw [hk] at e1'
  have hev := ev_inc (n * 2 ^ nz n) (64 * (k + 1) - 54)
  rw [show 64 * (k + 1) - 54 + 1 = 64 * (k + 1) - 53 by omega, ← top_div e1'] at hev
  have hr := round_is h
  rw [hk] at hr
  rw [hr] at hev
  have hb := k1_bounds (n := n) (by omega)
  have hkp := kp_is (n := n) (by omega)
  unfold rk
  cases hu : inc (n * 2 ^ nz n) (64 * (k + 1) - 54)
  · rw [hu] at hev
    simp only [Bool.toNat_false, Nat.add_zero] at hev
    rw [if_neg (by simp), hkp]
    have hlt : k1 n < 9007199254740992 := by
      rw [hev]
      have := wd_lt (n * 2 ^ nz n) k
      omega
    rw [if_neg (by intro h2; have := (bl_gt (by omega)).1 h2; omega)]
    simp only [Prod.mk.injEq]
    exact ⟨hev.symm, by omega⟩
  · rw [hu] at hev
    simp only [Bool.toNat_true] at hev
    rw [if_pos rfl, hkp]
    by_cases h2 : wd (n * 2 ^ nz n) k / 2048 + 1 = 9007199254740992
    · rw [if_pos h2, if_pos ((bl_gt (by omega)).2 (by omega)), hev, h2]
      simp only [Prod.mk.injEq]
      exact ⟨by decide +kernel, by omega⟩
    · rw [if_neg h2, if_neg (by intro h3; have := (bl_gt (by omega)).1 h3; omega)]
      simp only [Prod.mk.injEq]
      exact ⟨hev.symm, by omega⟩
theorem sizeF : (Tryz.prog.info? 143).map (·.size) = some (6 + 1) := by kernel_rfl
def SetD (w : World) (f g cap : Nat) (T : Nat) (neg : Bool) (e : Int) (up : Bool) (en : Ending) (w' : World) : Prop :=
  en = .returned (.pointer (some ⟨f, 0, none⟩)) ∧ ∃ acc g' cap', FAt w' f 53 acc 1 neg (.slice (some ⟨g', 0, none⟩) 1 cap') (rk T up e).2 ∧ Row w' g' cap' [(((rk T up e).1 * 2048 : Nat) : Int)] ∧ Off (fun i => i = f) w w'
set_option maxRecDepth 100000 in
set_option maxHeartbeats 2000000 in
theorem fset_call (f f2 g cap N k : Nat) (hk : wl N = k + 1) (hk2 : k ≤ 900) (hb : bl N = 64 * (k + 1)) (b e : Int) (hb53 : 53 < b) (he : e < 2000000000) (he0 : 0 ≤ e) (neg : Bool) (w : World) (hf : FAt w f 53 0 0 false (.slice none 0 0) 0) (hx : FAt w f2 b 0 1 neg (.slice (some ⟨g, 0, none⟩) (k + 1) cap) e) (hr : Row w g cap (words N)) (hne : f ≠ f2) :
    Calls Tryz.prog 76 #[.pointer (some ⟨f, 0, none⟩), .pointer (some ⟨f2, 0, none⟩)] w (SetD w f g cap (wd N k) neg e (inc N (64 * (k + 1) - 54))) := by
  have h0 : N ≠ 0 := by intro h; subst h; rw [wl_zero] at hk; omega
  obtain ⟨c0, c1, c2, c3, c4, c5, c6⟩ := hf.cells
  have fr := hf.fr
  have fl := hf.lt
  obtain ⟨x0, x1, x2, x3, x4, x5, x6⟩ := hx.cells
  have xl := hx.lt
  have hne2 : ¬ (f2 = f) := fun e => hne e.symm
  have hA : FAt ((((w.setCell ⟨f, 2, none⟩ (.int .i8 0)).setCell ⟨f, 3, none⟩ (.int .u8 1)).setCell ⟨f, 4, none⟩ (.bool neg)).setCell ⟨f, 6, none⟩ (.int .i32 e)) f 53 0 1 neg (.slice none 0 0) e := (((hf.acc 0).formTo 1).negTo neg).exp e
  have hOA : Off (fun i => i = f) w ((((w.setCell ⟨f, 2, none⟩ (.int .i8 0)).setCell ⟨f, 3, none⟩ (.int .u8 1)).setCell ⟨f, 4, none⟩ (.bool neg)).setCell ⟨f, 6, none⟩ (.int .i32 e)) := ((((Off.refl (fun i => i = f) w).setCell (p := ⟨f, 2, none⟩) (.inl rfl) _).setCell (p := ⟨f, 3, none⟩) (.inl rfl) _).setCell (p := ⟨f, 4, none⟩) (.inl rfl) _).setCell (p := ⟨f, 6, none⟩) (.inl rfl) _
  have hw0 : IsW w (.slice (some ⟨g, 0, none⟩) (k + 1) cap) (words N) := .inr ⟨g, cap, by rw [show (words N).length = k + 1 from hk], hr⟩
  have hwA := hw0.off hOA (hw0.apart hf (by decide))
  have hXA := hx.off hOA hne2
  have SC := fun w' (hw' : IsW w' (.slice (some ⟨g, 0, none⟩) (k + 1) cap) (words N)) => set_call (.slice (some ⟨g, 0, none⟩) (k + 1) cap) (words N) (by show wl N ≤ 1000; omega) w' hw'
  obtain ⟨W, hW⟩ : ∃ W, ((((w.setCell ⟨f, 2, none⟩ (.int .i8 0)).setCell ⟨f, 3, none⟩ (.int .u8 1)).setCell ⟨f, 4, none⟩ (.bool neg)).setCell ⟨f, 6, none⟩ (.int .i32 e)) = W := ⟨_, rfl⟩
  rw [hW] at hA hOA hwA hXA
  have WL := hA.lt
  have hlen : (words N).length = k + 1 := hk
  have hnq := run_neq_ptr_other (P := Tryz.prog) (w.setCell ⟨f, 2, none⟩ (.int .i8 0)) (a := ⟨f, 0, none⟩) (b := ⟨f2, 0, none⟩) Tryz.underlying137 sizeF (fun e => hne (by injection e)) (hf.acc 0) (hx.off (S := fun i => i = f) ((Off.refl (fun i => i = f) w).setCell (p := ⟨f, 2, none⟩) (.inl rfl) _) hne2)
  obtain ⟨v0, v1, v2, v3, v4, v5, v6⟩ := hA.cells
  have vf := hA.fr
  obtain ⟨z0, z1, z2, z3, z4, z5, z6⟩ := hXA.cells
  have RC := fun (g cap : Nat) (w' : World) => round53 f g cap N k hk hk2 hb 0 e he he0 neg w'
  have HB := Lib.hid hb
  clear hb
  go_enter Tryz.func76, Tryz.ntmps76
  go_wp2_with fail
  clear hW
  go_region_with (go_at_call 72; refine (SC _ (hwA.below (Below.refl _ _).drew)).mono ?_; rintro _ w1 ⟨s1, rfl, hv1, hb1, hf1⟩; obtain ⟨A1, k1, rfl, _⟩ := hv1.form; obtain ⟨g1, rfl, hrow1⟩ := isw_row hv1 h0; have hgW : W.heap.size ≤ g1 := hf1 g1 _ _ rfl; have hn1 : FAt w1 f 53 0 1 neg (.slice none 0 0) e := FAt.off (S := fun _ => False) (w := W.drew) hA (Off.of hb1) (fun h => h); obtain ⟨d0, d1, d2, d3, d4, d5, d6⟩ := hn1.cells; have df := hn1.fr; have hxn1 : FAt w1 f2 b 0 1 neg (.slice (some ⟨g, 0, none⟩) (k + 1) cap) e := FAt.off (S := fun _ => False) (w := W.drew) hXA (Off.of hb1) (fun h => h))
  all_goals
    have hfg : f ≠ g1 := by omega
    have hm1 : FAt (w1.setCell ⟨f, 5, none⟩ (.slice (some ⟨g1, 0, none⟩) (k + 1) k1)) f 53 0 1 neg (.slice (some ⟨g1, 0, none⟩) (k + 1) k1) e := hn1.mant _
    have hO1 : Off (fun i => i = f) W (w1.setCell ⟨f, 5, none⟩ (.slice (some ⟨g1, 0, none⟩) (k + 1) k1)) := (Off.of (S := fun i => i = f) (bt (Below.refl _ W).drew hb1 (Nat.le_refl _))).setCell (p := ⟨f, 5, none⟩) (.inl rfl) _
    have hrow2 : Row (w1.setCell ⟨f, 5, none⟩ (.slice (some ⟨g1, 0, none⟩) (k + 1) k1)) g1 k1 (words N) := hrow1.off' (S := fun i => i = f) ((Off.refl (fun i => i = f) w1).setCell (p := ⟨f, 5, none⟩) (.inl rfl) _) (fun e => hfg e.symm)
    have hxm1 : FAt (w1.setCell ⟨f, 5, none⟩ (.slice (some ⟨g1, 0, none⟩) (k + 1) k1)) f2 b 0 1 neg (.slice (some ⟨g, 0, none⟩) (k + 1) cap) e := hxn1.off (S := fun i => i = f) ((Off.refl (fun i => i = f) w1).setCell (p := ⟨f, 5, none⟩) (.inl rfl) _) hne2
    obtain ⟨W1, hW1⟩ : ∃ W1, w1.setCell ⟨f, 5, none⟩ (.slice (some ⟨g1, 0, none⟩) (k + 1) k1) = W1 := ⟨_, rfl⟩
    rw [hW1] at hm1 hO1 hrow2 hxm1
    try rw [hlen]
    rw [hW1]
    obtain ⟨m0, m1, m2, m3, m4, m5, m6⟩ := hm1.cells
    obtain ⟨n0, n1, n2, n3, n4, n5, n6⟩ := hxm1.cells
    have mf := hm1.fr
    clear d0 d1 d2 d3 d4 d5 d6 df hW1 hn1 z0 z1 z2 z3 z4 z5 z6 v0 v1 v2 v3 v4 v5 v6
    go_wp2_with fail
    go_quiet (fail)
    have hO2 := hO1.trans (Off.of (drewn_below W1 nq))
    have hm3 : FAt (W1.drewN nq) f 53 0 1 neg (.slice (some ⟨g1, 0, none⟩) (k + 1) k1) e := hm1.off (S := fun _ => False) (Off.of (drewn_below W1 nq)) (fun h => h)
    have hrow3 := hrow2.below (drewn_below W1 nq)
    go_wp2_with (go_at_call 93; refine (RC g1 k1 _ hm3 hrow3 hfg).mono ?_; rintro _ w4 ⟨rfl, ac, hm4, hrow4, ho4⟩)
    go_ret
    refine ⟨rfl, ac, g1, k1, hm4, hrow4, ?_⟩
    refine (hOA.trans hO2).trans2 ho4 (fun _ _ h => h) (fun i hi h => ?_)
    rcases h with h | h
    · exact h
    · have := hOA.size
      omega
end Go.Proofs.YtodipcgilgigbaaGreatDoor.V
