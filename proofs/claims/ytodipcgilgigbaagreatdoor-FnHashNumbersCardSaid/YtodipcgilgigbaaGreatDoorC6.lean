/- Contracts of this claim's functions: each call gives what the plain mirror (in the text D) gives; the proofs are the kit's print, over D's definitions. -/
import Derived.Test.YtodipcgilgigbaaGreatDoorC5
namespace Go.Proofs.YtodipcgilgigbaaGreatDoor.I
open Go.RowKit Go.Proofs.YtodipcgilgigbaaGreatDoorW.PrintWords Go.Proofs.YtodipcgilgigbaaGreatDoorW.PrintLast Go.Proofs.YtodipcgilgigbaaGreatDoorW.PrintMore
attribute [local go_sem] max2_int min2_int max_two min_two max_three min_three max_four min_four
set_option linter.unusedVariables false
set_option linter.unusedSimpArgs false

/-! ### spec_less: function 42 -/
theorem spec_less.mono_l : ∀ k, (∀ y0 y1 y2 y3 y4, LeO (spec_less.l0 k y0 y1 y2 y3 y4) (spec_less.l0 (k + 1) y0 y1 y2 y3 y4))
  | 0 => fun _ _ _ _ _ r h => by simp [spec_less.l0] at h
  | k + 1 => by
    have ih0 := spec_less.mono_l k
    · intro y0 y1 y2 y3 y4
      unfold spec_less.l0
      repeat' first
      | (with_reducible exact ih0 _ _ _ _ _)
      | (with_reducible exact spec_cut.mono _ _)
      | (with_reducible exact LeO.refl _)
      | (with_reducible exact LeO.none _)
      | (with_reducible refine LeO.ite ?_ ?_)
      | (with_reducible refine LeO.bind ?_ (fun _ => ?_))
      | exact ih0 _ _ _ _ _
      | exact spec_cut.mono _ _
      | exact LeO.none _
      | refine LeO.ite ?_ ?_
      | refine LeO.bind ?_ (fun _ => ?_)
theorem spec_less.mono : ∀ a0 a1 k, LeO (spec_less.f k a0 a1) (spec_less.f (k + 1) a0 a1) := by
  intro a0 a1 k
  have ih0 := spec_less.mono_l k
  unfold spec_less.f
  repeat' first
      | (with_reducible exact ih0 _ _ _ _ _)
      | (with_reducible exact spec_cut.mono _ _)
      | (with_reducible exact LeO.refl _)
      | (with_reducible exact LeO.none _)
      | (with_reducible refine LeO.ite ?_ ?_)
      | (with_reducible refine LeO.bind ?_ (fun _ => ?_))
      | exact ih0 _ _ _ _ _
      | exact spec_cut.mono _ _
      | exact LeO.none _
      | refine LeO.ite ?_ ?_
      | refine LeO.bind ?_ (fun _ => ?_)
set_option maxHeartbeats 8000000 in
set_option maxRecDepth 100000 in
theorem spec_less.calls (k : Nat) (A0 : Option Addr) (c0 : Nat) (l0 : List Int) (A1 : Option Addr) (c1 : Nat) (l1 : List Int) (r : List Int) (w : World) (hr0 : Kd.C (Kd.int .u8) w A0 l0.length l0) (hc0 : l0.length ≤ c0) (hr1 : Kd.C (Kd.int .u8) w A1 l1.length l1) (hc1 : l1.length ≤ c1) (h : spec_less.f k l0 l1 = some r) :
    Calls Tryz.prog 42 #[.slice A0 l0.length c0, .slice A1 l1.length c1] w fun e w' => ∃ v0_ : Value, e = .returned (v0_) ∧ Kd.R (Kd.int .u8) 5 w' w.heap.size (fun _ => True) v0_ r ∧ Below w.heap.size w w' := by
  have HR0 := Aside0.mk hr0
  have HC0 := Aside0.mk hc0
  clear hr0 hc0
  have HR1 := Aside0.mk hr1
  have HC1 := Aside0.mk hc1
  clear hr1 hc1
  have HB := Aside0.mk (Below.refl w.heap.size w)
  have H : (if 0 ≤ (l0.length : Int) then (if ((l0.length : Int) : Int).toNat ≤ 281474976710656 then (spec_less.l0 k l0 l1 (List.replicate ((l0.length : Int) : Int).toNat 0) 0 0) else (none)) else (none)) = some r := h
  clear h
  by_cases c3 : 0 ≤ (l0.length : Int)
  · rw [if_pos c3] at H
    have c3b0 := eq_true c3
    have c3b1 : decide (0 ≤ (l0.length : Int)) = true := decide_eq_true c3
    clear c3
    by_cases c4 : ((l0.length : Int) : Int).toNat ≤ 281474976710656
    · rw [if_pos c4] at H
      have c4b0 := eq_true c4
      have c4b1 : decide (((l0.length : Int) : Int).toNat ≤ 281474976710656) = true := decide_eq_true c4
      clear c4
      obtain ⟨y187, hy187⟩ : ∃ y_ : List Int, y_ = (List.replicate ((l0.length : Int) : Int).toNat 0) := ⟨_, rfl⟩
      replace H : (spec_less.l0 k l0 l1 y187 0 0) = some r := by first | (rw [hy187]; with_reducible exact H) | (have H2_ := (Option.bind_some _ _).symm.trans H; rw [hy187]; with_reducible exact H2_) | (have H2_ := (Option.bind_some _ _).symm.trans H; with_reducible exact H2_) | with_reducible exact H | (rw [hy187]; exact H) | exact H
      have Ny187 := Aside0.mk hy187
      clear hy187
      have H' := Aside0.mk H
      clear H
      go_enter Tryz.func42, Tryz.ntmps42
      go_wp2_with (first | ((with_reducible refine gate_dst (N := 11) rfl ?_); refine Kd.R_make (Kd.int .u8) _ 5 rfl (N := 11) rfl 22 _ _ rfl (l0.length : Int) rfl rfl Tryz.underlying22 (.int .u8 0) 1 info5 rfl (by decide) (by omega) 0 (ok := fun _ => True) (okp := fun _ => True) rfl (fun _ hk => hk) trivial (of_decide_eq_true (by first | (with_reducible assumption) | assumption)) (Nat.le_trans (Nat.mul_le_mul_right _ (of_decide_eq_true (by first | (with_reducible assumption) | assumption) : (l0.length : Int).toNat ≤ 281474976710656)) (by omega)) (Below.refl _ _) (Nat.le_refl _) ?_; intro v188 w5 ho6 hb hg_ hnew_; clear hg_ hnew_; (first | rw [← Ny187.out] at ho6 | (simp only [Int.reduceToNat] at ho6; rw [← Ny187.out] at ho6)); have n0_ := Aside0.mk (Kd.R_lower ho6 (below_size HB.out)); have n1_ := Aside0.mk (below_step HB.out hb); clear HB; have HO189 := n0_; have HB := n1_; clear n0_ n1_; clear hb ho6))
      go_loopg [6, 7] k (fun kq v6 v7 w' => ∃ (x5_1 : List Int) (x6_1 : Int) (x7_1 : Int), v6 = .int .i64 x6_1 ∧ v7 = .int .i64 x7_1 ∧ Aside0 (spec_less.l0 kq l0 l1 x5_1 x6_1 x7_1 = some r) ∧ Aside0 (kq ≤ k) ∧ Aside0 (Kd.R (Kd.int .u8) 5 w' w.heap.size (fun _ => True) v188 x5_1) ∧ Aside0 (Below w.heap.size w w'))
      case atStart => exact ⟨(y187), (0), (0), (by first | rfl | (simp; done) | (simp [*]; done)), (by first | rfl | (simp; done) | (simp [*]; done)), H', ⟨Nat.le_refl _⟩, ⟨by (with_reducible repeat (first | apply Kd.R_alloc | apply Kd.R_drewN | apply Kd.R_drew)); exact HO189.out⟩, ⟨by repeat (first | (with_reducible first | exact HB.out | apply below_alloc | apply pw_below_drewN | apply below_drew1) | exact HB.out)⟩⟩
      case round =>
        clear H'
        try clear c1
        try clear p2
        try clear c3
        try clear c3b0
        try clear c3b1
        try clear c4
        try clear c4b0
        try clear c4b1
        try clear c5
        obtain ⟨x5_1, x6_1, x7_1, rfl, rfl, HA, HK1, HO_5, HB⟩ := hrel
        cases gk with
        | zero => exact absurd HA.out (by simp [spec_less.l0])
        | succ k1 =>
          have H := HA.out
          clear HA
          simp only [spec_less.l0] at H
          by_cases c7 : x7_1 < (l0.length : Int)
          · rw [if_pos c7] at H
            have c7b0 : decide (x7_1 < (l0.length : Int)) = true := decide_eq_true c7
            clear c7
            replace H := Option.bind_eq_some_iff.mp H
            obtain ⟨t193, A80, H⟩ := H
            replace H : ((spec_digit.f l1 x7_1).bind fun t194 => (if (wrap64 ((wrap64 (t193 - t194)) - x6_1)) < 0 then (if 0 ≤ (wrap64 ((wrap64 ((l0.length : Int) - 1)) - x7_1)) then (if (wrap64 ((wrap64 ((l0.length : Int) - 1)) - x7_1)) < (x5_1.length : Int) then (spec_less.l0 k1 l0 l1 (x5_1.set ((wrap64 ((wrap64 ((l0.length : Int) - 1)) - x7_1)) : Int).toNat ((wrap64 ((wrap64 ((wrap64 (t193 - t194)) - x6_1)) + 256)) % 256)) 1 (wrap64 (x7_1 + 1))) else (none)) else (none)) else (if 0 ≤ (wrap64 ((wrap64 ((l0.length : Int) - 1)) - x7_1)) then (if (wrap64 ((wrap64 ((l0.length : Int) - 1)) - x7_1)) < (x5_1.length : Int) then (spec_less.l0 k1 l0 l1 (x5_1.set ((wrap64 ((wrap64 ((l0.length : Int) - 1)) - x7_1)) : Int).toNat ((wrap64 ((wrap64 (t193 - t194)) - x6_1)) % 256)) 0 (wrap64 (x7_1 + 1))) else (none)) else (none)))) = some r := H
            have A8 := Aside0.mk A80
            clear A80
            replace H := Option.bind_eq_some_iff.mp H
            obtain ⟨t194, A90, H⟩ := H
            replace H : (if (wrap64 ((wrap64 (t193 - t194)) - x6_1)) < 0 then (if 0 ≤ (wrap64 ((wrap64 ((l0.length : Int) - 1)) - x7_1)) then (if (wrap64 ((wrap64 ((l0.length : Int) - 1)) - x7_1)) < (x5_1.length : Int) then (spec_less.l0 k1 l0 l1 (x5_1.set ((wrap64 ((wrap64 ((l0.length : Int) - 1)) - x7_1)) : Int).toNat ((wrap64 ((wrap64 ((wrap64 (t193 - t194)) - x6_1)) + 256)) % 256)) 1 (wrap64 (x7_1 + 1))) else (none)) else (none)) else (if 0 ≤ (wrap64 ((wrap64 ((l0.length : Int) - 1)) - x7_1)) then (if (wrap64 ((wrap64 ((l0.length : Int) - 1)) - x7_1)) < (x5_1.length : Int) then (spec_less.l0 k1 l0 l1 (x5_1.set ((wrap64 ((wrap64 ((l0.length : Int) - 1)) - x7_1)) : Int).toNat ((wrap64 ((wrap64 (t193 - t194)) - x6_1)) % 256)) 0 (wrap64 (x7_1 + 1))) else (none)) else (none))) = some r := H
            have A9 := Aside0.mk A90
            clear A90
            by_cases c10 : (wrap64 ((wrap64 (t193 - t194)) - x6_1)) < 0
            · rw [if_pos c10] at H
              have c10b0 : decide ((wrap64 ((wrap64 (t193 - t194)) - x6_1)) < 0) = true := decide_eq_true c10
              clear c10
              obtain ⟨ji11, hji11⟩ : ∃ j_ : Int, (wrap64 ((wrap64 ((l0.length : Int) - 1)) - x7_1)) = j_ := ⟨_, rfl⟩
              replace H : (if 0 ≤ (ji11) then (if (ji11) < (x5_1.length : Int) then (spec_less.l0 k1 l0 l1 (x5_1.set ((ji11) : Int).toNat ((wrap64 ((wrap64 ((wrap64 (t193 - t194)) - x6_1)) + 256)) % 256)) 1 (wrap64 (x7_1 + 1))) else (none)) else (none)) = some r := by first | (rw [hji11] at H; exact H) | (simp only [hji11] at H ⊢; exact H)
              (try rw [hji11] at A8)
              (try rw [hji11] at A9)
              have hji11w : (IntKind.i64.wrap ((wrap64 ((l0.length : Int) - 1)) - x7_1)) = ji11 := (i64_w _).trans hji11
              by_cases c12 : 0 ≤ (ji11)
              · rw [if_pos c12] at H
                have c12b0 : decide (0 ≤ (ji11)) = true := decide_eq_true c12
                clear c12
                by_cases c13 : (ji11) < (x5_1.length : Int)
                · rw [if_pos c13] at H
                  have c13b0 : decide ((ji11) < (x5_1.length : Int)) = true := decide_eq_true c13
                  clear c13
                  obtain ⟨y195, hy195⟩ : ∃ y_ : List Int, y_ = (x5_1.set ((ji11) : Int).toNat ((wrap64 ((wrap64 ((wrap64 (t193 - t194)) - x6_1)) + 256)) % 256)) := ⟨_, rfl⟩
                  replace H : (spec_less.l0 k1 l0 l1 y195 1 (wrap64 (x7_1 + 1))) = some r := by first | (rw [hy195]; with_reducible exact H) | (have H2_ := (Option.bind_some _ _).symm.trans H; rw [hy195]; with_reducible exact H2_) | (have H2_ := (Option.bind_some _ _).symm.trans H; with_reducible exact H2_) | with_reducible exact H | (rw [hy195]; exact H) | exact H
                  have Ny195 := Aside0.mk hy195
                  clear hy195
                  have H' := Aside0.mk H
                  clear H
                  go_wp2_with (first | ((with_reducible refine gate_callee (f := 40) rfl ?_); refine goesL_ (some 20) rfl rfl Tryz.func40 (by kernel_rfl) rfl #[.slice A0 l0.length c0, .int .i64 x7_1] rfl (by (try simp only [List.map_toArray, List.map_cons, List.map_nil]); first | done | rfl | (simp only [List.length_drop, List.length_take]; rfl)) ?_; (with_reducible refine (spec_digit.calls _ _ l0 x7_1 t193 _ ?side1 ?side2 A8.out).mono ?_); (case side1 => repeat (first | exact (Kd.C_below HR0.out HB.out) | (with_reducible refine Kd.C_alloc ?_ _) | (with_reducible refine Kd.C_drewN ?_ _) | (with_reducible refine Kd.C_drew ?_))); (case side2 => exact HC0.out); rintro e w' ⟨rfl, ⟨nd, rfl⟩⟩; refine ⟨_, rfl, ?_⟩; (try (rw [drewN_self wr]; generalize hq_ : World.drewN wr _ = wr; have n0_ : Aside0 (Kd.R (Kd.int .u8) 5 wr w.heap.size (fun _ => True) v188 x5_1) := ⟨by rw [← hq_]; exact (by (with_reducible repeat (first | apply Kd.R_alloc | apply Kd.R_drewN | apply Kd.R_drew)); exact HO_5.out)⟩; have n1_ : Aside0 (Below w.heap.size w wr) := ⟨by rw [← hq_]; exact (by repeat (first | (with_reducible first | exact HB.out | apply below_alloc | apply pw_below_drewN | apply below_drew1) | exact HB.out))⟩; clear HO_5 HB hq_; have HO_5 := n0_; have HB := n1_; clear n0_ n1_))) | ((with_reducible refine gate_callee (f := 40) rfl ?_); refine goesL_ (some 23) rfl rfl Tryz.func40 (by kernel_rfl) rfl #[.slice A1 l1.length c1, .int .i64 x7_1] rfl (by (try simp only [List.map_toArray, List.map_cons, List.map_nil]); first | done | rfl | (simp only [List.length_drop, List.length_take]; rfl)) ?_; (with_reducible refine (spec_digit.calls _ _ l1 x7_1 t194 _ ?side1 ?side2 A9.out).mono ?_); (case side1 => repeat (first | exact (Kd.C_below HR1.out HB.out) | (with_reducible refine Kd.C_alloc ?_ _) | (with_reducible refine Kd.C_drewN ?_ _) | (with_reducible refine Kd.C_drew ?_))); (case side2 => exact HC1.out); rintro e w' ⟨rfl, ⟨nd, rfl⟩⟩; refine ⟨_, rfl, ?_⟩; (try (rw [drewN_self wr]; generalize hq_ : World.drewN wr _ = wr; have n0_ : Aside0 (Kd.R (Kd.int .u8) 5 wr w.heap.size (fun _ => True) v188 x5_1) := ⟨by rw [← hq_]; exact (by (with_reducible repeat (first | apply Kd.R_alloc | apply Kd.R_drewN | apply Kd.R_drew)); exact HO_5.out)⟩; have n1_ : Aside0 (Below w.heap.size w wr) := ⟨by rw [← hq_]; exact (by repeat (first | (with_reducible first | exact HB.out | apply below_alloc | apply pw_below_drewN | apply below_drew1) | exact HB.out))⟩; clear HO_5 HB hq_; have HO_5 := n0_; have HB := n1_; clear n0_ n1_)); have p14 : 0 ≤ ((ji11) : Int) := of_decide_eq_true (by first | (with_reducible assumption) | assumption); have q14 : ((ji11) : Int) < ((x5_1.length : Int) : Int) := of_decide_eq_true (by first | (with_reducible assumption) | assumption); obtain ⟨go14, co14, eo14, gb14, gl14, cl14, HG14⟩ := Kd.R_form HO_5.out (by omega); (first | cases eo14 | (injection eo14 with ea_ en_ ec_; (first | subst ea_ | (injection ea_ with ea_; subst ea_)); subst ec_; clear en_)); have GB14 := Aside0.mk gb14; have GG14 := Aside0.mk HG14; clear gb14 gl14 HG14; obtain ⟨hx14_0, hf14_0⟩ := Kd.R_celln 0 HO_5.out ((ji11) : Int) p14 q14; replace p14 := eq_true p14; replace q14 := eq_true q14; obtain ⟨hy15_, hz15_⟩ := Kd.R_celln 0 HO_5.out ((ji11) : Int) (of_decide_eq_true (by first | (with_reducible assumption) | assumption)) (of_decide_eq_true (by first | (with_reducible assumption) | assumption)); have HP15 := Kd.R_putg HO_5.out ((ji11) : Int) ((wrap64 ((wrap64 ((wrap64 (t193 - t194)) - x6_1)) + 256)) % 256)) | ((with_reducible refine gate_store (t := 5) (p := 39) rfl ?_); refine store_event (t := 5) (p := 39) (v := ?vo_w16) (w1 := (wr.setCell ⟨go14, ((ji11) : Int).toNat, none⟩ (.int .u8 ((wrap64 ((wrap64 ((wrap64 (t193 - t194)) - x6_1)) + 256)) % 256)))) ?hg ?ho ?hn ?hr ?_; (case ho => rfl); (case hg => rfl); (case hn => rfl); (case hr => first | (go_simp; done) | (go_simp; rfl)); intro w16 hw; have hg : wr.grownBy w16 (some go14) := (by rw [hw]; exact HP15.2); have hp_ : Kd.R (Kd.int .u8) 5 w16 w.heap.size (fun _ => True) (.slice (some ⟨go14, 0, none⟩) x5_1.length co14) y195 := (by rw [hw, Ny195.out]; exact HP15.1); clear HP15; have n0_ := Aside0.mk (hp_); have n1_ := Aside0.mk ((by rw [hw]; exact below_set (HB.out) GB14.out : Below w.heap.size w w16)); clear HO_5; clear HB; have HO_5 := n0_; have HB := n1_; clear n0_ n1_; clear hg hw hp_))
                  go_roundg k1
                  case measure => have := HK1.out; omega
                  case rel => exact ⟨(y195), (1), (wrap64 (x7_1 + 1)), (by first | rfl | (simp; done) | (simp [*]; done)), (by first | rfl | (simp; done) | (simp [*]; done)), H', ⟨by have := HK1.out; omega⟩, ⟨by (with_reducible repeat (first | apply Kd.R_alloc | apply Kd.R_drewN | apply Kd.R_drew)); exact HO_5.out⟩, ⟨by repeat (first | (with_reducible first | exact HB.out | apply below_alloc | apply pw_below_drewN | apply below_drew1) | exact HB.out)⟩⟩
                · rw [if_neg c13] at H
                  exact absurd H (by simp)
              · rw [if_neg c12] at H
                exact absurd H (by simp)
            · rw [if_neg c10] at H
              have c10b0 : decide ((wrap64 ((wrap64 (t193 - t194)) - x6_1)) < 0) = false := decide_eq_false c10
              clear c10
              obtain ⟨ji17, hji17⟩ : ∃ j_ : Int, (wrap64 ((wrap64 ((l0.length : Int) - 1)) - x7_1)) = j_ := ⟨_, rfl⟩
              replace H : (if 0 ≤ (ji17) then (if (ji17) < (x5_1.length : Int) then (spec_less.l0 k1 l0 l1 (x5_1.set ((ji17) : Int).toNat ((wrap64 ((wrap64 (t193 - t194)) - x6_1)) % 256)) 0 (wrap64 (x7_1 + 1))) else (none)) else (none)) = some r := by first | (rw [hji17] at H; exact H) | (simp only [hji17] at H ⊢; exact H)
              (try rw [hji17] at A8)
              (try rw [hji17] at A9)
              have hji17w : (IntKind.i64.wrap ((wrap64 ((l0.length : Int) - 1)) - x7_1)) = ji17 := (i64_w _).trans hji17
              by_cases c18 : 0 ≤ (ji17)
              · rw [if_pos c18] at H
                have c18b0 : decide (0 ≤ (ji17)) = true := decide_eq_true c18
                clear c18
                by_cases c19 : (ji17) < (x5_1.length : Int)
                · rw [if_pos c19] at H
                  have c19b0 : decide ((ji17) < (x5_1.length : Int)) = true := decide_eq_true c19
                  clear c19
                  obtain ⟨y196, hy196⟩ : ∃ y_ : List Int, y_ = (x5_1.set ((ji17) : Int).toNat ((wrap64 ((wrap64 (t193 - t194)) - x6_1)) % 256)) := ⟨_, rfl⟩
                  replace H : (spec_less.l0 k1 l0 l1 y196 0 (wrap64 (x7_1 + 1))) = some r := by first | (rw [hy196]; with_reducible exact H) | (have H2_ := (Option.bind_some _ _).symm.trans H; rw [hy196]; with_reducible exact H2_) | (have H2_ := (Option.bind_some _ _).symm.trans H; with_reducible exact H2_) | with_reducible exact H | (rw [hy196]; exact H) | exact H
                  have Ny196 := Aside0.mk hy196
                  clear hy196
                  have H' := Aside0.mk H
                  clear H
                  go_wp2_with (first | ((with_reducible refine gate_callee (f := 40) rfl ?_); refine goesL_ (some 20) rfl rfl Tryz.func40 (by kernel_rfl) rfl #[.slice A0 l0.length c0, .int .i64 x7_1] rfl (by (try simp only [List.map_toArray, List.map_cons, List.map_nil]); first | done | rfl | (simp only [List.length_drop, List.length_take]; rfl)) ?_; (with_reducible refine (spec_digit.calls _ _ l0 x7_1 t193 _ ?side1 ?side2 A8.out).mono ?_); (case side1 => repeat (first | exact (Kd.C_below HR0.out HB.out) | (with_reducible refine Kd.C_alloc ?_ _) | (with_reducible refine Kd.C_drewN ?_ _) | (with_reducible refine Kd.C_drew ?_))); (case side2 => exact HC0.out); rintro e w' ⟨rfl, ⟨nd, rfl⟩⟩; refine ⟨_, rfl, ?_⟩; (try (rw [drewN_self wr]; generalize hq_ : World.drewN wr _ = wr; have n0_ : Aside0 (Kd.R (Kd.int .u8) 5 wr w.heap.size (fun _ => True) v188 x5_1) := ⟨by rw [← hq_]; exact (by (with_reducible repeat (first | apply Kd.R_alloc | apply Kd.R_drewN | apply Kd.R_drew)); exact HO_5.out)⟩; have n1_ : Aside0 (Below w.heap.size w wr) := ⟨by rw [← hq_]; exact (by repeat (first | (with_reducible first | exact HB.out | apply below_alloc | apply pw_below_drewN | apply below_drew1) | exact HB.out))⟩; clear HO_5 HB hq_; have HO_5 := n0_; have HB := n1_; clear n0_ n1_))) | ((with_reducible refine gate_callee (f := 40) rfl ?_); refine goesL_ (some 23) rfl rfl Tryz.func40 (by kernel_rfl) rfl #[.slice A1 l1.length c1, .int .i64 x7_1] rfl (by (try simp only [List.map_toArray, List.map_cons, List.map_nil]); first | done | rfl | (simp only [List.length_drop, List.length_take]; rfl)) ?_; (with_reducible refine (spec_digit.calls _ _ l1 x7_1 t194 _ ?side1 ?side2 A9.out).mono ?_); (case side1 => repeat (first | exact (Kd.C_below HR1.out HB.out) | (with_reducible refine Kd.C_alloc ?_ _) | (with_reducible refine Kd.C_drewN ?_ _) | (with_reducible refine Kd.C_drew ?_))); (case side2 => exact HC1.out); rintro e w' ⟨rfl, ⟨nd, rfl⟩⟩; refine ⟨_, rfl, ?_⟩; (try (rw [drewN_self wr]; generalize hq_ : World.drewN wr _ = wr; have n0_ : Aside0 (Kd.R (Kd.int .u8) 5 wr w.heap.size (fun _ => True) v188 x5_1) := ⟨by rw [← hq_]; exact (by (with_reducible repeat (first | apply Kd.R_alloc | apply Kd.R_drewN | apply Kd.R_drew)); exact HO_5.out)⟩; have n1_ : Aside0 (Below w.heap.size w wr) := ⟨by rw [← hq_]; exact (by repeat (first | (with_reducible first | exact HB.out | apply below_alloc | apply pw_below_drewN | apply below_drew1) | exact HB.out))⟩; clear HO_5 HB hq_; have HO_5 := n0_; have HB := n1_; clear n0_ n1_)); have p20 : 0 ≤ ((ji17) : Int) := of_decide_eq_true (by first | (with_reducible assumption) | assumption); have q20 : ((ji17) : Int) < ((x5_1.length : Int) : Int) := of_decide_eq_true (by first | (with_reducible assumption) | assumption); obtain ⟨go20, co20, eo20, gb20, gl20, cl20, HG20⟩ := Kd.R_form HO_5.out (by omega); (first | cases eo20 | (injection eo20 with ea_ en_ ec_; (first | subst ea_ | (injection ea_ with ea_; subst ea_)); subst ec_; clear en_)); have GB20 := Aside0.mk gb20; have GG20 := Aside0.mk HG20; clear gb20 gl20 HG20; obtain ⟨hx20_0, hf20_0⟩ := Kd.R_celln 0 HO_5.out ((ji17) : Int) p20 q20; replace p20 := eq_true p20; replace q20 := eq_true q20; obtain ⟨hy21_, hz21_⟩ := Kd.R_celln 0 HO_5.out ((ji17) : Int) (of_decide_eq_true (by first | (with_reducible assumption) | assumption)) (of_decide_eq_true (by first | (with_reducible assumption) | assumption)); have HP21 := Kd.R_putg HO_5.out ((ji17) : Int) ((wrap64 ((wrap64 (t193 - t194)) - x6_1)) % 256)) | ((with_reducible refine gate_store (t := 5) (p := 39) rfl ?_); refine store_event (t := 5) (p := 39) (v := ?vo_w22) (w1 := (wr.setCell ⟨go20, ((ji17) : Int).toNat, none⟩ (.int .u8 ((wrap64 ((wrap64 (t193 - t194)) - x6_1)) % 256)))) ?hg ?ho ?hn ?hr ?_; (case ho => rfl); (case hg => rfl); (case hn => rfl); (case hr => first | (go_simp; done) | (go_simp; rfl)); intro w22 hw; have hg : wr.grownBy w22 (some go20) := (by rw [hw]; exact HP21.2); have hp_ : Kd.R (Kd.int .u8) 5 w22 w.heap.size (fun _ => True) (.slice (some ⟨go20, 0, none⟩) x5_1.length co20) y196 := (by rw [hw, Ny196.out]; exact HP21.1); clear HP21; have n0_ := Aside0.mk (hp_); have n1_ := Aside0.mk ((by rw [hw]; exact below_set (HB.out) GB20.out : Below w.heap.size w w22)); clear HO_5; clear HB; have HO_5 := n0_; have HB := n1_; clear n0_ n1_; clear hg hw hp_))
                  go_roundg k1
                  case measure => have := HK1.out; omega
                  case rel => exact ⟨(y196), (0), (wrap64 (x7_1 + 1)), (by first | rfl | (simp; done) | (simp [*]; done)), (by first | rfl | (simp; done) | (simp [*]; done)), H', ⟨by have := HK1.out; omega⟩, ⟨by (with_reducible repeat (first | apply Kd.R_alloc | apply Kd.R_drewN | apply Kd.R_drew)); exact HO_5.out⟩, ⟨by repeat (first | (with_reducible first | exact HB.out | apply below_alloc | apply pw_below_drewN | apply below_drew1) | exact HB.out)⟩⟩
                · rw [if_neg c19] at H
                  exact absurd H (by simp)
              · rw [if_neg c18] at H
                exact absurd H (by simp)
          · rw [if_neg c7] at H
            have c7b0 : decide (x7_1 < (l0.length : Int)) = false := decide_eq_false c7
            clear c7
            replace H := Option.bind_eq_some_iff.mp H
            obtain ⟨t190, A230, H⟩ := H
            replace H : (some t190) = some r := H
            have A23 := Aside0.mk A230
            clear A230
            obtain rfl := Option.some.inj H
            obtain ⟨Ao24, co24, eo24⟩ := Kd.R_slice HO_5.out
            subst eo24
            go_wp2_with (first | ((with_reducible refine gate_callee (f := 33) rfl ?_); refine goesL_ (some 41) rfl rfl Tryz.func33 (by kernel_rfl) rfl #[.slice Ao24 x5_1.length co24] rfl (by (try simp only [List.map_toArray, List.map_cons, List.map_nil]); first | done | rfl | (simp only [List.length_drop, List.length_take]; rfl)) ?_; (with_reducible refine (spec_cut.calls k1 _ _ x5_1 t190 _ ?side1 ?side2 A23.out).mono ?_); (case side1 => repeat (first | exact (Kd.R_reads' HO_5.out).2.2 | (with_reducible refine Kd.C_alloc ?_ _) | (with_reducible refine Kd.C_drewN ?_ _) | (with_reducible refine Kd.C_drew ?_))); (case side2 => exact (Kd.R_reads' HO_5.out).2.1); rintro e w25 ⟨v191, rfl, ho0, hb⟩; refine ⟨_, rfl, ?_⟩; have n0_ := Aside0.mk (Kd.R_elder' HO_5.out (Kd.R_base ho0) hb); have n1_ := Aside0.mk (Kd.R_lower (Kd.R_new' ho0 (Kd.R_lt HO_5.out)) (below_size HB.out)); have n2_ := Aside0.mk (below_step HB.out hb); clear HO_5; clear HB; have HO_5 := n0_; have HO192 := n1_; have HB := n2_; clear n0_ n1_ n2_; (try clear hb); (try clear hb2); (try clear hk); (try clear hi); (try clear ho0)))
            go_ret
            exact ⟨_, by first | rfl | (simp [errW_none, errW_some] <;> rfl) | (simp [*, errW_none, errW_some] <;> rfl), by (with_reducible repeat (first | apply Kd.R_alloc | apply Kd.R_drewN | apply Kd.R_drew)); exact Kd.R_mono HO192.out (fun _ hk => trivial), by repeat (first | (with_reducible first | exact HB.out | apply below_alloc | apply pw_below_drewN | apply below_drew1) | exact HB.out)⟩
    · rw [if_neg c4] at H
      exact absurd H (by simp)
  · rw [if_neg c3] at H
    exact absurd H (by simp)


/-! ### spec_split: function 50 -/
theorem spec_split.mono_l : ∀ k, (∀ y0 y1 y2 y3 y4, LeO (spec_split.l0 k y0 y1 y2 y3 y4) (spec_split.l0 (k + 1) y0 y1 y2 y3 y4)) ∧ (∀ y0 y1 y2 y3 y4, LeO (spec_split.j1 k y0 y1 y2 y3 y4) (spec_split.j1 (k + 1) y0 y1 y2 y3 y4))
  | 0 => ⟨fun _ _ _ _ _ r h => by simp [spec_split.l0] at h, fun _ _ _ _ _ r h => by simp [spec_split.j1] at h⟩
  | k + 1 => by
    obtain ⟨ih0, ih1⟩ := spec_split.mono_l k
    refine ⟨?_, ?_⟩
    · intro y0 y1 y2 y3 y4
      unfold spec_split.l0
      repeat' first
      | (with_reducible exact ih0 _ _ _ _ _)
      | (with_reducible exact ih1 _ _ _ _ _)
      | (with_reducible exact spec_cut.mono _ _)
      | (with_reducible exact spec_less.mono _ _ _)
      | (with_reducible exact spec_order.mono _ _ _)
      | (with_reducible exact spec_sum.mono _ _ _)
      | (with_reducible exact LeO.refl _)
      | (with_reducible exact LeO.none _)
      | (with_reducible refine LeO.ite ?_ ?_)
      | (with_reducible refine LeO.bind ?_ (fun _ => ?_))
      | exact ih0 _ _ _ _ _
      | exact ih1 _ _ _ _ _
      | exact spec_cut.mono _ _
      | exact spec_less.mono _ _ _
      | exact spec_order.mono _ _ _
      | exact spec_sum.mono _ _ _
      | exact LeO.none _
      | refine LeO.ite ?_ ?_
      | refine LeO.bind ?_ (fun _ => ?_)
    · intro y0 y1 y2 y3 y4
      unfold spec_split.j1
      repeat' first
      | (with_reducible exact ih0 _ _ _ _ _)
      | (with_reducible exact ih1 _ _ _ _ _)
      | (with_reducible exact spec_cut.mono _ _)
      | (with_reducible exact spec_less.mono _ _ _)
      | (with_reducible exact spec_order.mono _ _ _)
      | (with_reducible exact spec_sum.mono _ _ _)
      | (with_reducible exact LeO.refl _)
      | (with_reducible exact LeO.none _)
      | (with_reducible refine LeO.ite ?_ ?_)
      | (with_reducible refine LeO.bind ?_ (fun _ => ?_))
      | exact ih0 _ _ _ _ _
      | exact ih1 _ _ _ _ _
      | exact spec_cut.mono _ _
      | exact spec_less.mono _ _ _
      | exact spec_order.mono _ _ _
      | exact spec_sum.mono _ _ _
      | exact LeO.none _
      | refine LeO.ite ?_ ?_
      | refine LeO.bind ?_ (fun _ => ?_)
theorem spec_split.mono : ∀ a0 a1 k, LeO (spec_split.f k a0 a1) (spec_split.f (k + 1) a0 a1) := by
  intro a0 a1 k
  obtain ⟨ih0, ih1⟩ := spec_split.mono_l k
  unfold spec_split.f
  repeat' first
      | (with_reducible exact ih0 _ _ _ _ _)
      | (with_reducible exact ih1 _ _ _ _ _)
      | (with_reducible exact spec_cut.mono _ _)
      | (with_reducible exact spec_less.mono _ _ _)
      | (with_reducible exact spec_order.mono _ _ _)
      | (with_reducible exact spec_sum.mono _ _ _)
      | (with_reducible exact LeO.refl _)
      | (with_reducible exact LeO.none _)
      | (with_reducible refine LeO.ite ?_ ?_)
      | (with_reducible refine LeO.bind ?_ (fun _ => ?_))
      | exact ih0 _ _ _ _ _
      | exact ih1 _ _ _ _ _
      | exact spec_cut.mono _ _
      | exact spec_less.mono _ _ _
      | exact spec_order.mono _ _ _
      | exact spec_sum.mono _ _ _
      | exact LeO.none _
      | refine LeO.ite ?_ ?_
      | refine LeO.bind ?_ (fun _ => ?_)
set_option maxHeartbeats 8000000 in
set_option maxRecDepth 100000 in
theorem spec_split.calls (k : Nat) (A0 : Option Addr) (c0 : Nat) (l0 : List Int) (A1 : Option Addr) (c1 : Nat) (l1 : List Int) (r1 : List Int) (r2 : List Int) (w : World) (hr0 : Kd.C (Kd.int .u8) w A0 l0.length l0) (hc0 : l0.length ≤ c0) (hr1 : Kd.C (Kd.int .u8) w A1 l1.length l1) (hc1 : l1.length ≤ c1) (h : spec_split.f k l0 l1 = some (r1, r2)) :
    Calls Tryz.prog 50 #[.slice A0 l0.length c0, .slice A1 l1.length c1] w fun e w' => ∃ v0_ v1_ : Value, e = .returned (.tuple #[v0_, v1_]) ∧ Kd.R (Kd.int .u8) 5 w' w.heap.size (fun k_ => some k_ ≠ (v1_ : Value).ownBlock) v0_ r1 ∧ Kd.R (Kd.int .u8) 5 w' w.heap.size (fun k_ => some k_ ≠ (v0_ : Value).ownBlock) v1_ r2 ∧ Below w.heap.size w w' := by
  have HR0 := Aside0.mk hr0
  have HC0 := Aside0.mk hc0
  clear hr0 hc0
  have HR1 := Aside0.mk hr1
  have HC1 := Aside0.mk hc1
  clear hr1 hc1
  have HB := Aside0.mk (Below.refl w.heap.size w)
  have H : (if 0 ≤ (l0.length : Int) then (if ((l0.length : Int) : Int).toNat ≤ 281474976710656 then (spec_split.l0 k l0 l1 (List.replicate ((l0.length : Int) : Int).toNat 0) (([] : List Int)) (wrap64 ((wrap64 (8 * (l0.length : Int))) - 1))) else (none)) else (none)) = some (r1, r2) := h
  clear h
  by_cases c3 : 0 ≤ (l0.length : Int)
  · rw [if_pos c3] at H
    have c3b0 := eq_true c3
    have c3b1 : decide (0 ≤ (l0.length : Int)) = true := decide_eq_true c3
    clear c3
    by_cases c4 : ((l0.length : Int) : Int).toNat ≤ 281474976710656
    · rw [if_pos c4] at H
      have c4b0 := eq_true c4
      have c4b1 : decide (((l0.length : Int) : Int).toNat ≤ 281474976710656) = true := decide_eq_true c4
      clear c4
      obtain ⟨y201, hy201⟩ : ∃ y_ : List Int, y_ = (List.replicate ((l0.length : Int) : Int).toNat 0) := ⟨_, rfl⟩
      replace H : (spec_split.l0 k l0 l1 y201 (([] : List Int)) (wrap64 ((wrap64 (8 * (l0.length : Int))) - 1))) = some (r1, r2) := by first | (rw [hy201]; with_reducible exact H) | (have H2_ := (Option.bind_some _ _).symm.trans H; rw [hy201]; with_reducible exact H2_) | (have H2_ := (Option.bind_some _ _).symm.trans H; with_reducible exact H2_) | with_reducible exact H | (rw [hy201]; exact H) | exact H
      have Ny201 := Aside0.mk hy201
      clear hy201
      obtain ⟨y204, hy204⟩ : ∃ y_ : List Int, y_ = (([] : List Int)) := ⟨_, rfl⟩
      replace H : (spec_split.l0 k l0 l1 y201 y204 (wrap64 ((wrap64 (8 * (l0.length : Int))) - 1))) = some (r1, r2) := by first | (rw [hy204]; with_reducible exact H) | (have H2_ := (Option.bind_some _ _).symm.trans H; rw [hy204]; with_reducible exact H2_) | (have H2_ := (Option.bind_some _ _).symm.trans H; with_reducible exact H2_) | with_reducible exact H | (rw [hy204]; exact H) | exact H
      have Ny204 := Aside0.mk hy204
      clear hy204
      have H' := Aside0.mk H
      clear H
      go_enter Tryz.func50, Tryz.ntmps50
      go_wp2_with (first | ((with_reducible refine gate_dst (N := 11) rfl ?_); refine Kd.R_make (Kd.int .u8) _ 5 rfl (N := 11) rfl 22 _ _ rfl (l0.length : Int) rfl rfl Tryz.underlying22 (.int .u8 0) 1 info5 rfl (by decide) (by omega) 0 (ok := fun _ => True) (okp := fun _ => True) rfl (fun _ hk => hk) trivial (of_decide_eq_true (by first | (with_reducible assumption) | assumption)) (Nat.le_trans (Nat.mul_le_mul_right _ (of_decide_eq_true (by first | (with_reducible assumption) | assumption) : (l0.length : Int).toNat ≤ 281474976710656)) (by omega)) (Below.refl _ _) (Nat.le_refl _) ?_; intro v202 w5 ho6 hb hg_ hnew_; clear hg_ hnew_; (first | rw [← Ny201.out] at ho6 | (simp only [Int.reduceToNat] at ho6; rw [← Ny201.out] at ho6)); have n0_ := Aside0.mk (Kd.R_lower ho6 (below_size HB.out)); have n1_ := Aside0.mk (below_step HB.out hb); clear HB; have HO203 := n0_; have HB := n1_; clear n0_ n1_; clear hb ho6) | ((with_reducible refine gate_dst (N := 12) rfl ?_); refine Kd.R_lit (Kd.int .u8) _ 5 ?hg (N := 12) ?hd (xs := ([] : List Int)) (inner := []) (ok := fun _ => True) (okp := fun _ => True) ?hr ?hp (fun _ hk => hk) trivial (Below.refl _ _) (Nat.le_refl _) (by simp) ?_; (case hd => rfl); (case hg => rfl); (case hr => first | (go_simp; done) | (go_simp; rfl)); (case hp => exact (Reps.none _ _)); intro v205 w7 ho8 hb hg_ hnew_; clear hg_ hnew_; (first | rw [← Ny204.out] at ho8 | (simp only [Int.reduceToNat] at ho8; rw [← Ny204.out] at ho8)); have n0_ := Aside0.mk (Kd.R_elder' HO203.out (Kd.R_base ho8) hb); have n1_ := Aside0.mk (Kd.R_lower (Kd.R_new' ho8 (Kd.R_lt HO203.out)) (below_size HB.out)); have n2_ := Aside0.mk (below_step HB.out hb); clear HO203; clear HB; have HO203 := n0_; have HO206 := n1_; have HB := n2_; clear n0_ n1_ n2_; clear hb ho8))
      go_loopg [7, 8] k (fun kq v7 v8 w' => ∃ (x6_1 : List Int) (x7_1 : List Int) (x8_1 : Int), v8 = .int .i64 x8_1 ∧ Aside0 (spec_split.l0 kq l0 l1 x6_1 x7_1 x8_1 = some (r1, r2)) ∧ Aside0 (kq ≤ k) ∧ Aside0 (Kd.R (Kd.int .u8) 5 w' w.heap.size (fun k_ => some k_ ≠ (v7 : Value).ownBlock) v202 x6_1) ∧ Aside0 (Kd.R (Kd.int .u8) 5 w' w.heap.size (fun k_ => some k_ ≠ (v202 : Value).ownBlock) v7 x7_1) ∧ Aside0 (Below w.heap.size w w'))
      case atStart => exact ⟨(y201), (y204), (wrap64 ((wrap64 (8 * (l0.length : Int))) - 1)), (by first | rfl | (simp; done) | (simp [*]; done)), H', ⟨Nat.le_refl _⟩, ⟨by (with_reducible repeat (first | apply Kd.R_alloc | apply Kd.R_drewN | apply Kd.R_drew)); exact Kd.R_mono HO203.out (fun _ hk => hk.2)⟩, ⟨by (with_reducible repeat (first | apply Kd.R_alloc | apply Kd.R_drewN | apply Kd.R_drew)); exact Kd.R_mono HO206.out (fun _ hk => hk.2)⟩, ⟨by repeat (first | (with_reducible first | exact HB.out | apply below_alloc | apply pw_below_drewN | apply below_drew1) | exact HB.out)⟩⟩
      case round =>
        clear H'
        try clear c1
        try clear p2
        try clear c3
        try clear c3b0
        try clear c3b1
        try clear c4
        try clear c4b0
        try clear c4b1
        try clear p6
        obtain ⟨x6_1, x7_1, x8_1, rfl, HA, HK1, HO_6, HO_7, HB⟩ := hrel
        cases gk with
        | zero => exact absurd HA.out (by simp [spec_split.l0])
        | succ k1 =>
          have H := HA.out
          clear HA
          simp only [spec_split.l0] at H
          by_cases c9 : x8_1 ≥ 0
          · rw [if_pos c9] at H
            have c9b0 : decide (0 ≤ x8_1) = true := decide_eq_true c9
            clear c9
            replace H := Option.bind_eq_some_iff.mp H
            obtain ⟨t210, A100, H⟩ := H
            replace H : ((spec_bit.f l0 x8_1).bind fun t213 => (if t213 = 1 then ((spec_sum.f k1 t210 (([1] : List Int))).bind fun t217 => (spec_split.j1 k1 l0 l1 x6_1 t217 x8_1)) else (spec_split.j1 k1 l0 l1 x6_1 t210 x8_1))) = some (r1, r2) := H
            have A10 := Aside0.mk A100
            clear A100
            replace H := Option.bind_eq_some_iff.mp H
            obtain ⟨t213, A110, H⟩ := H
            replace H : (if t213 = 1 then ((spec_sum.f k1 t210 (([1] : List Int))).bind fun t217 => (spec_split.j1 k1 l0 l1 x6_1 t217 x8_1)) else (spec_split.j1 k1 l0 l1 x6_1 t210 x8_1)) = some (r1, r2) := H
            have A11 := Aside0.mk A110
            clear A110
            have HC12 := Aside0.mk H
            clear H
            obtain ⟨Ao13, co13, eo13⟩ := Kd.R_slice HO_7.out
            subst eo13
            go_upto_if 27 with (first | ((with_reducible refine gate_callee (f := 41) rfl ?_); refine goesL_ (some 23) rfl rfl Tryz.func41 (by kernel_rfl) rfl #[.slice Ao13 x7_1.length co13, .slice Ao13 x7_1.length co13] rfl (by (try simp only [List.map_toArray, List.map_cons, List.map_nil]); first | done | rfl | (simp only [List.length_drop, List.length_take]; rfl)) ?_; (with_reducible refine (spec_sum.calls k1 _ _ x7_1 _ _ x7_1 t210 _ ?side1 ?side2 ?side3 ?side4 A10.out).mono ?_); (case side1 => repeat (first | exact (Kd.R_reads' HO_7.out).2.2 | (with_reducible refine Kd.C_alloc ?_ _) | (with_reducible refine Kd.C_drewN ?_ _) | (with_reducible refine Kd.C_drew ?_))); (case side2 => exact (Kd.R_reads' HO_7.out).2.1); (case side3 => repeat (first | exact (Kd.R_reads' HO_7.out).2.2 | (with_reducible refine Kd.C_alloc ?_ _) | (with_reducible refine Kd.C_drewN ?_ _) | (with_reducible refine Kd.C_drew ?_))); (case side4 => exact (Kd.R_reads' HO_7.out).2.1); rintro e w14 ⟨v211, rfl, ho0, hb⟩; refine ⟨_, rfl, ?_⟩; have n0_ := Aside0.mk (Kd.R_elder' HO_6.out (Kd.R_base ho0) hb); have n1_ := Aside0.mk (Kd.R_elder' HO_7.out (Kd.R_base ho0) hb); have n2_ := Aside0.mk (Kd.R_lower (Kd.R_new' (Kd.R_new' ho0 (Kd.R_lt HO_6.out)) (Kd.R_lt HO_7.out)) (below_size HB.out)); have n3_ := Aside0.mk (below_step HB.out hb); clear HO_6; clear HO_7; clear HB; have HO_6 := n0_; have HO_7 := n1_; have HO212 := n2_; have HB := n3_; clear n0_ n1_ n2_ n3_; (try clear hb); (try clear hb2); (try clear hk); (try clear hi); (try clear ho0)) | ((with_reducible refine gate_callee (f := 22) rfl ?_); refine goesL_ (some 26) rfl rfl Tryz.func22 (by kernel_rfl) rfl #[.slice A0 l0.length c0, .int .i64 x8_1] rfl (by (try simp only [List.map_toArray, List.map_cons, List.map_nil]); first | done | rfl | (simp only [List.length_drop, List.length_take]; rfl)) ?_; (with_reducible refine (spec_bit.calls _ _ l0 x8_1 t213 _ ?side1 ?side2 A11.out).mono ?_); (case side1 => repeat (first | exact (Kd.C_below HR0.out HB.out) | (with_reducible refine Kd.C_alloc ?_ _) | (with_reducible refine Kd.C_drewN ?_ _) | (with_reducible refine Kd.C_drew ?_))); (case side2 => exact HC0.out); rintro e w' ⟨rfl, ⟨nd, rfl⟩⟩; refine ⟨_, rfl, ?_⟩))
            (try simp only [Act.put, List.setIfInBounds_toArray, List.set_cons_zero, List.set_cons_succ])
            go_cut [7] (fun v7 wc => ∃ (kq : Nat) (x7_11 : List Int), Aside0 (spec_split.j1 kq l0 l1 x6_1 x7_11 x8_1 = some (r1, r2)) ∧ Aside0 (kq ≤ k1) ∧ Aside0 (Kd.R (Kd.int .u8) 5 wc w.heap.size (fun k_ => some k_ ≠ (v7 : Value).ownBlock) v202 x6_1) ∧ Aside0 (Kd.R (Kd.int .u8) 5 wc w.heap.size (fun k_ => some k_ ≠ (v202 : Value).ownBlock) v7 x7_11) ∧ Aside0 (Below w.heap.size w wc))
            case first =>
              have H := HC12.out
              clear HC12
              by_cases c15 : t213 = 1
              · rw [if_pos c15] at H
                have c15b0 : (t213 == 1) = true := beq_iff_eq.mpr c15
                have c15b1 : (t213 != 1) = false := bne_eq_false_iff_eq.mpr c15
                clear c15
                (first | rw [c15b0] | (simp only [i64_w, i32_w]; rw [c15b0]) | skip)
                obtain ⟨y214, hy214⟩ : ∃ y_ : List Int, y_ = (([1] : List Int)) := ⟨_, rfl⟩
                replace H : ((spec_sum.f k1 t210 y214).bind fun t217 => (spec_split.j1 k1 l0 l1 x6_1 t217 x8_1)) = some (r1, r2) := by first | (rw [hy214]; with_reducible exact H) | (have H2_ := (Option.bind_some _ _).symm.trans H; rw [hy214]; with_reducible exact H2_) | (have H2_ := (Option.bind_some _ _).symm.trans H; with_reducible exact H2_) | with_reducible exact H | (rw [hy214]; exact H) | exact H
                have Ny214 := Aside0.mk hy214
                clear hy214
                replace H := Option.bind_eq_some_iff.mp H
                obtain ⟨t217, A160, H⟩ := H
                replace H : (spec_split.j1 k1 l0 l1 x6_1 t217 x8_1) = some (r1, r2) := H
                have A16 := Aside0.mk A160
                clear A160
                have H' := Aside0.mk H
                clear H
                go_wp2_with (first | ((with_reducible refine gate_dst (N := 29) rfl ?_); refine Kd.R_lit (Kd.int .u8) _ 5 ?hg (N := 29) ?hd (xs := ([1] : List Int)) (inner := [.int .u8 1]) (ok := fun _ => True) (okp := fun _ => True) ?hr ?hp (fun _ hk => hk) trivial (Below.refl _ _) (Nat.le_refl _) (by simp) ?_; (case hd => rfl); (case hg => rfl); (case hr => first | (go_simp; done) | (go_simp; rfl)); (case hp => exact (Reps.one (show Kd.M (Kd.int .u8) _ _ _ 1 [.int .u8 1] from rfl) (Reps.none _ _))); intro v215 w17 ho18 hb hg_ hnew_; clear hg_ hnew_; (first | rw [← Ny214.out] at ho18 | (simp only [Int.reduceToNat] at ho18; rw [← Ny214.out] at ho18)); have n0_ := Aside0.mk (Kd.R_elder' (by (with_reducible repeat (first | apply Kd.R_alloc | apply Kd.R_drewN | apply Kd.R_drew)); exact HO_6.out) (Kd.R_base ho18) hb); have n1_ := Aside0.mk (Kd.R_elder' (by (with_reducible repeat (first | apply Kd.R_alloc | apply Kd.R_drewN | apply Kd.R_drew)); exact HO_7.out) (Kd.R_base ho18) hb); have n2_ := Aside0.mk (Kd.R_elder' (by (with_reducible repeat (first | apply Kd.R_alloc | apply Kd.R_drewN | apply Kd.R_drew)); exact HO212.out) (Kd.R_base ho18) hb); have n3_ := Aside0.mk (Kd.R_lower (Kd.R_new' (Kd.R_new' (Kd.R_new' ho18 (Kd.R_lt (by (with_reducible repeat (first | apply Kd.R_alloc | apply Kd.R_drewN | apply Kd.R_drew)); exact HO_6.out))) (Kd.R_lt (by (with_reducible repeat (first | apply Kd.R_alloc | apply Kd.R_drewN | apply Kd.R_drew)); exact HO_7.out))) (Kd.R_lt (by (with_reducible repeat (first | apply Kd.R_alloc | apply Kd.R_drewN | apply Kd.R_drew)); exact HO212.out))) (below_size (by repeat (first | (with_reducible first | exact HB.out | apply below_alloc | apply pw_below_drewN | apply below_drew1) | exact HB.out)))); have n4_ := Aside0.mk (below_step (by repeat (first | (with_reducible first | exact HB.out | apply below_alloc | apply pw_below_drewN | apply below_drew1) | exact HB.out)) hb); clear HO_6; clear HO_7; clear HO212; clear HB; have HO_6 := n0_; have HO_7 := n1_; have HO212 := n2_; have HO216 := n3_; have HB := n4_; clear n0_ n1_ n2_ n3_ n4_; clear hb ho18; obtain ⟨Ao19, co19, eo19⟩ := Kd.R_slice HO212.out; subst eo19; obtain ⟨Ao20, co20, eo20⟩ := Kd.R_slice HO216.out; subst eo20) | ((with_reducible refine gate_callee (f := 41) rfl ?_); refine goesL_ (some 30) rfl rfl Tryz.func41 (by kernel_rfl) rfl #[.slice Ao19 t210.length co19, .slice Ao20 y214.length co20] rfl (by (try simp only [List.map_toArray, List.map_cons, List.map_nil]); first | done | rfl | (simp only [List.length_drop, List.length_take]; rfl)) ?_; (with_reducible refine (spec_sum.calls k1 _ _ t210 _ _ y214 t217 _ ?side1 ?side2 ?side3 ?side4 A16.out).mono ?_); (case side1 => repeat (first | exact (Kd.R_reads' HO212.out).2.2 | (with_reducible refine Kd.C_alloc ?_ _) | (with_reducible refine Kd.C_drewN ?_ _) | (with_reducible refine Kd.C_drew ?_))); (case side2 => exact (Kd.R_reads' HO212.out).2.1); (case side3 => repeat (first | exact (Kd.R_reads' HO216.out).2.2 | (with_reducible refine Kd.C_alloc ?_ _) | (with_reducible refine Kd.C_drewN ?_ _) | (with_reducible refine Kd.C_drew ?_))); (case side4 => exact (Kd.R_reads' HO216.out).2.1); rintro e w21 ⟨v218, rfl, ho0, hb⟩; refine ⟨_, rfl, ?_⟩; have n0_ := Aside0.mk (Kd.R_elder' (by (with_reducible repeat (first | apply Kd.R_alloc | apply Kd.R_drewN | apply Kd.R_drew)); exact HO_6.out) (Kd.R_base ho0) hb); have n1_ := Aside0.mk (Kd.R_elder' (by (with_reducible repeat (first | apply Kd.R_alloc | apply Kd.R_drewN | apply Kd.R_drew)); exact HO_7.out) (Kd.R_base ho0) hb); have n2_ := Aside0.mk (Kd.R_elder' (by (with_reducible repeat (first | apply Kd.R_alloc | apply Kd.R_drewN | apply Kd.R_drew)); exact HO212.out) (Kd.R_base ho0) hb); have n3_ := Aside0.mk (Kd.R_elder' (by (with_reducible repeat (first | apply Kd.R_alloc | apply Kd.R_drewN | apply Kd.R_drew)); exact HO216.out) (Kd.R_base ho0) hb); have n4_ := Aside0.mk (Kd.R_lower (Kd.R_new' (Kd.R_new' (Kd.R_new' (Kd.R_new' ho0 (Kd.R_lt (by (with_reducible repeat (first | apply Kd.R_alloc | apply Kd.R_drewN | apply Kd.R_drew)); exact HO_6.out))) (Kd.R_lt (by (with_reducible repeat (first | apply Kd.R_alloc | apply Kd.R_drewN | apply Kd.R_drew)); exact HO_7.out))) (Kd.R_lt (by (with_reducible repeat (first | apply Kd.R_alloc | apply Kd.R_drewN | apply Kd.R_drew)); exact HO212.out))) (Kd.R_lt (by (with_reducible repeat (first | apply Kd.R_alloc | apply Kd.R_drewN | apply Kd.R_drew)); exact HO216.out))) (below_size (by repeat (first | (with_reducible first | exact HB.out | apply below_alloc | apply pw_below_drewN | apply below_drew1) | exact HB.out)))); have n5_ := Aside0.mk (below_step (by repeat (first | (with_reducible first | exact HB.out | apply below_alloc | apply pw_below_drewN | apply below_drew1) | exact HB.out)) hb); clear HO_6; clear HO_7; clear HO212; clear HO216; clear HB; have HO_6 := n0_; have HO_7 := n1_; have HO212 := n2_; have HO216 := n3_; have HO219 := n4_; have HB := n5_; clear n0_ n1_ n2_ n3_ n4_ n5_; (try clear hb); (try clear hb2); (try clear hk); (try clear hi); (try clear ho0)))
                go_meet
                case rel => exact ⟨_, (t217), H', ⟨by have := HK1.out; first | omega | exact Nat.le_refl _⟩, ⟨by (with_reducible repeat (first | apply Kd.R_alloc | apply Kd.R_drewN | apply Kd.R_drew)); exact Kd.R_mono HO_6.out (fun _ hk => hk.2)⟩, ⟨by (with_reducible repeat (first | apply Kd.R_alloc | apply Kd.R_drewN | apply Kd.R_drew)); exact Kd.R_mono HO219.out (fun _ hk => hk.1.1.1.2)⟩, ⟨by repeat (first | (with_reducible first | exact HB.out | apply below_alloc | apply pw_below_drewN | apply below_drew1) | exact HB.out)⟩⟩
              · rw [if_neg c15] at H
                have c15b0 : (t213 == 1) = false := beq_eq_false_iff_ne.mpr c15
                have c15b1 : (t213 != 1) = true := bne_iff_ne.mpr c15
                (first | rw [c15b0] | (simp only [i64_w, i32_w]; rw [c15b0]) | skip)
                have H' := Aside0.mk H
                clear H
                go_wp2
                go_meet
                case rel => exact ⟨_, (t210), H', ⟨by have := HK1.out; first | omega | exact Nat.le_refl _⟩, ⟨by (with_reducible repeat (first | apply Kd.R_alloc | apply Kd.R_drewN | apply Kd.R_drew)); exact Kd.R_mono HO_6.out (fun _ hk => hk.2)⟩, ⟨by (with_reducible repeat (first | apply Kd.R_alloc | apply Kd.R_drewN | apply Kd.R_drew)); exact Kd.R_mono HO212.out (fun _ hk => hk.1.2)⟩, ⟨by repeat (first | (with_reducible first | exact HB.out | apply below_alloc | apply pw_below_drewN | apply below_drew1) | exact HB.out)⟩⟩
            case rest =>
              clear HC12
              try clear c1
              try clear p2
              try clear c3
              try clear c3b0
              try clear c3b1
              try clear c4
              try clear c4b0
              try clear c4b1
              try clear p6
              try clear c9
              try clear c9b0
              try clear c15
              try clear c15b0
              try clear c15b1
              try clear p2
              try clear p6
              obtain ⟨kq, x7_11, HA, HJ11, HO_6, HO_7, HB⟩ := hcut
              cases kq with
              | zero => exact absurd HA.out (by simp [spec_split.j1])
              | succ kj11 =>
                have H := HA.out
                clear HA
                simp only [spec_split.j1] at H
                replace H := Option.bind_eq_some_iff.mp H
                obtain ⟨t220, A220, H⟩ := H
                replace H : (if t220 ≥ 0 then ((spec_less.f kj11 x7_11 l1).bind fun t221 => (if 0 ≤ (wrap64 ((wrap64 ((l0.length : Int) - 1)) - (wrap64 (Int.tdiv x8_1 8)))) then (if (wrap64 ((wrap64 ((l0.length : Int) - 1)) - (wrap64 (Int.tdiv x8_1 8)))) < (x6_1.length : Int) then (if 0 ≤ (IntKind.u64.wrap (Int.tmod x8_1 8)) then (spec_split.l0 kj11 l0 l1 (x6_1.set ((wrap64 ((wrap64 ((l0.length : Int) - 1)) - (wrap64 (Int.tdiv x8_1 8)))) : Int).toNat (Go.bits .or .u8 (rd x6_1 (wrap64 ((wrap64 ((l0.length : Int) - 1)) - (wrap64 (Int.tdiv x8_1 8))))) (shl .u8 1 (IntKind.u64.wrap (Int.tmod x8_1 8))))) t221 (wrap64 (x8_1 - 1))) else (none)) else (none)) else (none))) else (spec_split.l0 kj11 l0 l1 x6_1 x7_11 (wrap64 (x8_1 - 1)))) = some (r1, r2) := H
                have A22 := Aside0.mk A220
                clear A220
                by_cases c23 : t220 ≥ 0
                · rw [if_pos c23] at H
                  have c23b0 : decide (0 ≤ t220) = true := decide_eq_true c23
                  clear c23
                  replace H := Option.bind_eq_some_iff.mp H
                  obtain ⟨t221, A240, H⟩ := H
                  replace H : (if 0 ≤ (wrap64 ((wrap64 ((l0.length : Int) - 1)) - (wrap64 (Int.tdiv x8_1 8)))) then (if (wrap64 ((wrap64 ((l0.length : Int) - 1)) - (wrap64 (Int.tdiv x8_1 8)))) < (x6_1.length : Int) then (if 0 ≤ (IntKind.u64.wrap (Int.tmod x8_1 8)) then (spec_split.l0 kj11 l0 l1 (x6_1.set ((wrap64 ((wrap64 ((l0.length : Int) - 1)) - (wrap64 (Int.tdiv x8_1 8)))) : Int).toNat (Go.bits .or .u8 (rd x6_1 (wrap64 ((wrap64 ((l0.length : Int) - 1)) - (wrap64 (Int.tdiv x8_1 8))))) (shl .u8 1 (IntKind.u64.wrap (Int.tmod x8_1 8))))) t221 (wrap64 (x8_1 - 1))) else (none)) else (none)) else (none)) = some (r1, r2) := H
                  have A24 := Aside0.mk A240
                  clear A240
                  obtain ⟨ji25, hji25⟩ : ∃ j_ : Int, (wrap64 ((wrap64 ((l0.length : Int) - 1)) - (wrap64 (Int.tdiv x8_1 8)))) = j_ := ⟨_, rfl⟩
                  replace H : (if 0 ≤ (ji25) then (if (ji25) < (x6_1.length : Int) then (if 0 ≤ (IntKind.u64.wrap (Int.tmod x8_1 8)) then (spec_split.l0 kj11 l0 l1 (x6_1.set ((ji25) : Int).toNat (Go.bits .or .u8 (rd x6_1 (ji25)) (shl .u8 1 (IntKind.u64.wrap (Int.tmod x8_1 8))))) t221 (wrap64 (x8_1 - 1))) else (none)) else (none)) else (none)) = some (r1, r2) := by first | (rw [hji25] at H; exact H) | (simp only [hji25] at H ⊢; exact H)
                  (try rw [hji25] at A22)
                  (try rw [hji25] at A24)
                  have hji25w : (IntKind.i64.wrap ((wrap64 ((l0.length : Int) - 1)) - (wrap64 (Int.tdiv x8_1 8)))) = ji25 := (i64_w _).trans hji25
                  by_cases c26 : 0 ≤ (ji25)
                  · rw [if_pos c26] at H
                    have c26b0 : decide (0 ≤ (ji25)) = true := decide_eq_true c26
                    clear c26
                    by_cases c27 : (ji25) < (x6_1.length : Int)
                    · rw [if_pos c27] at H
                      have c27b0 : decide ((ji25) < (x6_1.length : Int)) = true := decide_eq_true c27
                      clear c27
                      obtain ⟨ji28, hji28⟩ : ∃ j_ : Int, (IntKind.u64.wrap (Int.tmod x8_1 8)) = j_ := ⟨_, rfl⟩
                      replace H : (if 0 ≤ (ji28) then (spec_split.l0 kj11 l0 l1 (x6_1.set ((ji25) : Int).toNat (Go.bits .or .u8 (rd x6_1 (ji25)) (shl .u8 1 (ji28)))) t221 (wrap64 (x8_1 - 1))) else (none)) = some (r1, r2) := by first | (rw [hji28] at H; exact H) | (simp only [hji28] at H ⊢; exact H)
                      (try rw [hji28] at A22)
                      (try rw [hji28] at A24)
                      by_cases c29 : 0 ≤ (ji28)
                      · rw [if_pos c29] at H
                        have c29b0 := eq_true c29
                        have c29b1 : decide (0 ≤ (ji28)) = true := decide_eq_true c29
                        clear c29
                        obtain ⟨ji30, hji30⟩ : ∃ j_ : Int, (shl .u8 1 (ji28)) = j_ := ⟨_, rfl⟩
                        replace H : (spec_split.l0 kj11 l0 l1 (x6_1.set ((ji25) : Int).toNat (Go.bits .or .u8 (rd x6_1 (ji25)) (ji30))) t221 (wrap64 (x8_1 - 1))) = some (r1, r2) := by first | (rw [hji30] at H; exact H) | (simp only [hji30] at H ⊢; exact H)
                        (try rw [hji30] at A22)
                        (try rw [hji30] at A24)
                        have hji30_ : (IntKind.u8.wrap (1 * 2 ^ min (ji28).toNat 8)) = ji30 := hji30
                        have hji30z : (ji28) ≤ 8 → (IntKind.u8.wrap (1 * 2 ^ (ji28).toNat)) = ji30 := shl_small hji30
                        have hji30u : (IntKind.u8.wrap (2 ^ min (ji28).toNat 8)) = ji30 := by have h_ := hji30_; rw [Int.one_mul] at h_; exact h_
                        have hji30v : (ji28) ≤ 8 → (IntKind.u8.wrap (2 ^ (ji28).toNat)) = ji30 := fun hle_ => by have h_ := hji30z hle_; rw [Int.one_mul] at h_; exact h_
                        obtain ⟨y225, hy225⟩ : ∃ y_ : List Int, y_ = (x6_1.set ((ji25) : Int).toNat (Go.bits .or .u8 (rd x6_1 (ji25)) (ji30))) := ⟨_, rfl⟩
                        replace H : (spec_split.l0 kj11 l0 l1 y225 t221 (wrap64 (x8_1 - 1))) = some (r1, r2) := by first | (rw [hy225]; with_reducible exact H) | (have H2_ := (Option.bind_some _ _).symm.trans H; rw [hy225]; with_reducible exact H2_) | (have H2_ := (Option.bind_some _ _).symm.trans H; with_reducible exact H2_) | with_reducible exact H | (rw [hy225]; exact H) | exact H
                        have Ny225 := Aside0.mk hy225
                        clear hy225
                        have H' := Aside0.mk H
                        clear H
                        obtain ⟨Ao32, co32, eo32⟩ := Kd.R_slice HO_7.out
                        subst eo32
                        go_wp2_with (first | ((with_reducible refine gate_callee (f := 39) rfl ?_); refine goesL_ (some 33) rfl rfl Tryz.func39 (by kernel_rfl) rfl #[.slice Ao32 x7_11.length co32, .slice A1 l1.length c1] rfl (by (try simp only [List.map_toArray, List.map_cons, List.map_nil]); first | done | rfl | (simp only [List.length_drop, List.length_take]; rfl)) ?_; (with_reducible refine (spec_order.calls kj11 _ _ x7_11 _ _ l1 t220 _ ?side1 ?side2 ?side3 ?side4 A22.out).mono ?_); (case side1 => repeat (first | exact (Kd.R_reads' HO_7.out).2.2 | (with_reducible refine Kd.C_alloc ?_ _) | (with_reducible refine Kd.C_drewN ?_ _) | (with_reducible refine Kd.C_drew ?_))); (case side2 => exact (Kd.R_reads' HO_7.out).2.1); (case side3 => repeat (first | exact (Kd.C_below HR1.out HB.out) | (with_reducible refine Kd.C_alloc ?_ _) | (with_reducible refine Kd.C_drewN ?_ _) | (with_reducible refine Kd.C_drew ?_))); (case side4 => exact HC1.out); rintro e w' ⟨rfl, ⟨nd, rfl⟩⟩; refine ⟨_, rfl, ?_⟩; (try (rw [drewN_self wc]; generalize hq_ : World.drewN wc _ = wc; have n0_ : Aside0 (Kd.R (Kd.int .u8) 5 wc w.heap.size (fun k_ => some k_ ≠ (.slice Ao32 x7_11.length co32 : Value).ownBlock) v202 x6_1) := ⟨by rw [← hq_]; exact (by (with_reducible repeat (first | apply Kd.R_alloc | apply Kd.R_drewN | apply Kd.R_drew)); exact HO_6.out)⟩; have n1_ : Aside0 (Kd.R (Kd.int .u8) 5 wc w.heap.size (fun k_ => some k_ ≠ (v202 : Value).ownBlock) (.slice Ao32 x7_11.length co32) x7_11) := ⟨by rw [← hq_]; exact (by (with_reducible repeat (first | apply Kd.R_alloc | apply Kd.R_drewN | apply Kd.R_drew)); exact HO_7.out)⟩; have n2_ : Aside0 (Below w.heap.size w wc) := ⟨by rw [← hq_]; exact (by repeat (first | (with_reducible first | exact HB.out | apply below_alloc | apply pw_below_drewN | apply below_drew1) | exact HB.out))⟩; clear HO_6 HO_7 HB hq_; have HO_6 := n0_; have HO_7 := n1_; have HB := n2_; clear n0_ n1_ n2_))) | ((with_reducible refine gate_callee (f := 42) rfl ?_); refine goesL_ (some 37) rfl rfl Tryz.func42 (by kernel_rfl) rfl #[.slice Ao32 x7_11.length co32, .slice A1 l1.length c1] rfl (by (try simp only [List.map_toArray, List.map_cons, List.map_nil]); first | done | rfl | (simp only [List.length_drop, List.length_take]; rfl)) ?_; (with_reducible refine (spec_less.calls kj11 _ _ x7_11 _ _ l1 t221 _ ?side1 ?side2 ?side3 ?side4 A24.out).mono ?_); (case side1 => repeat (first | exact (Kd.R_reads' HO_7.out).2.2 | (with_reducible refine Kd.C_alloc ?_ _) | (with_reducible refine Kd.C_drewN ?_ _) | (with_reducible refine Kd.C_drew ?_))); (case side2 => exact (Kd.R_reads' HO_7.out).2.1); (case side3 => repeat (first | exact (Kd.C_below HR1.out HB.out) | (with_reducible refine Kd.C_alloc ?_ _) | (with_reducible refine Kd.C_drewN ?_ _) | (with_reducible refine Kd.C_drew ?_))); (case side4 => exact HC1.out); rintro e w33 ⟨v222, rfl, ho0, hb⟩; refine ⟨_, rfl, ?_⟩; have n0_ := Aside0.mk (Kd.R_elder' (by (with_reducible repeat (first | apply Kd.R_alloc | apply Kd.R_drewN | apply Kd.R_drew)); exact HO_6.out) (Kd.R_base ho0) hb); have n1_ := Aside0.mk (Kd.R_elder' (by (with_reducible repeat (first | apply Kd.R_alloc | apply Kd.R_drewN | apply Kd.R_drew)); exact HO_7.out) (Kd.R_base ho0) hb); have n2_ := Aside0.mk (Kd.R_lower (Kd.R_new' (Kd.R_new' ho0 (Kd.R_lt (by (with_reducible repeat (first | apply Kd.R_alloc | apply Kd.R_drewN | apply Kd.R_drew)); exact HO_6.out))) (Kd.R_lt (by (with_reducible repeat (first | apply Kd.R_alloc | apply Kd.R_drewN | apply Kd.R_drew)); exact HO_7.out))) (below_size (by repeat (first | (with_reducible first | exact HB.out | apply below_alloc | apply pw_below_drewN | apply below_drew1) | exact HB.out)))); have n3_ := Aside0.mk (below_step (by repeat (first | (with_reducible first | exact HB.out | apply below_alloc | apply pw_below_drewN | apply below_drew1) | exact HB.out)) hb); clear HO_6; clear HO_7; clear HB; have HO_6 := n0_; have HO_7 := n1_; have HO223 := n2_; have HB := n3_; clear n0_ n1_ n2_ n3_; (try clear hb); (try clear hb2); (try clear hk); (try clear hi); (try clear ho0); obtain ⟨Ao34, co34, eo34⟩ := Kd.R_slice HO_6.out; subst eo34; have p224 : 0 ≤ ((ji25) : Int) := of_decide_eq_true (by first | (with_reducible assumption) | assumption); have q224 : (ji25) < (x6_1.length : Int) := of_decide_eq_true (by first | (with_reducible assumption) | assumption); obtain ⟨ad224, e224, hx224_0⟩ := Kd.at_int (Kd.R_reads' HO_6.out).2.2 (ji25) p224 q224; cases e224; replace p224 := eq_true p224; replace q224 := eq_true q224; have p31 : 0 ≤ ((ji25) : Int) := of_decide_eq_true (by first | (with_reducible assumption) | assumption); have q31 : ((ji25) : Int) < ((x6_1.length : Int) : Int) := of_decide_eq_true (by first | (with_reducible assumption) | assumption); obtain ⟨go31, co31, eo31, gb31, gl31, cl31, HG31⟩ := Kd.R_form HO_6.out (by omega); (first | cases eo31 | (injection eo31 with ea_ en_ ec_; (first | subst ea_ | (injection ea_ with ea_; subst ea_)); subst ec_; clear en_)); have GB31 := Aside0.mk gb31; have GG31 := Aside0.mk HG31; clear gb31 gl31 HG31; (first | simp only [add_plain] at hx224_0 | skip); obtain ⟨hx31_0, hf31_0⟩ := Kd.R_celln 0 HO_6.out ((ji25) : Int) p31 q31; replace p31 := eq_true p31; replace q31 := eq_true q31; obtain ⟨hy35_, hz35_⟩ := Kd.R_celln 0 HO_6.out ((ji25) : Int) (of_decide_eq_true (by first | (with_reducible assumption) | assumption)) (of_decide_eq_true (by first | (with_reducible assumption) | assumption)); have HP35 := Kd.R_putg HO_6.out ((ji25) : Int) (Go.bits .or .u8 (rd x6_1 (ji25)) (ji30))) | ((with_reducible refine gate_store (t := 5) (p := 52) rfl ?_); refine store_event (t := 5) (p := 52) (v := ?vo_w36) (w1 := (w33.setCell ⟨go31, ((ji25) : Int).toNat, none⟩ (.int .u8 (Go.bits .or .u8 (rd x6_1 (ji25)) (ji30))))) ?hg ?ho ?hn ?hr ?_; (case ho => rfl); (case hg => rfl); (case hn => rfl); (case hr => first | (go_simp; done) | (go_simp; rfl)); intro w36 hw; have hg : w33.grownBy w36 (some go31) := (by rw [hw]; exact HP35.2); have hp_ : Kd.R (Kd.int .u8) 5 w36 w.heap.size (fun k_ => some k_ ≠ (.slice Ao32 x7_11.length co32 : Value).ownBlock ∧ some k_ ≠ (v222 : Value).ownBlock) (.slice (some ⟨go31, 0, none⟩) x6_1.length co34) y225 := (by rw [hw, Ny225.out]; exact HP35.1); clear HP35; have n0_ := Aside0.mk (hp_); have n1_ := Aside0.mk (Kd.R_after (v := (.slice (some ⟨go31, 0, none⟩) x6_1.length co34)) (v1 := (.slice (some ⟨go31, 0, none⟩) x6_1.length co34)) (ok := (fun k_ => some k_ ≠ (v222 : Value).ownBlock)) (by (with_reducible repeat (first | apply Kd.R_alloc | apply Kd.R_drewN | apply Kd.R_drew)); exact Kd.R_mono HO_7.out (fun _ hk => ⟨hk.2, hk.1⟩)) hg (.inl rfl)); have n2_ := Aside0.mk (Kd.R_after (v := (.slice (some ⟨go31, 0, none⟩) x6_1.length co34)) (v1 := (.slice (some ⟨go31, 0, none⟩) x6_1.length co34)) (ok := (fun k_ => some k_ ≠ (.slice Ao32 x7_11.length co32 : Value).ownBlock)) (by (with_reducible repeat (first | apply Kd.R_alloc | apply Kd.R_drewN | apply Kd.R_drew)); exact Kd.R_mono HO223.out (fun _ hk => ⟨hk.2, hk.1.2⟩)) hg (.inl rfl)); have n3_ := Aside0.mk ((by rw [hw]; exact below_set (HB.out) GB31.out : Below w.heap.size w w36)); clear HO_6; clear HO_7; clear HO223; clear HB; have HO_6 := n0_; have HO_7 := n1_; have HO223 := n2_; have HB := n3_; clear n0_ n1_ n2_ n3_; clear hg hw hp_))
                        go_roundg kj11
                        case measure => have := HK1.out; have := HJ11.out; omega
                        case rel => exact ⟨(y225), (t221), (wrap64 (x8_1 - 1)), (by first | rfl | (simp; done) | (simp [*]; done)), H', ⟨by have := HK1.out; have := HJ11.out; omega⟩, ⟨by (with_reducible repeat (first | apply Kd.R_alloc | apply Kd.R_drewN | apply Kd.R_drew)); exact Kd.R_mono HO_6.out (fun _ hk => hk.2)⟩, ⟨by (with_reducible repeat (first | apply Kd.R_alloc | apply Kd.R_drewN | apply Kd.R_drew)); exact Kd.R_mono HO223.out (fun _ hk => hk.2)⟩, ⟨by repeat (first | (with_reducible first | exact HB.out | apply below_alloc | apply pw_below_drewN | apply below_drew1) | exact HB.out)⟩⟩
                      · rw [if_neg c29] at H
                        exact absurd H (by simp)
                    · rw [if_neg c27] at H
                      exact absurd H (by simp)
                  · rw [if_neg c26] at H
                    exact absurd H (by simp)
                · rw [if_neg c23] at H
                  have c23b0 : decide (0 ≤ t220) = false := decide_eq_false c23
                  clear c23
                  have H' := Aside0.mk H
                  clear H
                  obtain ⟨Ao37, co37, eo37⟩ := Kd.R_slice HO_7.out
                  subst eo37
                  go_wp2_with (first | ((with_reducible refine gate_callee (f := 39) rfl ?_); refine goesL_ (some 33) rfl rfl Tryz.func39 (by kernel_rfl) rfl #[.slice Ao37 x7_11.length co37, .slice A1 l1.length c1] rfl (by (try simp only [List.map_toArray, List.map_cons, List.map_nil]); first | done | rfl | (simp only [List.length_drop, List.length_take]; rfl)) ?_; (with_reducible refine (spec_order.calls kj11 _ _ x7_11 _ _ l1 t220 _ ?side1 ?side2 ?side3 ?side4 A22.out).mono ?_); (case side1 => repeat (first | exact (Kd.R_reads' HO_7.out).2.2 | (with_reducible refine Kd.C_alloc ?_ _) | (with_reducible refine Kd.C_drewN ?_ _) | (with_reducible refine Kd.C_drew ?_))); (case side2 => exact (Kd.R_reads' HO_7.out).2.1); (case side3 => repeat (first | exact (Kd.C_below HR1.out HB.out) | (with_reducible refine Kd.C_alloc ?_ _) | (with_reducible refine Kd.C_drewN ?_ _) | (with_reducible refine Kd.C_drew ?_))); (case side4 => exact HC1.out); rintro e w' ⟨rfl, ⟨nd, rfl⟩⟩; refine ⟨_, rfl, ?_⟩))
                  go_roundg kj11
                  case measure => have := HK1.out; have := HJ11.out; omega
                  case rel => exact ⟨(x6_1), (x7_11), (wrap64 (x8_1 - 1)), (by first | rfl | (simp; done) | (simp [*]; done)), H', ⟨by have := HK1.out; have := HJ11.out; omega⟩, ⟨by (with_reducible repeat (first | apply Kd.R_alloc | apply Kd.R_drewN | apply Kd.R_drew)); exact HO_6.out⟩, ⟨by (with_reducible repeat (first | apply Kd.R_alloc | apply Kd.R_drewN | apply Kd.R_drew)); exact HO_7.out⟩, ⟨by repeat (first | (with_reducible first | exact HB.out | apply below_alloc | apply pw_below_drewN | apply below_drew1) | exact HB.out)⟩⟩
          · rw [if_neg c9] at H
            have c9b0 : decide (0 ≤ x8_1) = false := decide_eq_false c9
            clear c9
            replace H := Option.bind_eq_some_iff.mp H
            obtain ⟨t207, A380, H⟩ := H
            replace H : (some (t207, x7_1)) = some (r1, r2) := H
            have A38 := Aside0.mk A380
            clear A380
            simp only [Option.some.injEq, Prod.mk.injEq] at H
            obtain ⟨rfl, rfl⟩ := H
            obtain ⟨Ao39, co39, eo39⟩ := Kd.R_slice HO_6.out
            subst eo39
            go_wp2_with (first | ((with_reducible refine gate_callee (f := 33) rfl ?_); refine goesL_ (some 54) rfl rfl Tryz.func33 (by kernel_rfl) rfl #[.slice Ao39 x6_1.length co39] rfl (by (try simp only [List.map_toArray, List.map_cons, List.map_nil]); first | done | rfl | (simp only [List.length_drop, List.length_take]; rfl)) ?_; (with_reducible refine (spec_cut.calls k1 _ _ x6_1 t207 _ ?side1 ?side2 A38.out).mono ?_); (case side1 => repeat (first | exact (Kd.R_reads' HO_6.out).2.2 | (with_reducible refine Kd.C_alloc ?_ _) | (with_reducible refine Kd.C_drewN ?_ _) | (with_reducible refine Kd.C_drew ?_))); (case side2 => exact (Kd.R_reads' HO_6.out).2.1); rintro e w40 ⟨v208, rfl, ho0, hb⟩; refine ⟨_, rfl, ?_⟩; have n0_ := Aside0.mk (Kd.R_elder' HO_6.out (Kd.R_base ho0) hb); have n1_ := Aside0.mk (Kd.R_elder' HO_7.out (Kd.R_base ho0) hb); have n2_ := Aside0.mk (Kd.R_lower (Kd.R_new' (Kd.R_new' ho0 (Kd.R_lt HO_6.out)) (Kd.R_lt HO_7.out)) (below_size HB.out)); have n3_ := Aside0.mk (below_step HB.out hb); clear HO_6; clear HO_7; clear HB; have HO_6 := n0_; have HO_7 := n1_; have HO209 := n2_; have HB := n3_; clear n0_ n1_ n2_ n3_; (try clear hb); (try clear hb2); (try clear hk); (try clear hi); (try clear ho0)))
            go_ret2
            exact ⟨_, _, by first | rfl | (simp [errW_none, errW_some] <;> rfl) | (simp [*, errW_none, errW_some] <;> rfl), by (with_reducible repeat (first | apply Kd.R_alloc | apply Kd.R_drewN | apply Kd.R_drew)); exact Kd.R_mono HO209.out (fun _ hk => hk.2), by (with_reducible repeat (first | apply Kd.R_alloc | apply Kd.R_drewN | apply Kd.R_drew)); exact Kd.R_mono HO_7.out (fun _ hk => hk.2), by repeat (first | (with_reducible first | exact HB.out | apply below_alloc | apply pw_below_drewN | apply below_drew1) | exact HB.out)⟩
    · rw [if_neg c4] at H
      exact absurd H (by simp)
  · rw [if_neg c3] at H
    exact absurd H (by simp)


end Go.Proofs.YtodipcgilgigbaaGreatDoor.I
