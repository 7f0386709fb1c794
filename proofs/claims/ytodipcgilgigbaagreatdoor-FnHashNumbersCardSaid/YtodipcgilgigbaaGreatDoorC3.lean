/- Contracts of this claim's functions: each call gives what the plain mirror (in the text D) gives; the proofs are the kit's print, over D's definitions. -/
import Derived.Test.YtodipcgilgigbaaGreatDoorC2
namespace Go.Proofs.YtodipcgilgigbaaGreatDoor.I
open Go.RowKit Go.Proofs.YtodipcgilgigbaaGreatDoorW.PrintWords Go.Proofs.YtodipcgilgigbaaGreatDoorW.PrintLast Go.Proofs.YtodipcgilgigbaaGreatDoorW.PrintMore
attribute [local go_sem] max2_int min2_int max_two min_two max_three min_three max_four min_four
set_option linter.unusedVariables false
set_option linter.unusedSimpArgs false

/-! ### spec_Int_Mul: function 37 -/
theorem spec_Int_Mul.mono_l : ∀ k, (∀ y0 y1 y2 y3 y4 y5 y6, LeO (spec_Int_Mul.l0 k y0 y1 y2 y3 y4 y5 y6) (spec_Int_Mul.l0 (k + 1) y0 y1 y2 y3 y4 y5 y6)) ∧ (∀ y0 y1 y2 y3 y4 y5 y6 y7 y8, LeO (spec_Int_Mul.l1 k y0 y1 y2 y3 y4 y5 y6 y7 y8) (spec_Int_Mul.l1 (k + 1) y0 y1 y2 y3 y4 y5 y6 y7 y8)) ∧ (∀ y0 y1 y2 y3 y4 y5 y6 y7 y8 y9, LeO (spec_Int_Mul.j2 k y0 y1 y2 y3 y4 y5 y6 y7 y8 y9) (spec_Int_Mul.j2 (k + 1) y0 y1 y2 y3 y4 y5 y6 y7 y8 y9)) ∧ (∀ y0 y1 y2 y3 y4 y5 y6 y7, LeO (spec_Int_Mul.l2 k y0 y1 y2 y3 y4 y5 y6 y7) (spec_Int_Mul.l2 (k + 1) y0 y1 y2 y3 y4 y5 y6 y7))
  | 0 => ⟨fun _ _ _ _ _ _ _ r h => by simp [spec_Int_Mul.l0] at h, fun _ _ _ _ _ _ _ _ _ r h => by simp [spec_Int_Mul.l1] at h, fun _ _ _ _ _ _ _ _ _ _ r h => by simp [spec_Int_Mul.j2] at h, fun _ _ _ _ _ _ _ _ r h => by simp [spec_Int_Mul.l2] at h⟩
  | k + 1 => by
    obtain ⟨ih0, ih1, ih2, ih3⟩ := spec_Int_Mul.mono_l k
    refine ⟨?_, ?_, ?_, ?_⟩
    · intro y0 y1 y2 y3 y4 y5 y6
      unfold spec_Int_Mul.l0
      repeat' first
      | (with_reducible exact ih0 _ _ _ _ _ _ _)
      | (with_reducible exact ih1 _ _ _ _ _ _ _ _ _)
      | (with_reducible exact ih2 _ _ _ _ _ _ _ _ _ _)
      | (with_reducible exact ih3 _ _ _ _ _ _ _ _)
      | (with_reducible exact spec_Of.mono _ _ _)
      | (with_reducible exact LeO.refl _)
      | (with_reducible exact LeO.none _)
      | (with_reducible refine LeO.ite ?_ ?_)
      | (with_reducible refine LeO.bind ?_ (fun _ => ?_))
      | exact ih0 _ _ _ _ _ _ _
      | exact ih1 _ _ _ _ _ _ _ _ _
      | exact ih2 _ _ _ _ _ _ _ _ _ _
      | exact ih3 _ _ _ _ _ _ _ _
      | exact spec_Of.mono _ _ _
      | exact LeO.none _
      | refine LeO.ite ?_ ?_
      | refine LeO.bind ?_ (fun _ => ?_)
    · intro y0 y1 y2 y3 y4 y5 y6 y7 y8
      unfold spec_Int_Mul.l1
      repeat' first
      | (with_reducible exact ih0 _ _ _ _ _ _ _)
      | (with_reducible exact ih1 _ _ _ _ _ _ _ _ _)
      | (with_reducible exact ih2 _ _ _ _ _ _ _ _ _ _)
      | (with_reducible exact ih3 _ _ _ _ _ _ _ _)
      | (with_reducible exact spec_Of.mono _ _ _)
      | (with_reducible exact LeO.refl _)
      | (with_reducible exact LeO.none _)
      | (with_reducible refine LeO.ite ?_ ?_)
      | (with_reducible refine LeO.bind ?_ (fun _ => ?_))
      | exact ih0 _ _ _ _ _ _ _
      | exact ih1 _ _ _ _ _ _ _ _ _
      | exact ih2 _ _ _ _ _ _ _ _ _ _
      | exact ih3 _ _ _ _ _ _ _ _
      | exact spec_Of.mono _ _ _
      | exact LeO.none _
      | refine LeO.ite ?_ ?_
      | refine LeO.bind ?_ (fun _ => ?_)
    · intro y0 y1 y2 y3 y4 y5 y6 y7 y8 y9
      unfold spec_Int_Mul.j2
      repeat' first
      | (with_reducible exact ih0 _ _ _ _ _ _ _)
      | (with_reducible exact ih1 _ _ _ _ _ _ _ _ _)
      | (with_reducible exact ih2 _ _ _ _ _ _ _ _ _ _)
      | (with_reducible exact ih3 _ _ _ _ _ _ _ _)
      | (with_reducible exact spec_Of.mono _ _ _)
      | (with_reducible exact LeO.refl _)
      | (with_reducible exact LeO.none _)
      | (with_reducible refine LeO.ite ?_ ?_)
      | (with_reducible refine LeO.bind ?_ (fun _ => ?_))
      | exact ih0 _ _ _ _ _ _ _
      | exact ih1 _ _ _ _ _ _ _ _ _
      | exact ih2 _ _ _ _ _ _ _ _ _ _
      | exact ih3 _ _ _ _ _ _ _ _
      | exact spec_Of.mono _ _ _
      | exact LeO.none _
      | refine LeO.ite ?_ ?_
      | refine LeO.bind ?_ (fun _ => ?_)
    · intro y0 y1 y2 y3 y4 y5 y6 y7
      unfold spec_Int_Mul.l2
      repeat' first
      | (with_reducible exact ih0 _ _ _ _ _ _ _)
      | (with_reducible exact ih1 _ _ _ _ _ _ _ _ _)
      | (with_reducible exact ih2 _ _ _ _ _ _ _ _ _ _)
      | (with_reducible exact ih3 _ _ _ _ _ _ _ _)
      | (with_reducible exact spec_Of.mono _ _ _)
      | (with_reducible exact LeO.refl _)
      | (with_reducible exact LeO.none _)
      | (with_reducible refine LeO.ite ?_ ?_)
      | (with_reducible refine LeO.bind ?_ (fun _ => ?_))
      | exact ih0 _ _ _ _ _ _ _
      | exact ih1 _ _ _ _ _ _ _ _ _
      | exact ih2 _ _ _ _ _ _ _ _ _ _
      | exact ih3 _ _ _ _ _ _ _ _
      | exact spec_Of.mono _ _ _
      | exact LeO.none _
      | refine LeO.ite ?_ ?_
      | refine LeO.bind ?_ (fun _ => ?_)
theorem spec_Int_Mul.mono : ∀ a0 a1 a2 a3 k, LeO (spec_Int_Mul.f k a0 a1 a2 a3) (spec_Int_Mul.f (k + 1) a0 a1 a2 a3) := by
  intro a0 a1 a2 a3 k
  obtain ⟨ih0, ih1, ih2, ih3⟩ := spec_Int_Mul.mono_l k
  unfold spec_Int_Mul.f
  repeat' first
      | (with_reducible exact ih0 _ _ _ _ _ _ _)
      | (with_reducible exact ih1 _ _ _ _ _ _ _ _ _)
      | (with_reducible exact ih2 _ _ _ _ _ _ _ _ _ _)
      | (with_reducible exact ih3 _ _ _ _ _ _ _ _)
      | (with_reducible exact spec_Of.mono _ _ _)
      | (with_reducible exact LeO.refl _)
      | (with_reducible exact LeO.none _)
      | (with_reducible refine LeO.ite ?_ ?_)
      | (with_reducible refine LeO.bind ?_ (fun _ => ?_))
      | exact ih0 _ _ _ _ _ _ _
      | exact ih1 _ _ _ _ _ _ _ _ _
      | exact ih2 _ _ _ _ _ _ _ _ _ _
      | exact ih3 _ _ _ _ _ _ _ _
      | exact spec_Of.mono _ _ _
      | exact LeO.none _
      | refine LeO.ite ?_ ?_
      | refine LeO.bind ?_ (fun _ => ?_)
set_option maxHeartbeats 8000000 in
set_option maxRecDepth 100000 in
theorem spec_Int_Mul.calls (k : Nat) (a0_0 : Bool) (A0_1 : Option Addr) (c0_1 : Nat) (l0_1 : List Int) (a1_0 : Bool) (A1_1 : Option Addr) (c1_1 : Nat) (l1_1 : List Int) (r1 : Bool) (r2 : List Int) (w : World) (hr0_1 : Kd.C (Kd.int .u8) w A0_1 l0_1.length l0_1) (hc0_1 : l0_1.length ≤ c0_1) (hr1_1 : Kd.C (Kd.int .u8) w A1_1 l1_1.length l1_1) (hc1_1 : l1_1.length ≤ c1_1) (h : spec_Int_Mul.f k a0_0 l0_1 a1_0 l1_1 = some (r1, r2)) :
    Calls Tryz.prog 37 #[.agg #[.bool a0_0, .slice A0_1 l0_1.length c0_1], .agg #[.bool a1_0, .slice A1_1 l1_1.length c1_1]] w fun e w' => ∃ v1_ : Value, e = .returned (.agg #[.bool r1, v1_]) ∧ Kd.R (Kd.int .u8) 5 w' w.heap.size (fun _ => True) v1_ r2 ∧ Below w.heap.size w w' := by
  have hu24 := Tryz.underlying24
  have HR0_1 := Aside0.mk hr0_1
  have HC0_1 := Aside0.mk hc0_1
  clear hr0_1 hc0_1
  have HR1_1 := Aside0.mk hr1_1
  have HC1_1 := Aside0.mk hc1_1
  clear hr1_1 hc1_1
  have HB := Aside0.mk (Below.refl w.heap.size w)
  have H : (if 0 ≤ (wrap64 ((wrap64 ((l0_1.length : Int) + (l1_1.length : Int))) + 1)) then (if (wrap64 ((wrap64 ((l0_1.length : Int) + (l1_1.length : Int))) + 1) : Int).toNat ≤ 35184372088832 then (spec_Int_Mul.l0 k (wrap64 ((l0_1.length : Int) + (l1_1.length : Int))) (List.replicate (wrap64 ((wrap64 ((l0_1.length : Int) + (l1_1.length : Int))) + 1) : Int).toNat 0) 0 a0_0 l0_1 a1_0 l1_1) else (none)) else (none)) = some (r1, r2) := h
  clear h
  obtain ⟨ji3, hji3⟩ : ∃ j_ : Int, (wrap64 ((wrap64 ((l0_1.length : Int) + (l1_1.length : Int))) + 1)) = j_ := ⟨_, rfl⟩
  replace H : (if 0 ≤ (ji3) then (if (ji3 : Int).toNat ≤ 35184372088832 then (spec_Int_Mul.l0 k (wrap64 ((l0_1.length : Int) + (l1_1.length : Int))) (List.replicate (ji3 : Int).toNat 0) 0 a0_0 l0_1 a1_0 l1_1) else (none)) else (none)) = some (r1, r2) := by first | (rw [hji3] at H; exact H) | (simp only [hji3] at H ⊢; exact H)
  have hji3w : (IntKind.i64.wrap ((wrap64 ((l0_1.length : Int) + (l1_1.length : Int))) + 1)) = ji3 := (i64_w _).trans hji3
  by_cases c4 : 0 ≤ (ji3)
  · rw [if_pos c4] at H
    have c4b0 := eq_true c4
    have c4b1 : decide (0 ≤ (ji3)) = true := decide_eq_true c4
    clear c4
    by_cases c5 : (ji3 : Int).toNat ≤ 35184372088832
    · rw [if_pos c5] at H
      have c5b0 := eq_true c5
      have c5b1 : decide ((ji3 : Int).toNat ≤ 35184372088832) = true := decide_eq_true c5
      clear c5
      obtain ⟨y331, hy331⟩ : ∃ y_ : List Int, y_ = (List.replicate (ji3 : Int).toNat 0) := ⟨_, rfl⟩
      replace H : (spec_Int_Mul.l0 k (wrap64 ((l0_1.length : Int) + (l1_1.length : Int))) y331 0 a0_0 l0_1 a1_0 l1_1) = some (r1, r2) := by first | (rw [hy331]; with_reducible exact H) | (have H2_ := (Option.bind_some _ _).symm.trans H; rw [hy331]; with_reducible exact H2_) | (have H2_ := (Option.bind_some _ _).symm.trans H; with_reducible exact H2_) | with_reducible exact H | (rw [hy331]; exact H) | exact H
      have Ny331 := Aside0.mk hy331
      clear hy331
      have H' := Aside0.mk H
      clear H
      go_enter Tryz.func37, Tryz.ntmps37
      go_wp2_with (first | ((with_reducible refine gate_dst (N := 2) rfl ?_); refine box_event ?hg (N := 2) ?hd (cs := #[.bool a0_0, .slice A0_1 l0_1.length c0_1]) (t := 24) ?hr ?_; (case hd => rfl); (case hg => rfl); (case hr => first | (go_simp; done) | (go_simp; rfl)); intro gb328 hg w6 hbox hb; have n0_ := Aside0.mk (below_step HB.out hb); have n1_ := Aside0.mk (hbox); have n2_ := Aside0.mk ((by rw [hg]; exact (below_size HB.out) : w.heap.size ≤ gb328)); have n3_ := Aside0.mk ((by rw [hg]; exact (below_size HB.out) : w.heap.size ≤ gb328)); clear HB; have HB := n0_; have BK328 := n1_; have GW328 := n2_; have GE328 := n3_; clear n0_ n1_ n2_ n3_; clear hb hbox hg) | ((with_reducible refine gate_dst (N := 3) rfl ?_); refine box_event ?hg (N := 3) ?hd (cs := #[.bool a1_0, .slice A1_1 l1_1.length c1_1]) (t := 24) ?hr ?_; (case hd => rfl); (case hg => rfl); (case hr => first | (go_simp; done) | (go_simp; rfl)); intro gb329 hg w7 hbox hb; have n0_ := Aside0.mk (blk_below BK328.out hb); have n1_ := Aside0.mk (below_step HB.out hb); have n2_ := Aside0.mk (hbox); have n3_ := Aside0.mk ((by rw [hg]; exact (below_size HB.out) : w.heap.size ≤ gb329)); have n4_ := Aside0.mk ((by rw [hg]; exact (below_size HB.out) : w.heap.size ≤ gb329)); have n5_ := Aside0.mk ((by rw [hg]; exact Nat.ne_of_lt (blk_lt BK328.out) : gb328 ≠ gb329)); have n6_ := Aside0.mk ((by rw [hg]; exact Nat.ne_of_gt (blk_lt BK328.out) : gb329 ≠ gb328)); clear BK328; clear HB; have BK328 := n0_; have HB := n1_; have BK329 := n2_; have GW329 := n3_; have GE329 := n4_; have NB328_329 := n5_; have NB329_328 := n6_; clear n0_ n1_ n2_ n3_ n4_ n5_ n6_; clear hb hbox hg) | ((with_reducible refine gate_dst (N := 4) rfl ?_); refine box_event ?hg (N := 4) ?hd (cs := #[.bool false, .slice none 0 0]) (t := 24) ?hr ?_; (case hd => rfl); (case hg => rfl); (case hr => first | (go_simp; done) | (go_simp; rfl)); intro gb330 hg w8 hbox hb; have n0_ := Aside0.mk (blk_below BK328.out hb); have n1_ := Aside0.mk (blk_below BK329.out hb); have n2_ := Aside0.mk (below_step HB.out hb); have n3_ := Aside0.mk (hbox); have n4_ := Aside0.mk ((by rw [hg]; exact (below_size HB.out) : w.heap.size ≤ gb330)); have n5_ := Aside0.mk ((by rw [hg]; exact (below_size HB.out) : w.heap.size ≤ gb330)); have n6_ := Aside0.mk ((by rw [hg]; exact Nat.ne_of_lt (blk_lt BK328.out) : gb328 ≠ gb330)); have n7_ := Aside0.mk ((by rw [hg]; exact Nat.ne_of_gt (blk_lt BK328.out) : gb330 ≠ gb328)); have n8_ := Aside0.mk ((by rw [hg]; exact Nat.ne_of_lt (blk_lt BK329.out) : gb329 ≠ gb330)); have n9_ := Aside0.mk ((by rw [hg]; exact Nat.ne_of_gt (blk_lt BK329.out) : gb330 ≠ gb329)); clear BK328; clear BK329; clear HB; have BK328 := n0_; have BK329 := n1_; have HB := n2_; have BK330 := n3_; have GW330 := n4_; have GE330 := n5_; have NB328_330 := n6_; have NB330_328 := n7_; have NB329_330 := n8_; have NB330_329 := n9_; clear n0_ n1_ n2_ n3_ n4_ n5_ n6_ n7_ n8_ n9_; clear hb hbox hg; have hnb9 := NB328_329.out; have hnc9 := NB329_328.out; have hnb10 := NB328_330.out; have hnc10 := NB330_328.out; have hcz11_0 : w8.cell? ⟨gb328, 0, none⟩ = some (.bool a0_0) := (blk_cell BK328.out 0).trans rfl; have hcz11_1 : w8.cell? ⟨gb328, 1, none⟩ = some (.slice A0_1 l0_1.length c0_1) := (blk_cell BK328.out 1).trans rfl; have hfz11_0 := blk_frozen BK328.out 0; have hfz11_1 := blk_frozen BK328.out 1; have hnb12 := NB329_330.out; have hnc12 := NB330_329.out; have hcz13_0 : w8.cell? ⟨gb329, 0, none⟩ = some (.bool a1_0) := (blk_cell BK329.out 0).trans rfl; have hcz13_1 : w8.cell? ⟨gb329, 1, none⟩ = some (.slice A1_1 l1_1.length c1_1) := (blk_cell BK329.out 1).trans rfl; have hfz13_0 := blk_frozen BK329.out 0; have hfz13_1 := blk_frozen BK329.out 1) | ((with_reducible refine gate_dst (N := 22) rfl ?_); refine Kd.R_make (Kd.int .i64) _ 3 rfl (N := 22) rfl 103 _ _ rfl ji3 rfl rfl Tryz.underlying103 (.int .i64 0) 8 info3 rfl (by decide) (by omega) 0 (ok := fun _ => True) (okp := fun _ => True) rfl (fun _ hk => hk) trivial (of_decide_eq_true (by first | (with_reducible assumption) | assumption)) (Nat.le_trans (Nat.mul_le_mul_right _ (of_decide_eq_true (by first | (with_reducible assumption) | assumption) : ji3.toNat ≤ 35184372088832)) (by omega)) (Below.refl _ _) (Nat.le_refl _) ?_; intro v332 w14 ho15 hb hg_ hnew_; clear hg_ hnew_; (first | rw [← Ny331.out] at ho15 | (simp only [Int.reduceToNat] at ho15; rw [← Ny331.out] at ho15)); have n0_ := Aside0.mk (Kd.R_lower ho15 (below_size HB.out)); have n1_ := Aside0.mk (blk_below BK328.out hb); have n2_ := Aside0.mk (blk_below BK329.out hb); have n3_ := Aside0.mk (blk_below BK330.out hb); have n4_ := Aside0.mk (below_step HB.out hb); clear BK328; clear BK329; clear BK330; clear HB; have HO333 := n0_; have BK328 := n1_; have BK329 := n2_; have BK330 := n3_; have HB := n4_; clear n0_ n1_ n2_ n3_ n4_; clear hb ho15))
      go_loopg [7] k (fun kq v7 w' => ∃ (x6_1 : List Int) (x7_1 : Int), v7 = .int .i64 x7_1 ∧ Aside0 (spec_Int_Mul.l0 kq (wrap64 ((l0_1.length : Int) + (l1_1.length : Int))) x6_1 x7_1 a0_0 l0_1 a1_0 l1_1 = some (r1, r2)) ∧ Aside0 (kq ≤ k) ∧ Aside0 (Kd.R (Kd.int .i64) 3 w' w.heap.size (fun _ => True) v332 x6_1) ∧ Aside0 (w'.heap[gb328]? = some (.cells #[.bool a0_0, (.slice A0_1 l0_1.length c0_1)] 24 (0, 0))) ∧ Aside0 (w'.heap[gb329]? = some (.cells #[.bool a1_0, (.slice A1_1 l1_1.length c1_1)] 24 (0, 0))) ∧ Aside0 (w'.heap[gb330]? = some (.cells #[.bool false, (.slice none 0 0)] 24 (0, 0))) ∧ Aside0 (Below w.heap.size w w'))
      case atStart => exact ⟨(y331), (0), (by first | rfl | (simp; done) | (simp [*]; done)), H', ⟨Nat.le_refl _⟩, ⟨by (with_reducible repeat (first | apply Kd.R_alloc | apply Kd.R_drewN | apply Kd.R_drew)); exact HO333.out⟩, ⟨by (with_reducible repeat (first | refine blk_drewN ?_ _ | refine blk_drew ?_ | refine blk_alloc ?_ _)); exact BK328.out⟩, ⟨by (with_reducible repeat (first | refine blk_drewN ?_ _ | refine blk_drew ?_ | refine blk_alloc ?_ _)); exact BK329.out⟩, ⟨by (with_reducible repeat (first | refine blk_drewN ?_ _ | refine blk_drew ?_ | refine blk_alloc ?_ _)); exact BK330.out⟩, ⟨by repeat (first | (with_reducible first | exact HB.out | apply below_alloc | apply pw_below_drewN | apply below_drew1 | refine below_set ?_ GE328.out | refine below_set ?_ GE329.out | refine below_set ?_ GE330.out) | exact HB.out)⟩⟩
      case round =>
        clear H'
        try clear c1
        try clear c3
        try clear p2
        try clear c4
        try clear c4b0
        try clear c4b1
        try clear c5
        try clear c5b0
        try clear c5b1
        try clear p6
        try clear c9
        try clear c10
        try clear c12
        try clear hcz11_0
        try clear hcz11_1
        try clear hcz13_0
        try clear hcz13_1
        try clear hfz11_0
        try clear hfz11_1
        try clear hfz13_0
        try clear hfz13_1
        obtain ⟨x6_1, x7_1, rfl, HA, HK1, HO_6, BK328, BK329, BK330, HB⟩ := hrel
        cases gk with
        | zero => exact absurd HA.out (by simp [spec_Int_Mul.l0])
        | succ k1 =>
          have H := HA.out
          clear HA
          simp only [spec_Int_Mul.l0] at H
          by_cases c16 : x7_1 < (l0_1.length : Int)
          · rw [if_pos c16] at H
            have c16b0 : decide (x7_1 < (l0_1.length : Int)) = true := decide_eq_true c16
            clear c16
            have H' := Aside0.mk H
            clear H
            have hnb17 := NB328_329.out
            have hnc17 := NB329_328.out
            have hnb18 := NB328_330.out
            have hnc18 := NB330_328.out
            have hcz19_0 : wr.cell? ⟨gb328, 0, none⟩ = some (.bool a0_0) := (blk_cell BK328.out 0).trans rfl
            have hcz19_1 : wr.cell? ⟨gb328, 1, none⟩ = some (.slice A0_1 l0_1.length c0_1) := (blk_cell BK328.out 1).trans rfl
            have hfz19_0 := blk_frozen BK328.out 0
            have hfz19_1 := blk_frozen BK328.out 1
            go_wp2
            go_loopg [8, 9] k1 (fun kq v8 v9 w' => ∃ (x6_2 : List Int) (x8_2 : Int) (x9_2 : Int), v8 = .int .i64 x8_2 ∧ v9 = .int .i64 x9_2 ∧ Aside0 (spec_Int_Mul.l1 kq (wrap64 ((l0_1.length : Int) + (l1_1.length : Int))) x6_2 x7_1 x8_2 x9_2 a0_0 l0_1 a1_0 l1_1 = some (r1, r2)) ∧ Aside0 (kq ≤ k1) ∧ Aside0 (Kd.R (Kd.int .i64) 3 w' w.heap.size (fun _ => True) v332 x6_2) ∧ Aside0 (w'.heap[gb328]? = some (.cells #[.bool a0_0, (.slice A0_1 l0_1.length c0_1)] 24 (0, 0))) ∧ Aside0 (w'.heap[gb329]? = some (.cells #[.bool a1_0, (.slice A1_1 l1_1.length c1_1)] 24 (0, 0))) ∧ Aside0 (w'.heap[gb330]? = some (.cells #[.bool false, (.slice none 0 0)] 24 (0, 0))) ∧ Aside0 (Below w.heap.size w w'))
            case atStart => exact ⟨(x6_1), (0), (0), (by first | rfl | (simp; done) | (simp [*]; done)), (by first | rfl | (simp; done) | (simp [*]; done)), H', ⟨Nat.le_refl _⟩, ⟨by (with_reducible repeat (first | apply Kd.R_alloc | apply Kd.R_drewN | apply Kd.R_drew)); exact HO_6.out⟩, ⟨by (with_reducible repeat (first | refine blk_drewN ?_ _ | refine blk_drew ?_ | refine blk_alloc ?_ _)); exact BK328.out⟩, ⟨by (with_reducible repeat (first | refine blk_drewN ?_ _ | refine blk_drew ?_ | refine blk_alloc ?_ _)); exact BK329.out⟩, ⟨by (with_reducible repeat (first | refine blk_drewN ?_ _ | refine blk_drew ?_ | refine blk_alloc ?_ _)); exact BK330.out⟩, ⟨by repeat (first | (with_reducible first | exact HB.out | apply below_alloc | apply pw_below_drewN | apply below_drew1 | refine below_set ?_ GE328.out | refine below_set ?_ GE329.out | refine below_set ?_ GE330.out) | exact HB.out)⟩⟩
            case round =>
              clear H'
              try clear c1
              try clear c3
              try clear p2
              try clear c4
              try clear c4b0
              try clear c4b1
              try clear c5
              try clear c5b0
              try clear c5b1
              try clear p6
              try clear c9
              try clear c10
              try clear c12
              try clear c16
              try clear c16b0
              try clear c17
              try clear c18
              try clear hcz11_0
              try clear hcz11_1
              try clear hcz13_0
              try clear hcz13_1
              try clear hcz19_0
              try clear hcz19_1
              try clear hfz11_0
              try clear hfz11_1
              try clear hfz13_0
              try clear hfz13_1
              try clear hfz19_0
              try clear hfz19_1
              try clear p2
              try clear p6
              obtain ⟨x6_2, x8_2, x9_2, rfl, rfl, HA, HK2, HO_6, BK328, BK329, BK330, HB⟩ := hrel
              cases gk with
              | zero => exact absurd HA.out (by simp [spec_Int_Mul.l1])
              | succ k2 =>
                have H := HA.out
                clear HA
                simp only [spec_Int_Mul.l1] at H
                have HC20 := Aside0.mk H
                clear H
                go_upto_region 8 with (fail)
                go_cut [38] (fun v38 wc => ∃ (kq : Nat) (x38_19 : Bool), v38 = .bool x38_19 ∧ Aside0 (spec_Int_Mul.j2 kq (wrap64 ((l0_1.length : Int) + (l1_1.length : Int))) x6_2 x7_1 x8_2 x9_2 x38_19 a0_0 l0_1 a1_0 l1_1 = some (r1, r2)) ∧ Aside0 (kq ≤ k2) ∧ Aside0 (Kd.R (Kd.int .i64) 3 wc w.heap.size (fun _ => True) v332 x6_2) ∧ Aside0 (wc.heap[gb328]? = some (.cells #[.bool a0_0, (.slice A0_1 l0_1.length c0_1)] 24 (0, 0))) ∧ Aside0 (wc.heap[gb329]? = some (.cells #[.bool a1_0, (.slice A1_1 l1_1.length c1_1)] 24 (0, 0))) ∧ Aside0 (wc.heap[gb330]? = some (.cells #[.bool false, (.slice none 0 0)] 24 (0, 0))) ∧ Aside0 (Below w.heap.size w wc))
                case first =>
                  have H := HC20.out
                  clear HC20
                  by_cases c21 : x9_2 < (l1_1.length : Int)
                  · rw [if_pos c21] at H
                    have c21b0 : decide (x9_2 < (l1_1.length : Int)) = true := decide_eq_true c21
                    clear c21
                    (first | rw [c21b0] | (simp only [i64_w, i32_w]; rw [c21b0]) | skip)
                    have H' := Aside0.mk H
                    clear H
                    have hnb22 := NB329_328.out
                    have hnc22 := NB328_329.out
                    have hnb23 := NB329_330.out
                    have hnc23 := NB330_329.out
                    have hcz24_0 : wr.cell? ⟨gb329, 0, none⟩ = some (.bool a1_0) := (blk_cell BK329.out 0).trans rfl
                    have hcz24_1 : wr.cell? ⟨gb329, 1, none⟩ = some (.slice A1_1 l1_1.length c1_1) := (blk_cell BK329.out 1).trans rfl
                    have hfz24_0 := blk_frozen BK329.out 0
                    have hfz24_1 := blk_frozen BK329.out 1
                    go_wp2
                    go_meet
                    case rel => exact ⟨_, (true), (by first | rfl | (simp; done) | (simp [*]; done)), H', ⟨by have := HK1.out; have := HK2.out; first | omega | exact Nat.le_refl _⟩, ⟨by (with_reducible repeat (first | apply Kd.R_alloc | apply Kd.R_drewN | apply Kd.R_drew)); exact HO_6.out⟩, ⟨by (with_reducible repeat (first | refine blk_drewN ?_ _ | refine blk_drew ?_ | refine blk_alloc ?_ _)); exact BK328.out⟩, ⟨by (with_reducible repeat (first | refine blk_drewN ?_ _ | refine blk_drew ?_ | refine blk_alloc ?_ _)); exact BK329.out⟩, ⟨by (with_reducible repeat (first | refine blk_drewN ?_ _ | refine blk_drew ?_ | refine blk_alloc ?_ _)); exact BK330.out⟩, ⟨by repeat (first | (with_reducible first | exact HB.out | apply below_alloc | apply pw_below_drewN | apply below_drew1 | refine below_set ?_ GE328.out | refine below_set ?_ GE329.out | refine below_set ?_ GE330.out) | exact HB.out)⟩⟩
                  · rw [if_neg c21] at H
                    have c21b0 : decide (x9_2 < (l1_1.length : Int)) = false := decide_eq_false c21
                    clear c21
                    (first | rw [c21b0] | (simp only [i64_w, i32_w]; rw [c21b0]) | skip)
                    have H' := Aside0.mk H
                    clear H
                    have hnb25 := NB329_328.out
                    have hnc25 := NB328_329.out
                    have hnb26 := NB329_330.out
                    have hnc26 := NB330_329.out
                    have hcz27_0 : wr.cell? ⟨gb329, 0, none⟩ = some (.bool a1_0) := (blk_cell BK329.out 0).trans rfl
                    have hcz27_1 : wr.cell? ⟨gb329, 1, none⟩ = some (.slice A1_1 l1_1.length c1_1) := (blk_cell BK329.out 1).trans rfl
                    have hfz27_0 := blk_frozen BK329.out 0
                    have hfz27_1 := blk_frozen BK329.out 1
                    go_wp2
                    go_meet
                    case rel => exact ⟨_, (decide (x8_2 > 0)), (by first | rfl | (simp; done) | (simp [*]; done)), H', ⟨by have := HK1.out; have := HK2.out; first | omega | exact Nat.le_refl _⟩, ⟨by (with_reducible repeat (first | apply Kd.R_alloc | apply Kd.R_drewN | apply Kd.R_drew)); exact HO_6.out⟩, ⟨by (with_reducible repeat (first | refine blk_drewN ?_ _ | refine blk_drew ?_ | refine blk_alloc ?_ _)); exact BK328.out⟩, ⟨by (with_reducible repeat (first | refine blk_drewN ?_ _ | refine blk_drew ?_ | refine blk_alloc ?_ _)); exact BK329.out⟩, ⟨by (with_reducible repeat (first | refine blk_drewN ?_ _ | refine blk_drew ?_ | refine blk_alloc ?_ _)); exact BK330.out⟩, ⟨by repeat (first | (with_reducible first | exact HB.out | apply below_alloc | apply pw_below_drewN | apply below_drew1 | refine below_set ?_ GE328.out | refine below_set ?_ GE329.out | refine below_set ?_ GE330.out) | exact HB.out)⟩⟩
                case rest =>
                  clear HC20
                  try clear c1
                  try clear c2
                  try clear p2
                  try clear c4
                  try clear c4b0
                  try clear c4b1
                  try clear c5
                  try clear c5b0
                  try clear c5b1
                  try clear p6
                  try clear c9
                  try clear c10
                  try clear c12
                  try clear c16
                  try clear c16b0
                  try clear c17
                  try clear c18
                  try clear c21
                  try clear c21b0
                  try clear c22
                  try clear c23
                  try clear c25
                  try clear c26
                  try clear hcz11_0
                  try clear hcz11_1
                  try clear hcz13_0
                  try clear hcz13_1
                  try clear hcz19_0
                  try clear hcz19_1
                  try clear hcz24_0
                  try clear hcz24_1
                  try clear hcz27_0
                  try clear hcz27_1
                  try clear hfz11_0
                  try clear hfz11_1
                  try clear hfz13_0
                  try clear hfz13_1
                  try clear hfz19_0
                  try clear hfz19_1
                  try clear hfz24_0
                  try clear hfz24_1
                  try clear hfz27_0
                  try clear hfz27_1
                  try clear p2
                  try clear p6
                  obtain ⟨kq, x38_19, rfl, HA, HJ19, HO_6, BK328, BK329, BK330, HB⟩ := hcut
                  cases kq with
                  | zero => exact absurd HA.out (by simp [spec_Int_Mul.j2])
                  | succ kj19 =>
                    have H := HA.out
                    clear HA
                    simp only [spec_Int_Mul.j2] at H
                    by_cases c28 : x38_19 = true
                    · subst c28
                      have H1 : (if 0 ≤ (wrap64 (x7_1 + x9_2)) then (if (wrap64 (x7_1 + x9_2)) < (x6_2.length : Int) then ((spec_digit.f l0_1 x7_1).bind fun t335 => ((spec_digit.f l1_1 x9_2).bind fun t336 => (spec_Int_Mul.l1 kj19 (wrap64 ((l0_1.length : Int) + (l1_1.length : Int))) (x6_2.set ((wrap64 (x7_1 + x9_2)) : Int).toNat (Int.tmod (wrap64 ((wrap64 ((rd x6_2 (wrap64 (x7_1 + x9_2))) + (wrap64 (t335 * t336)))) + x8_2)) 256)) x7_1 (wrap64 (Int.tdiv (wrap64 ((wrap64 ((rd x6_2 (wrap64 (x7_1 + x9_2))) + (wrap64 (t335 * t336)))) + x8_2)) 256)) (wrap64 (x9_2 + 1)) a0_0 l0_1 a1_0 l1_1))) else (none)) else (none)) = some (r1, r2) := by rw [if_pos rfl] at H; exact H
                      clear H
                      have H := H1
                      clear H1
                      obtain ⟨ji29, hji29⟩ : ∃ j_ : Int, (wrap64 (x7_1 + x9_2)) = j_ := ⟨_, rfl⟩
                      replace H : (if 0 ≤ (ji29) then (if (ji29) < (x6_2.length : Int) then ((spec_digit.f l0_1 x7_1).bind fun t335 => ((spec_digit.f l1_1 x9_2).bind fun t336 => (spec_Int_Mul.l1 kj19 (wrap64 ((l0_1.length : Int) + (l1_1.length : Int))) (x6_2.set ((ji29) : Int).toNat (Int.tmod (wrap64 ((wrap64 ((rd x6_2 (ji29)) + (wrap64 (t335 * t336)))) + x8_2)) 256)) x7_1 (wrap64 (Int.tdiv (wrap64 ((wrap64 ((rd x6_2 (ji29)) + (wrap64 (t335 * t336)))) + x8_2)) 256)) (wrap64 (x9_2 + 1)) a0_0 l0_1 a1_0 l1_1))) else (none)) else (none)) = some (r1, r2) := by first | (rw [hji29] at H; exact H) | (simp only [hji29] at H ⊢; exact H)
                      have hji29w : (IntKind.i64.wrap (x7_1 + x9_2)) = ji29 := (i64_w _).trans hji29
                      by_cases c30 : 0 ≤ (ji29)
                      · rw [if_pos c30] at H
                        have c30b0 : decide (0 ≤ (ji29)) = true := decide_eq_true c30
                        clear c30
                        by_cases c31 : (ji29) < (x6_2.length : Int)
                        · rw [if_pos c31] at H
                          have c31b0 : decide ((ji29) < (x6_2.length : Int)) = true := decide_eq_true c31
                          clear c31
                          replace H := Option.bind_eq_some_iff.mp H
                          obtain ⟨t335, A320, H⟩ := H
                          replace H : ((spec_digit.f l1_1 x9_2).bind fun t336 => (spec_Int_Mul.l1 kj19 (wrap64 ((l0_1.length : Int) + (l1_1.length : Int))) (x6_2.set ((ji29) : Int).toNat (Int.tmod (wrap64 ((wrap64 ((rd x6_2 (ji29)) + (wrap64 (t335 * t336)))) + x8_2)) 256)) x7_1 (wrap64 (Int.tdiv (wrap64 ((wrap64 ((rd x6_2 (ji29)) + (wrap64 (t335 * t336)))) + x8_2)) 256)) (wrap64 (x9_2 + 1)) a0_0 l0_1 a1_0 l1_1)) = some (r1, r2) := H
                          have A32 := Aside0.mk A320
                          clear A320
                          replace H := Option.bind_eq_some_iff.mp H
                          obtain ⟨t336, A330, H⟩ := H
                          replace H : (spec_Int_Mul.l1 kj19 (wrap64 ((l0_1.length : Int) + (l1_1.length : Int))) (x6_2.set ((ji29) : Int).toNat (Int.tmod (wrap64 ((wrap64 ((rd x6_2 (ji29)) + (wrap64 (t335 * t336)))) + x8_2)) 256)) x7_1 (wrap64 (Int.tdiv (wrap64 ((wrap64 ((rd x6_2 (ji29)) + (wrap64 (t335 * t336)))) + x8_2)) 256)) (wrap64 (x9_2 + 1)) a0_0 l0_1 a1_0 l1_1) = some (r1, r2) := H
                          have A33 := Aside0.mk A330
                          clear A330
                          obtain ⟨y337, hy337⟩ : ∃ y_ : List Int, y_ = (x6_2.set ((ji29) : Int).toNat (Int.tmod (wrap64 ((wrap64 ((rd x6_2 (ji29)) + (wrap64 (t335 * t336)))) + x8_2)) 256)) := ⟨_, rfl⟩
                          replace H : (spec_Int_Mul.l1 kj19 (wrap64 ((l0_1.length : Int) + (l1_1.length : Int))) y337 x7_1 (wrap64 (Int.tdiv (wrap64 ((wrap64 ((rd x6_2 (ji29)) + (wrap64 (t335 * t336)))) + x8_2)) 256)) (wrap64 (x9_2 + 1)) a0_0 l0_1 a1_0 l1_1) = some (r1, r2) := by first | (rw [hy337]; with_reducible exact H) | (have H2_ := (Option.bind_some _ _).symm.trans H; rw [hy337]; with_reducible exact H2_) | (have H2_ := (Option.bind_some _ _).symm.trans H; with_reducible exact H2_) | with_reducible exact H | (rw [hy337]; exact H) | exact H
                          have Ny337 := Aside0.mk hy337
                          clear hy337
                          have H' := Aside0.mk H
                          clear H
                          obtain ⟨Ao35, co35, eo35⟩ := Kd.R_slice HO_6.out
                          subst eo35
                          have p334 : 0 ≤ ((ji29) : Int) := of_decide_eq_true (by first | (with_reducible assumption) | assumption)
                          have q334 : (ji29) < (x6_2.length : Int) := of_decide_eq_true (by first | (with_reducible assumption) | assumption)
                          obtain ⟨ad334, e334, hx334_0⟩ := Kd.at_int (Kd.R_reads' HO_6.out).2.2 (ji29) p334 q334
                          cases e334
                          replace p334 := eq_true p334
                          replace q334 := eq_true q334
                          have hnb36 := NB328_329.out
                          have hnc36 := NB329_328.out
                          have hnb37 := NB328_330.out
                          have hnc37 := NB330_328.out
                          have hcz38_0 : wc.cell? ⟨gb328, 0, none⟩ = some (.bool a0_0) := (blk_cell BK328.out 0).trans rfl
                          have hcz38_1 : wc.cell? ⟨gb328, 1, none⟩ = some (.slice A0_1 l0_1.length c0_1) := (blk_cell BK328.out 1).trans rfl
                          have hfz38_0 := blk_frozen BK328.out 0
                          have hfz38_1 := blk_frozen BK328.out 1
                          go_wp2_with (first | (go_at_call 40; (with_reducible refine (spec_digit.calls _ _ l0_1 x7_1 t335 _ ?side1 ?side2 A32.out).mono ?_); (case side1 => repeat (first | exact (Kd.C_below HR0_1.out HB.out) | (with_reducible refine Kd.C_alloc ?_ _) | (with_reducible refine Kd.C_drewN ?_ _) | (with_reducible refine Kd.C_drew ?_))); (case side2 => exact HC0_1.out); rintro e w' ⟨rfl, ⟨nd, rfl⟩⟩; (try first | exact ⟨rfl, _, World.drewN_drewN _ _ _⟩ | exact ⟨rfl, _, Eq.trans (World.drewN_drewN _ _ _) (congrArg (World.drewN _) (Nat.add_assoc _ _ _))⟩); have hnb39 := NB329_330.out; have hnc39 := NB330_329.out; have hcz40_0 : wc.cell? ⟨gb329, 0, none⟩ = some (.bool a1_0) := (blk_cell BK329.out 0).trans rfl; have hcz40_1 : wc.cell? ⟨gb329, 1, none⟩ = some (.slice A1_1 l1_1.length c1_1) := (blk_cell BK329.out 1).trans rfl; have hfz40_0 := blk_frozen BK329.out 0; have hfz40_1 := blk_frozen BK329.out 1) | (go_at_call 40; (with_reducible refine (spec_digit.calls _ _ l1_1 x9_2 t336 _ ?side1 ?side2 A33.out).mono ?_); (case side1 => repeat (first | exact (Kd.C_below HR1_1.out HB.out) | (with_reducible refine Kd.C_alloc ?_ _) | (with_reducible refine Kd.C_drewN ?_ _) | (with_reducible refine Kd.C_drew ?_))); (case side2 => exact HC1_1.out); rintro e w' ⟨rfl, ⟨nd, rfl⟩⟩; (try first | exact ⟨rfl, _, World.drewN_drewN _ _ _⟩ | exact ⟨rfl, _, Eq.trans (World.drewN_drewN _ _ _) (congrArg (World.drewN _) (Nat.add_assoc _ _ _))⟩); have p34 : 0 ≤ ((ji29) : Int) := of_decide_eq_true (by first | (with_reducible assumption) | assumption); have q34 : ((ji29) : Int) < ((x6_2.length : Int) : Int) := of_decide_eq_true (by first | (with_reducible assumption) | assumption); obtain ⟨go34, co34, eo34, gb34, gl34, cl34, HG34⟩ := Kd.R_form HO_6.out (by omega); (first | cases eo34 | (injection eo34 with ea_ en_ ec_; (first | subst ea_ | (injection ea_ with ea_; subst ea_)); subst ec_; clear en_)); have GB34 := Aside0.mk gb34; have GG34 := Aside0.mk HG34; clear gb34 gl34 HG34; (first | simp only [add_plain] at hx334_0 | skip); obtain ⟨hx34_0, hf34_0⟩ := Kd.R_celln 0 HO_6.out ((ji29) : Int) p34 q34; replace p34 := eq_true p34; replace q34 := eq_true q34; obtain ⟨hy41_, hz41_⟩ := Kd.R_celln 0 HO_6.out ((ji29) : Int) (of_decide_eq_true (by first | (with_reducible assumption) | assumption)) (of_decide_eq_true (by first | (with_reducible assumption) | assumption)); have HP41 := Kd.R_putg HO_6.out ((ji29) : Int) (Int.tmod (wrap64 ((wrap64 ((rd x6_2 (ji29)) + (wrap64 (t335 * t336)))) + x8_2)) 256)) | ((with_reducible refine gate_store (t := 3) (p := 65) rfl ?_); (try (rw [drewN_self wc]; generalize hq_ : World.drewN wc _ = wc; have n0_ := Aside0.mk (Kd.R_at hq_ HO_6.out); have n1_ := Aside0.mk (blk_at hq_ BK328.out); have n2_ := Aside0.mk (blk_at hq_ BK329.out); have n3_ := Aside0.mk (blk_at hq_ BK330.out); have n4_ := Aside0.mk (below_at hq_ HB.out); clear hq_ HO_6 BK328 BK329 BK330 HB; have HO_6 := n0_; have BK328 := n1_; have BK329 := n2_; have BK330 := n3_; have HB := n4_; clear n0_ n1_ n2_ n3_ n4_; (try (obtain ⟨hy41_, hz41_⟩ := Kd.R_celln 0 HO_6.out ((ji29) : Int) (of_decide_eq_true (by first | (with_reducible assumption) | assumption)) (of_decide_eq_true (by first | (with_reducible assumption) | assumption)))); (try (have HP41 := Kd.R_putg HO_6.out ((ji29) : Int) (Int.tmod (wrap64 ((wrap64 ((rd x6_2 (ji29)) + (wrap64 (t335 * t336)))) + x8_2)) 256))))); refine store_event (t := 3) (p := 65) (v := ?vo_w42) (w1 := (wc.setCell ⟨go34, ((ji29) : Int).toNat, none⟩ (.int .i64 (Int.tmod (wrap64 ((wrap64 ((rd x6_2 (ji29)) + (wrap64 (t335 * t336)))) + x8_2)) 256)))) ?hg ?ho ?hn ?hr ?_; (case ho => rfl); (case hg => rfl); (case hn => rfl); (case hr => first | (go_simp; done) | (go_simp; rfl)); intro w42 hw; have hg : wc.grownBy w42 (some go34) := (by rw [hw]; exact HP41.2); have hp_ : Kd.R (Kd.int .i64) 3 w42 w.heap.size (fun _ => True) (.slice (some ⟨go34, 0, none⟩) x6_2.length co35) y337 := (by rw [hw, Ny337.out]; exact HP41.1); clear HP41; have n0_ := Aside0.mk (hp_); have n1_ := Aside0.mk (blk_grown (g := gb328) (o := .cells #[.bool a0_0, .slice A0_1 l0_1.length c0_1] 24 (0, 0)) BK328.out hg (Kd.R_ne HO_6.out BK328.out (by decide))); have n2_ := Aside0.mk (blk_grown (g := gb329) (o := .cells #[.bool a1_0, .slice A1_1 l1_1.length c1_1] 24 (0, 0)) BK329.out hg (Kd.R_ne HO_6.out BK329.out (by decide))); have n3_ := Aside0.mk (blk_grown (g := gb330) (o := .cells #[.bool false, .slice none 0 0] 24 (0, 0)) BK330.out hg (Kd.R_ne HO_6.out BK330.out (by decide))); have n4_ := Aside0.mk ((by rw [hw]; exact below_set (HB.out) GB34.out : Below w.heap.size w w42)); clear HO_6; clear BK328; clear BK329; clear BK330; clear HB; have HO_6 := n0_; have BK328 := n1_; have BK329 := n2_; have BK330 := n3_; have HB := n4_; clear n0_ n1_ n2_ n3_ n4_; clear hg hw hp_))
                          repeat (go_quiet (first | (go_at_call 40; (with_reducible refine (spec_digit.calls _ _ l0_1 x7_1 t335 _ ?side1 ?side2 A32.out).mono ?_); (case side1 => repeat (first | exact (Kd.C_below HR0_1.out HB.out) | (with_reducible refine Kd.C_alloc ?_ _) | (with_reducible refine Kd.C_drewN ?_ _) | (with_reducible refine Kd.C_drew ?_))); (case side2 => exact HC0_1.out); rintro e w' ⟨rfl, ⟨nd, rfl⟩⟩; (try first | exact ⟨rfl, _, World.drewN_drewN _ _ _⟩ | exact ⟨rfl, _, Eq.trans (World.drewN_drewN _ _ _) (congrArg (World.drewN _) (Nat.add_assoc _ _ _))⟩); have hnb39 := NB329_330.out; have hnc39 := NB330_329.out; have hcz40_0 : wc.cell? ⟨gb329, 0, none⟩ = some (.bool a1_0) := (blk_cell BK329.out 0).trans rfl; have hcz40_1 : wc.cell? ⟨gb329, 1, none⟩ = some (.slice A1_1 l1_1.length c1_1) := (blk_cell BK329.out 1).trans rfl; have hfz40_0 := blk_frozen BK329.out 0; have hfz40_1 := blk_frozen BK329.out 1) | (go_at_call 40; (with_reducible refine (spec_digit.calls _ _ l1_1 x9_2 t336 _ ?side1 ?side2 A33.out).mono ?_); (case side1 => repeat (first | exact (Kd.C_below HR1_1.out HB.out) | (with_reducible refine Kd.C_alloc ?_ _) | (with_reducible refine Kd.C_drewN ?_ _) | (with_reducible refine Kd.C_drew ?_))); (case side2 => exact HC1_1.out); rintro e w' ⟨rfl, ⟨nd, rfl⟩⟩; (try first | exact ⟨rfl, _, World.drewN_drewN _ _ _⟩ | exact ⟨rfl, _, Eq.trans (World.drewN_drewN _ _ _) (congrArg (World.drewN _) (Nat.add_assoc _ _ _))⟩); have p34 : 0 ≤ ((ji29) : Int) := of_decide_eq_true (by first | (with_reducible assumption) | assumption); have q34 : ((ji29) : Int) < ((x6_2.length : Int) : Int) := of_decide_eq_true (by first | (with_reducible assumption) | assumption); obtain ⟨go34, co34, eo34, gb34, gl34, cl34, HG34⟩ := Kd.R_form HO_6.out (by omega); (first | cases eo34 | (injection eo34 with ea_ en_ ec_; (first | subst ea_ | (injection ea_ with ea_; subst ea_)); subst ec_; clear en_)); have GB34 := Aside0.mk gb34; have GG34 := Aside0.mk HG34; clear gb34 gl34 HG34; (first | simp only [add_plain] at hx334_0 | skip); obtain ⟨hx34_0, hf34_0⟩ := Kd.R_celln 0 HO_6.out ((ji29) : Int) p34 q34; replace p34 := eq_true p34; replace q34 := eq_true q34; obtain ⟨hy41_, hz41_⟩ := Kd.R_celln 0 HO_6.out ((ji29) : Int) (of_decide_eq_true (by first | (with_reducible assumption) | assumption)) (of_decide_eq_true (by first | (with_reducible assumption) | assumption)); have HP41 := Kd.R_putg HO_6.out ((ji29) : Int) (Int.tmod (wrap64 ((wrap64 ((rd x6_2 (ji29)) + (wrap64 (t335 * t336)))) + x8_2)) 256)) | ((with_reducible refine gate_store (t := 3) (p := 65) rfl ?_); (try (rw [drewN_self wc]; generalize hq_ : World.drewN wc _ = wc; have n0_ := Aside0.mk (Kd.R_at hq_ HO_6.out); have n1_ := Aside0.mk (blk_at hq_ BK328.out); have n2_ := Aside0.mk (blk_at hq_ BK329.out); have n3_ := Aside0.mk (blk_at hq_ BK330.out); have n4_ := Aside0.mk (below_at hq_ HB.out); clear hq_ HO_6 BK328 BK329 BK330 HB; have HO_6 := n0_; have BK328 := n1_; have BK329 := n2_; have BK330 := n3_; have HB := n4_; clear n0_ n1_ n2_ n3_ n4_; (try (obtain ⟨hy41_, hz41_⟩ := Kd.R_celln 0 HO_6.out ((ji29) : Int) (of_decide_eq_true (by first | (with_reducible assumption) | assumption)) (of_decide_eq_true (by first | (with_reducible assumption) | assumption)))); (try (have HP41 := Kd.R_putg HO_6.out ((ji29) : Int) (Int.tmod (wrap64 ((wrap64 ((rd x6_2 (ji29)) + (wrap64 (t335 * t336)))) + x8_2)) 256))))); refine store_event (t := 3) (p := 65) (v := ?vo_w42) (w1 := (wc.setCell ⟨go34, ((ji29) : Int).toNat, none⟩ (.int .i64 (Int.tmod (wrap64 ((wrap64 ((rd x6_2 (ji29)) + (wrap64 (t335 * t336)))) + x8_2)) 256)))) ?hg ?ho ?hn ?hr ?_; (case ho => rfl); (case hg => rfl); (case hn => rfl); (case hr => first | (go_simp; done) | (go_simp; rfl)); intro w42 hw; have hg : wc.grownBy w42 (some go34) := (by rw [hw]; exact HP41.2); have hp_ : Kd.R (Kd.int .i64) 3 w42 w.heap.size (fun _ => True) (.slice (some ⟨go34, 0, none⟩) x6_2.length co35) y337 := (by rw [hw, Ny337.out]; exact HP41.1); clear HP41; have n0_ := Aside0.mk (hp_); have n1_ := Aside0.mk (blk_grown (g := gb328) (o := .cells #[.bool a0_0, .slice A0_1 l0_1.length c0_1] 24 (0, 0)) BK328.out hg (Kd.R_ne HO_6.out BK328.out (by decide))); have n2_ := Aside0.mk (blk_grown (g := gb329) (o := .cells #[.bool a1_0, .slice A1_1 l1_1.length c1_1] 24 (0, 0)) BK329.out hg (Kd.R_ne HO_6.out BK329.out (by decide))); have n3_ := Aside0.mk (blk_grown (g := gb330) (o := .cells #[.bool false, .slice none 0 0] 24 (0, 0)) BK330.out hg (Kd.R_ne HO_6.out BK330.out (by decide))); have n4_ := Aside0.mk ((by rw [hw]; exact below_set (HB.out) GB34.out : Below w.heap.size w w42)); clear HO_6; clear BK328; clear BK329; clear BK330; clear HB; have HO_6 := n0_; have BK328 := n1_; have BK329 := n2_; have BK330 := n3_; have HB := n4_; clear n0_ n1_ n2_ n3_ n4_; clear hg hw hp_)); try go_wp2_with (first | (go_at_call 40; (with_reducible refine (spec_digit.calls _ _ l0_1 x7_1 t335 _ ?side1 ?side2 A32.out).mono ?_); (case side1 => repeat (first | exact (Kd.C_below HR0_1.out HB.out) | (with_reducible refine Kd.C_alloc ?_ _) | (with_reducible refine Kd.C_drewN ?_ _) | (with_reducible refine Kd.C_drew ?_))); (case side2 => exact HC0_1.out); rintro e w' ⟨rfl, ⟨nd, rfl⟩⟩; (try first | exact ⟨rfl, _, World.drewN_drewN _ _ _⟩ | exact ⟨rfl, _, Eq.trans (World.drewN_drewN _ _ _) (congrArg (World.drewN _) (Nat.add_assoc _ _ _))⟩); have hnb39 := NB329_330.out; have hnc39 := NB330_329.out; have hcz40_0 : wc.cell? ⟨gb329, 0, none⟩ = some (.bool a1_0) := (blk_cell BK329.out 0).trans rfl; have hcz40_1 : wc.cell? ⟨gb329, 1, none⟩ = some (.slice A1_1 l1_1.length c1_1) := (blk_cell BK329.out 1).trans rfl; have hfz40_0 := blk_frozen BK329.out 0; have hfz40_1 := blk_frozen BK329.out 1) | (go_at_call 40; (with_reducible refine (spec_digit.calls _ _ l1_1 x9_2 t336 _ ?side1 ?side2 A33.out).mono ?_); (case side1 => repeat (first | exact (Kd.C_below HR1_1.out HB.out) | (with_reducible refine Kd.C_alloc ?_ _) | (with_reducible refine Kd.C_drewN ?_ _) | (with_reducible refine Kd.C_drew ?_))); (case side2 => exact HC1_1.out); rintro e w' ⟨rfl, ⟨nd, rfl⟩⟩; (try first | exact ⟨rfl, _, World.drewN_drewN _ _ _⟩ | exact ⟨rfl, _, Eq.trans (World.drewN_drewN _ _ _) (congrArg (World.drewN _) (Nat.add_assoc _ _ _))⟩); have p34 : 0 ≤ ((ji29) : Int) := of_decide_eq_true (by first | (with_reducible assumption) | assumption); have q34 : ((ji29) : Int) < ((x6_2.length : Int) : Int) := of_decide_eq_true (by first | (with_reducible assumption) | assumption); obtain ⟨go34, co34, eo34, gb34, gl34, cl34, HG34⟩ := Kd.R_form HO_6.out (by omega); (first | cases eo34 | (injection eo34 with ea_ en_ ec_; (first | subst ea_ | (injection ea_ with ea_; subst ea_)); subst ec_; clear en_)); have GB34 := Aside0.mk gb34; have GG34 := Aside0.mk HG34; clear gb34 gl34 HG34; (first | simp only [add_plain] at hx334_0 | skip); obtain ⟨hx34_0, hf34_0⟩ := Kd.R_celln 0 HO_6.out ((ji29) : Int) p34 q34; replace p34 := eq_true p34; replace q34 := eq_true q34; obtain ⟨hy41_, hz41_⟩ := Kd.R_celln 0 HO_6.out ((ji29) : Int) (of_decide_eq_true (by first | (with_reducible assumption) | assumption)) (of_decide_eq_true (by first | (with_reducible assumption) | assumption)); have HP41 := Kd.R_putg HO_6.out ((ji29) : Int) (Int.tmod (wrap64 ((wrap64 ((rd x6_2 (ji29)) + (wrap64 (t335 * t336)))) + x8_2)) 256)) | ((with_reducible refine gate_store (t := 3) (p := 65) rfl ?_); (try (rw [drewN_self wc]; generalize hq_ : World.drewN wc _ = wc; have n0_ := Aside0.mk (Kd.R_at hq_ HO_6.out); have n1_ := Aside0.mk (blk_at hq_ BK328.out); have n2_ := Aside0.mk (blk_at hq_ BK329.out); have n3_ := Aside0.mk (blk_at hq_ BK330.out); have n4_ := Aside0.mk (below_at hq_ HB.out); clear hq_ HO_6 BK328 BK329 BK330 HB; have HO_6 := n0_; have BK328 := n1_; have BK329 := n2_; have BK330 := n3_; have HB := n4_; clear n0_ n1_ n2_ n3_ n4_; (try (obtain ⟨hy41_, hz41_⟩ := Kd.R_celln 0 HO_6.out ((ji29) : Int) (of_decide_eq_true (by first | (with_reducible assumption) | assumption)) (of_decide_eq_true (by first | (with_reducible assumption) | assumption)))); (try (have HP41 := Kd.R_putg HO_6.out ((ji29) : Int) (Int.tmod (wrap64 ((wrap64 ((rd x6_2 (ji29)) + (wrap64 (t335 * t336)))) + x8_2)) 256))))); refine store_event (t := 3) (p := 65) (v := ?vo_w42) (w1 := (wc.setCell ⟨go34, ((ji29) : Int).toNat, none⟩ (.int .i64 (Int.tmod (wrap64 ((wrap64 ((rd x6_2 (ji29)) + (wrap64 (t335 * t336)))) + x8_2)) 256)))) ?hg ?ho ?hn ?hr ?_; (case ho => rfl); (case hg => rfl); (case hn => rfl); (case hr => first | (go_simp; done) | (go_simp; rfl)); intro w42 hw; have hg : wc.grownBy w42 (some go34) := (by rw [hw]; exact HP41.2); have hp_ : Kd.R (Kd.int .i64) 3 w42 w.heap.size (fun _ => True) (.slice (some ⟨go34, 0, none⟩) x6_2.length co35) y337 := (by rw [hw, Ny337.out]; exact HP41.1); clear HP41; have n0_ := Aside0.mk (hp_); have n1_ := Aside0.mk (blk_grown (g := gb328) (o := .cells #[.bool a0_0, .slice A0_1 l0_1.length c0_1] 24 (0, 0)) BK328.out hg (Kd.R_ne HO_6.out BK328.out (by decide))); have n2_ := Aside0.mk (blk_grown (g := gb329) (o := .cells #[.bool a1_0, .slice A1_1 l1_1.length c1_1] 24 (0, 0)) BK329.out hg (Kd.R_ne HO_6.out BK329.out (by decide))); have n3_ := Aside0.mk (blk_grown (g := gb330) (o := .cells #[.bool false, .slice none 0 0] 24 (0, 0)) BK330.out hg (Kd.R_ne HO_6.out BK330.out (by decide))); have n4_ := Aside0.mk ((by rw [hw]; exact below_set (HB.out) GB34.out : Below w.heap.size w w42)); clear HO_6; clear BK328; clear BK329; clear BK330; clear HB; have HO_6 := n0_; have BK328 := n1_; have BK329 := n2_; have BK330 := n3_; have HB := n4_; clear n0_ n1_ n2_ n3_ n4_; clear hg hw hp_)))
                          go_roundg kj19
                          case measure => have := HK1.out; have := HK2.out; have := HJ19.out; omega
                          case rel => exact ⟨(y337), (wrap64 (Int.tdiv (wrap64 ((wrap64 ((rd x6_2 (ji29)) + (wrap64 (t335 * t336)))) + x8_2)) 256)), (wrap64 (x9_2 + 1)), (by first | rfl | (simp; done) | (simp only [← hji29] <;> (first | rfl | simp)) | (simp [*]; done)), (by first | rfl | (simp; done) | (simp [*]; done)), H', ⟨by have := HK1.out; have := HK2.out; have := HJ19.out; omega⟩, ⟨by (with_reducible repeat (first | apply Kd.R_alloc | apply Kd.R_drewN | apply Kd.R_drew)); exact HO_6.out⟩, ⟨by (with_reducible repeat (first | refine blk_drewN ?_ _ | refine blk_drew ?_ | refine blk_alloc ?_ _)); exact BK328.out⟩, ⟨by (with_reducible repeat (first | refine blk_drewN ?_ _ | refine blk_drew ?_ | refine blk_alloc ?_ _)); exact BK329.out⟩, ⟨by (with_reducible repeat (first | refine blk_drewN ?_ _ | refine blk_drew ?_ | refine blk_alloc ?_ _)); exact BK330.out⟩, ⟨by repeat (first | (with_reducible first | exact HB.out | apply below_alloc | apply pw_below_drewN | apply below_drew1 | refine below_set ?_ GE328.out | refine below_set ?_ GE329.out | refine below_set ?_ GE330.out) | exact HB.out)⟩⟩
                        · rw [if_neg c31] at H
                          exact absurd H (by simp)
                      · rw [if_neg c30] at H
                        exact absurd H (by simp)
                    · replace c28 := Bool.eq_false_iff.mpr c28
                      subst c28
                      have H1 : (spec_Int_Mul.l0 kj19 (wrap64 ((l0_1.length : Int) + (l1_1.length : Int))) x6_2 (wrap64 (x7_1 + 1)) a0_0 l0_1 a1_0 l1_1) = some (r1, r2) := by rw [if_neg (show ¬ (false = true) by decide)] at H; exact H
                      clear H
                      have H := H1
                      clear H1
                      have H' := Aside0.mk H
                      clear H
                      go_wp2
                      go_roundg kj19
                      case measure => have := HK1.out; have := HK2.out; have := HJ19.out; omega
                      case rel => exact ⟨(x6_2), (wrap64 (x7_1 + 1)), (by first | rfl | (simp; done) | (simp [*]; done)), H', ⟨by have := HK1.out; have := HK2.out; have := HJ19.out; omega⟩, ⟨by (with_reducible repeat (first | apply Kd.R_alloc | apply Kd.R_drewN | apply Kd.R_drew)); exact HO_6.out⟩, ⟨by (with_reducible repeat (first | refine blk_drewN ?_ _ | refine blk_drew ?_ | refine blk_alloc ?_ _)); exact BK328.out⟩, ⟨by (with_reducible repeat (first | refine blk_drewN ?_ _ | refine blk_drew ?_ | refine blk_alloc ?_ _)); exact BK329.out⟩, ⟨by (with_reducible repeat (first | refine blk_drewN ?_ _ | refine blk_drew ?_ | refine blk_alloc ?_ _)); exact BK330.out⟩, ⟨by repeat (first | (with_reducible first | exact HB.out | apply below_alloc | apply pw_below_drewN | apply below_drew1 | refine below_set ?_ GE328.out | refine below_set ?_ GE329.out | refine below_set ?_ GE330.out) | exact HB.out)⟩⟩
          · rw [if_neg c16] at H
            have c16b0 : decide (x7_1 < (l0_1.length : Int)) = false := decide_eq_false c16
            clear c16
            obtain ⟨ji43, hji43⟩ : ∃ j_ : Int, (wrap64 ((l0_1.length : Int) + (l1_1.length : Int))) = j_ := ⟨_, rfl⟩
            replace H : (if 0 ≤ (ji43) then (if ((ji43) : Int).toNat ≤ 281474976710656 then (spec_Int_Mul.l2 k1 (ji43) x6_1 (List.replicate ((ji43) : Int).toNat 0) 0 a0_0 l0_1 a1_0 l1_1) else (none)) else (none)) = some (r1, r2) := by first | (rw [hji43] at H; exact H) | (simp only [hji43] at H ⊢; exact H)
            have hji43w : (IntKind.i64.wrap ((l0_1.length : Int) + (l1_1.length : Int))) = ji43 := (i64_w _).trans hji43
            subst hji43
            by_cases c44 : 0 ≤ ((wrap64 ((l0_1.length : Int) + (l1_1.length : Int))))
            · rw [if_pos c44] at H
              have c44b0 := eq_true c44
              have c44b1 : decide (0 ≤ ((wrap64 ((l0_1.length : Int) + (l1_1.length : Int))))) = true := decide_eq_true c44
              clear c44
              by_cases c45 : (((wrap64 ((l0_1.length : Int) + (l1_1.length : Int)))) : Int).toNat ≤ 281474976710656
              · rw [if_pos c45] at H
                have c45b0 := eq_true c45
                have c45b1 : decide ((((wrap64 ((l0_1.length : Int) + (l1_1.length : Int)))) : Int).toNat ≤ 281474976710656) = true := decide_eq_true c45
                clear c45
                obtain ⟨y338, hy338⟩ : ∃ y_ : List Int, y_ = (List.replicate (((wrap64 ((l0_1.length : Int) + (l1_1.length : Int)))) : Int).toNat 0) := ⟨_, rfl⟩
                replace H : (spec_Int_Mul.l2 k1 ((wrap64 ((l0_1.length : Int) + (l1_1.length : Int)))) x6_1 y338 0 a0_0 l0_1 a1_0 l1_1) = some (r1, r2) := by first | (rw [hy338]; with_reducible exact H) | (have H2_ := (Option.bind_some _ _).symm.trans H; rw [hy338]; with_reducible exact H2_) | (have H2_ := (Option.bind_some _ _).symm.trans H; with_reducible exact H2_) | with_reducible exact H | (rw [hy338]; exact H) | exact H
                have Ny338 := Aside0.mk hy338
                clear hy338
                have H' := Aside0.mk H
                clear H
                have hnb46 := NB328_329.out
                have hnc46 := NB329_328.out
                have hnb47 := NB328_330.out
                have hnc47 := NB330_328.out
                have hcz48_0 : wr.cell? ⟨gb328, 0, none⟩ = some (.bool a0_0) := (blk_cell BK328.out 0).trans rfl
                have hcz48_1 : wr.cell? ⟨gb328, 1, none⟩ = some (.slice A0_1 l0_1.length c0_1) := (blk_cell BK328.out 1).trans rfl
                have hfz48_0 := blk_frozen BK328.out 0
                have hfz48_1 := blk_frozen BK328.out 1
                go_wp2_with (first | ((with_reducible refine gate_dst (N := 69) rfl ?_); refine Kd.R_make (Kd.int .u8) _ 5 rfl (N := 69) rfl 22 _ _ rfl ((wrap64 ((l0_1.length : Int) + (l1_1.length : Int)))) rfl rfl Tryz.underlying22 (.int .u8 0) 1 info5 rfl (by decide) (by omega) 0 (ok := fun _ => True) (okp := fun _ => True) rfl (fun _ hk => hk) trivial (of_decide_eq_true (by first | (with_reducible assumption) | assumption)) (Nat.le_trans (Nat.mul_le_mul_right _ (of_decide_eq_true (by first | (with_reducible assumption) | assumption) : ((wrap64 ((l0_1.length : Int) + (l1_1.length : Int)))).toNat ≤ 281474976710656)) (by omega)) (Below.refl _ _) (Nat.le_refl _) ?_; intro v339 w49 ho50 hb hg_ hnew_; clear hg_ hnew_; (first | rw [← Ny338.out] at ho50 | (simp only [Int.reduceToNat] at ho50; rw [← Ny338.out] at ho50)); have n0_ := Aside0.mk (Kd.R_below HO_6.out hb); have n1_ := Aside0.mk (Kd.R_lower ho50 (below_size HB.out)); have n2_ := Aside0.mk (blk_below BK328.out hb); have n3_ := Aside0.mk (blk_below BK329.out hb); have n4_ := Aside0.mk (blk_below BK330.out hb); have n5_ := Aside0.mk (below_step HB.out hb); clear HO_6; clear BK328; clear BK329; clear BK330; clear HB; have HO_6 := n0_; have HO340 := n1_; have BK328 := n2_; have BK329 := n3_; have BK330 := n4_; have HB := n5_; clear n0_ n1_ n2_ n3_ n4_ n5_; clear hb ho50))
                go_loopg [12] k1 (fun kq v12 w' => ∃ (x11_2 : List Int) (x12_2 : Int), v12 = .int .i64 x12_2 ∧ Aside0 (spec_Int_Mul.l2 kq ((wrap64 ((l0_1.length : Int) + (l1_1.length : Int)))) x6_1 x11_2 x12_2 a0_0 l0_1 a1_0 l1_1 = some (r1, r2)) ∧ Aside0 (kq ≤ k1) ∧ Aside0 (Kd.R (Kd.int .i64) 3 w' w.heap.size (fun _ => True) v332 x6_1) ∧ Aside0 (Kd.R (Kd.int .u8) 5 w' w.heap.size (fun _ => True) v339 x11_2) ∧ Aside0 (w'.heap[gb328]? = some (.cells #[.bool a0_0, (.slice A0_1 l0_1.length c0_1)] 24 (0, 0))) ∧ Aside0 (w'.heap[gb329]? = some (.cells #[.bool a1_0, (.slice A1_1 l1_1.length c1_1)] 24 (0, 0))) ∧ Aside0 (w'.heap[gb330]? = some (.cells #[.bool false, (.slice none 0 0)] 24 (0, 0))) ∧ Aside0 (Below w.heap.size w w'))
                case atStart => exact ⟨(y338), (0), (by first | rfl | (simp; done) | (simp [*]; done)), H', ⟨Nat.le_refl _⟩, ⟨by (with_reducible repeat (first | apply Kd.R_alloc | apply Kd.R_drewN | apply Kd.R_drew)); exact HO_6.out⟩, ⟨by (with_reducible repeat (first | apply Kd.R_alloc | apply Kd.R_drewN | apply Kd.R_drew)); exact HO340.out⟩, ⟨by (with_reducible repeat (first | refine blk_drewN ?_ _ | refine blk_drew ?_ | refine blk_alloc ?_ _)); exact BK328.out⟩, ⟨by (with_reducible repeat (first | refine blk_drewN ?_ _ | refine blk_drew ?_ | refine blk_alloc ?_ _)); exact BK329.out⟩, ⟨by (with_reducible repeat (first | refine blk_drewN ?_ _ | refine blk_drew ?_ | refine blk_alloc ?_ _)); exact BK330.out⟩, ⟨by repeat (first | (with_reducible first | exact HB.out | apply below_alloc | apply pw_below_drewN | apply below_drew1 | refine below_set ?_ GE328.out | refine below_set ?_ GE329.out | refine below_set ?_ GE330.out) | exact HB.out)⟩⟩
                case round =>
                  clear H'
                  try clear c1
                  try clear c2
                  try clear p2
                  try clear c3
                  try clear p3
                  try clear q3
                  try clear hx3
                  try clear hf3
                  try clear c4
                  try clear c4b0
                  try clear c4b1
                  try clear c5
                  try clear c5b0
                  try clear c5b1
                  try clear p6
                  try clear c9
                  try clear c10
                  try clear c12
                  try clear c16
                  try clear c16b0
                  try clear c17
                  try clear c18
                  try clear c21
                  try clear c21b0
                  try clear c22
                  try clear c23
                  try clear c25
                  try clear c26
                  try clear c28
                  try clear c30
                  try clear c30b0
                  try clear c31
                  try clear c31b0
                  try clear p33
                  try clear q33
                  try clear hx33
                  try clear p34
                  try clear q34
                  try clear hx34
                  try clear hf34
                  try clear c36
                  try clear c37
                  try clear c39
                  try clear c44
                  try clear c44b0
                  try clear c44b1
                  try clear c45
                  try clear c45b0
                  try clear c45b1
                  try clear c46
                  try clear c47
                  try clear hcz11_0
                  try clear hcz11_1
                  try clear hcz13_0
                  try clear hcz13_1
                  try clear hcz19_0
                  try clear hcz19_1
                  try clear hcz24_0
                  try clear hcz24_1
                  try clear hcz27_0
                  try clear hcz27_1
                  try clear hcz38_0
                  try clear hcz38_1
                  try clear hcz40_0
                  try clear hcz40_1
                  try clear hcz48_0
                  try clear hcz48_1
                  try clear hfz11_0
                  try clear hfz11_1
                  try clear hfz13_0
                  try clear hfz13_1
                  try clear hfz19_0
                  try clear hfz19_1
                  try clear hfz24_0
                  try clear hfz24_1
                  try clear hfz27_0
                  try clear hfz27_1
                  try clear hfz38_0
                  try clear hfz38_1
                  try clear hfz40_0
                  try clear hfz40_1
                  try clear hfz48_0
                  try clear hfz48_1
                  try clear hx334_0
                  try clear hx34_0
                  try clear p2
                  try clear p334
                  try clear p34
                  try clear p6
                  try clear q334
                  try clear q34
                  obtain ⟨x11_2, x12_2, rfl, HA, HK2, HO_6, HO_11, BK328, BK329, BK330, HB⟩ := hrel
                  cases gk with
                  | zero => exact absurd HA.out (by simp [spec_Int_Mul.l2])
                  | succ k2 =>
                    have H := HA.out
                    clear HA
                    simp only [spec_Int_Mul.l2] at H
                    by_cases c51 : x12_2 < ((wrap64 ((l0_1.length : Int) + (l1_1.length : Int))))
                    · rw [if_pos c51] at H
                      have c51b0 : decide (x12_2 < ((wrap64 ((l0_1.length : Int) + (l1_1.length : Int))))) = true := decide_eq_true c51
                      clear c51
                      by_cases c52 : 0 ≤ x12_2
                      · rw [if_pos c52] at H
                        have c52b0 : decide (0 ≤ x12_2) = true := decide_eq_true c52
                        clear c52
                        by_cases c53 : x12_2 < (x6_1.length : Int)
                        · rw [if_pos c53] at H
                          have c53b0 : decide (x12_2 < (x6_1.length : Int)) = true := decide_eq_true c53
                          clear c53
                          obtain ⟨ji54, hji54⟩ : ∃ j_ : Int, (wrap64 ((wrap64 (((wrap64 ((l0_1.length : Int) + (l1_1.length : Int)))) - 1)) - x12_2)) = j_ := ⟨_, rfl⟩
                          replace H : (if 0 ≤ (ji54) then (if (ji54) < (x11_2.length : Int) then (spec_Int_Mul.l2 k2 ((wrap64 ((l0_1.length : Int) + (l1_1.length : Int)))) x6_1 (x11_2.set ((ji54) : Int).toNat ((rd x6_1 x12_2) % 256)) (wrap64 (x12_2 + 1)) a0_0 l0_1 a1_0 l1_1) else (none)) else (none)) = some (r1, r2) := by first | (rw [hji54] at H; exact H) | (simp only [hji54] at H ⊢; exact H)
                          have hji54w : (IntKind.i64.wrap ((wrap64 (((wrap64 ((l0_1.length : Int) + (l1_1.length : Int)))) - 1)) - x12_2)) = ji54 := (i64_w _).trans hji54
                          by_cases c55 : 0 ≤ (ji54)
                          · rw [if_pos c55] at H
                            have c55b0 : decide (0 ≤ (ji54)) = true := decide_eq_true c55
                            clear c55
                            by_cases c56 : (ji54) < (x11_2.length : Int)
                            · rw [if_pos c56] at H
                              have c56b0 : decide ((ji54) < (x11_2.length : Int)) = true := decide_eq_true c56
                              clear c56
                              obtain ⟨y342, hy342⟩ : ∃ y_ : List Int, y_ = (x11_2.set ((ji54) : Int).toNat ((rd x6_1 x12_2) % 256)) := ⟨_, rfl⟩
                              replace H : (spec_Int_Mul.l2 k2 ((wrap64 ((l0_1.length : Int) + (l1_1.length : Int)))) x6_1 y342 (wrap64 (x12_2 + 1)) a0_0 l0_1 a1_0 l1_1) = some (r1, r2) := by first | (rw [hy342]; with_reducible exact H) | (have H2_ := (Option.bind_some _ _).symm.trans H; rw [hy342]; with_reducible exact H2_) | (have H2_ := (Option.bind_some _ _).symm.trans H; with_reducible exact H2_) | with_reducible exact H | (rw [hy342]; exact H) | exact H
                              have Ny342 := Aside0.mk hy342
                              clear hy342
                              have H' := Aside0.mk H
                              clear H
                              obtain ⟨Ao58, co58, eo58⟩ := Kd.R_slice HO_6.out
                              subst eo58
                              have p341 : 0 ≤ (x12_2 : Int) := of_decide_eq_true (by first | (with_reducible assumption) | assumption)
                              have q341 : x12_2 < (x6_1.length : Int) := of_decide_eq_true (by first | (with_reducible assumption) | assumption)
                              obtain ⟨ad341, e341, hx341_0⟩ := Kd.at_int (Kd.R_reads' HO_6.out).2.2 x12_2 p341 q341
                              cases e341
                              replace p341 := eq_true p341
                              replace q341 := eq_true q341
                              have p57 : 0 ≤ ((ji54) : Int) := of_decide_eq_true (by first | (with_reducible assumption) | assumption)
                              have q57 : ((ji54) : Int) < ((x11_2.length : Int) : Int) := of_decide_eq_true (by first | (with_reducible assumption) | assumption)
                              obtain ⟨go57, co57, eo57, gb57, gl57, cl57, HG57⟩ := Kd.R_form HO_11.out (by omega)
                              (first | cases eo57 | (injection eo57 with ea_ en_ ec_; (first | subst ea_ | (injection ea_ with ea_; subst ea_)); subst ec_; clear en_))
                              have GB57 := Aside0.mk gb57
                              have GG57 := Aside0.mk HG57
                              clear gb57 gl57 HG57
                              obtain ⟨hx57_0, hf57_0⟩ := Kd.R_celln 0 HO_11.out ((ji54) : Int) p57 q57
                              replace p57 := eq_true p57
                              replace q57 := eq_true q57
                              have HP59 := Kd.R_putg HO_11.out ((ji54) : Int) ((rd x6_1 x12_2) % 256)
                              go_wp2_with (first | ((with_reducible refine gate_store (t := 5) (p := 85) rfl ?_); (try (rw [drewN_self wr]; generalize hq_ : World.drewN wr _ = wr; have n0_ := Aside0.mk (Kd.R_at hq_ HO_6.out); have n1_ := Aside0.mk (Kd.R_at hq_ HO_11.out); have n2_ := Aside0.mk (blk_at hq_ BK328.out); have n3_ := Aside0.mk (blk_at hq_ BK329.out); have n4_ := Aside0.mk (blk_at hq_ BK330.out); have n5_ := Aside0.mk (below_at hq_ HB.out); clear hq_ HO_6 HO_11 BK328 BK329 BK330 HB; have HO_6 := n0_; have HO_11 := n1_; have BK328 := n2_; have BK329 := n3_; have BK330 := n4_; have HB := n5_; clear n0_ n1_ n2_ n3_ n4_ n5_; (try (have HP59 := Kd.R_putg HO_11.out ((ji54) : Int) ((rd x6_1 x12_2) % 256))))); refine store_event (t := 5) (p := 85) (v := ?vo_w60) (w1 := (wr.setCell ⟨go57, ((ji54) : Int).toNat, none⟩ (.int .u8 ((rd x6_1 x12_2) % 256)))) ?hg ?ho ?hn ?hr ?_; (case ho => rfl); (case hg => rfl); (case hn => rfl); (case hr => first | (go_simp; done) | (go_simp; rfl)); intro w60 hw; have hg : wr.grownBy w60 (some go57) := (by rw [hw]; exact HP59.2); have hp_ : Kd.R (Kd.int .u8) 5 w60 w.heap.size (fun _ => True) (.slice (some ⟨go57, 0, none⟩) x11_2.length co57) y342 := (by rw [hw, Ny342.out]; exact HP59.1); clear HP59; have n0_ := Aside0.mk (Kd.R_over' (v := (.slice (some ⟨go57, 0, none⟩) x11_2.length co57)) HO_6.out (Kd.R_typed HO_11.out) (by decide) hg); have n1_ := Aside0.mk (hp_); have n2_ := Aside0.mk (blk_grown (g := gb328) (o := .cells #[.bool a0_0, .slice A0_1 l0_1.length c0_1] 24 (0, 0)) BK328.out hg (Kd.R_ne HO_11.out BK328.out (by decide))); have n3_ := Aside0.mk (blk_grown (g := gb329) (o := .cells #[.bool a1_0, .slice A1_1 l1_1.length c1_1] 24 (0, 0)) BK329.out hg (Kd.R_ne HO_11.out BK329.out (by decide))); have n4_ := Aside0.mk (blk_grown (g := gb330) (o := .cells #[.bool false, .slice none 0 0] 24 (0, 0)) BK330.out hg (Kd.R_ne HO_11.out BK330.out (by decide))); have n5_ := Aside0.mk ((by rw [hw]; exact below_set (HB.out) GB57.out : Below w.heap.size w w60)); clear HO_6; clear HO_11; clear BK328; clear BK329; clear BK330; clear HB; have HO_6 := n0_; have HO_11 := n1_; have BK328 := n2_; have BK329 := n3_; have BK330 := n4_; have HB := n5_; clear n0_ n1_ n2_ n3_ n4_ n5_; clear hg hw hp_))
                              go_roundg k2
                              case measure => have := HK1.out; have := HK2.out; omega
                              case rel => exact ⟨(y342), (wrap64 (x12_2 + 1)), (by first | rfl | (simp; done) | (simp [*]; done)), H', ⟨by have := HK1.out; have := HK2.out; omega⟩, ⟨by (with_reducible repeat (first | apply Kd.R_alloc | apply Kd.R_drewN | apply Kd.R_drew)); exact HO_6.out⟩, ⟨by (with_reducible repeat (first | apply Kd.R_alloc | apply Kd.R_drewN | apply Kd.R_drew)); exact HO_11.out⟩, ⟨by (with_reducible repeat (first | refine blk_drewN ?_ _ | refine blk_drew ?_ | refine blk_alloc ?_ _)); exact BK328.out⟩, ⟨by (with_reducible repeat (first | refine blk_drewN ?_ _ | refine blk_drew ?_ | refine blk_alloc ?_ _)); exact BK329.out⟩, ⟨by (with_reducible repeat (first | refine blk_drewN ?_ _ | refine blk_drew ?_ | refine blk_alloc ?_ _)); exact BK330.out⟩, ⟨by repeat (first | (with_reducible first | exact HB.out | apply below_alloc | apply pw_below_drewN | apply below_drew1 | refine below_set ?_ GE328.out | refine below_set ?_ GE329.out | refine below_set ?_ GE330.out) | exact HB.out)⟩⟩
                            · rw [if_neg c56] at H
                              exact absurd H (by simp)
                          · rw [if_neg c55] at H
                            exact absurd H (by simp)
                        · rw [if_neg c53] at H
                          exact absurd H (by simp)
                      · rw [if_neg c52] at H
                        exact absurd H (by simp)
                    · rw [if_neg c51] at H
                      have c51b0 : decide (x12_2 < ((wrap64 ((l0_1.length : Int) + (l1_1.length : Int))))) = false := decide_eq_false c51
                      clear c51
                      replace H := Option.bind_eq_some_iff.mp H
                      obtain ⟨⟨t343, t344⟩, A610, H⟩ := H
                      replace H : (some (t343, t344)) = some (r1, r2) := H
                      replace A610 : spec_Of.f k2 (!(a0_0 == a1_0)) x11_2 = some (t343, t344) := A610
                      have A61 := Aside0.mk A610
                      clear A610
                      simp only [Option.some.injEq, Prod.mk.injEq] at H
                      obtain ⟨rfl, rfl⟩ := H
                      have hnb62 := NB328_329.out
                      have hnc62 := NB329_328.out
                      have hnb63 := NB328_330.out
                      have hnc63 := NB330_328.out
                      have hcz64_0 : wr.cell? ⟨gb328, 0, none⟩ = some (.bool a0_0) := (blk_cell BK328.out 0).trans rfl
                      have hcz64_1 : wr.cell? ⟨gb328, 1, none⟩ = some (.slice A0_1 l0_1.length c0_1) := (blk_cell BK328.out 1).trans rfl
                      have hfz64_0 := blk_frozen BK328.out 0
                      have hfz64_1 := blk_frozen BK328.out 1
                      have hnb65 := NB329_330.out
                      have hnc65 := NB330_329.out
                      have hcz66_0 : wr.cell? ⟨gb329, 0, none⟩ = some (.bool a1_0) := (blk_cell BK329.out 0).trans rfl
                      have hcz66_1 : wr.cell? ⟨gb329, 1, none⟩ = some (.slice A1_1 l1_1.length c1_1) := (blk_cell BK329.out 1).trans rfl
                      have hfz66_0 := blk_frozen BK329.out 0
                      have hfz66_1 := blk_frozen BK329.out 1
                      obtain ⟨Ao67, co67, eo67⟩ := Kd.R_slice HO_11.out
                      subst eo67
                      go_wp2_with (first | (go_at_call 15; (with_reducible refine (spec_Of.calls k2 (!(a0_0 == a1_0)) _ _ x11_2 t343 t344 _ ?side1 ?side2 A61.out).mono ?_); (case side1 => repeat (first | exact (Kd.R_reads' HO_11.out).2.2 | (with_reducible refine Kd.C_alloc ?_ _) | (with_reducible refine Kd.C_drewN ?_ _) | (with_reducible refine Kd.C_drew ?_))); (case side2 => exact (Kd.R_reads' HO_11.out).2.1); rintro e w68 ⟨v345, rfl, ho0, hb⟩; have n0_ := Aside0.mk (Kd.R_below HO_6.out hb); have n1_ := Aside0.mk (Kd.R_elder' HO_11.out (Kd.R_base ho0) hb); have n2_ := Aside0.mk (Kd.R_lower (Kd.R_new' ho0 (Kd.R_lt HO_11.out)) (below_size HB.out)); have n3_ := Aside0.mk (blk_below BK328.out hb); have n4_ := Aside0.mk (blk_below BK329.out hb); have n5_ := Aside0.mk (blk_below BK330.out hb); have n6_ := Aside0.mk (below_step HB.out hb); clear HO_6; clear HO_11; clear BK328; clear BK329; clear BK330; clear HB; have HO_6 := n0_; have HO_11 := n1_; have HO346 := n2_; have BK328 := n3_; have BK329 := n4_; have BK330 := n5_; have HB := n6_; clear n0_ n1_ n2_ n3_ n4_ n5_ n6_; (try clear hb); (try clear hb2); (try clear hk); (try clear hi); (try clear ho0); have hcz69_0 : w68.cell? ⟨gb330, 0, none⟩ = some (.bool false) := (blk_cell BK330.out 0).trans rfl; have hcz69_1 : w68.cell? ⟨gb330, 1, none⟩ = some (.slice none 0 0) := (blk_cell BK330.out 1).trans rfl; have hfz69_0 := blk_frozen BK330.out 0; have hfz69_1 := blk_frozen BK330.out 1; obtain ⟨Ao70, co70, eo70⟩ := Kd.R_slice HO346.out; subst eo70))
                      refine bodyPost_ret (results_cell_row rfl _ _ gb330 24 #[.bool t343, .slice Ao70 t344.length co70] (0, 0) _ rfl (by (with_reducible repeat (first | refine blk_drewN ?_ _ | refine blk_drew ?_ | refine blk_alloc ?_ _)); refine blk_put (cs := #[.bool t343, .slice none 0 0]) ?_ 1 _ rfl; (with_reducible repeat (first | refine blk_drewN ?_ _ | refine blk_drew ?_ | refine blk_alloc ?_ _)); refine blk_put (cs := #[.bool false, .slice none 0 0]) ?_ 0 _ rfl; (with_reducible repeat (first | refine blk_drewN ?_ _ | refine blk_drew ?_ | refine blk_alloc ?_ _)); exact BK330.out) Tryz.underlying24 rfl (by kernel_rfl)) rfl ?_
                      exact ⟨_, by first | rfl | (simp [errW_none, errW_some] <;> rfl) | (simp only [← hji43]; first | rfl | (simp [errW_none, errW_some] <;> rfl)) | (simp [*, errW_none, errW_some] <;> rfl), by (with_reducible repeat (first | apply Kd.R_alloc | apply Kd.R_drewN | apply Kd.R_drew)); exact Kd.R_mono (Kd.R_far (p := ⟨gb330, 1, none⟩) (Kd.R_far (p := ⟨gb330, 0, none⟩) (Kd.R_types HO346.out BK330.out (by decide)) (fun _ hk => hk.2) (.bool t343)) (fun _ hk => hk.2) (.slice Ao70 t344.length co70)) (fun _ hk => trivial), by repeat (first | (with_reducible first | exact HB.out | apply below_alloc | apply pw_below_drewN | apply below_drew1 | refine below_set ?_ GE328.out | refine below_set ?_ GE329.out | refine below_set ?_ GE330.out) | exact HB.out)⟩
              · rw [if_neg c45] at H
                exact absurd H (by simp)
            · rw [if_neg c44] at H
              exact absurd H (by simp)
    · rw [if_neg c5] at H
      exact absurd H (by simp)
  · rw [if_neg c4] at H
    exact absurd H (by simp)


/-! ### spec_Int_Zero: function 36 -/
set_option maxHeartbeats 8000000 in
set_option maxRecDepth 100000 in
theorem spec_Int_Zero.calls (a0_0 : Bool) (A0_1 : Option Addr) (c0_1 : Nat) (l0_1 : List Int) (r : Bool) (w : World) (hr0_1 : Kd.C (Kd.int .u8) w A0_1 l0_1.length l0_1) (hc0_1 : l0_1.length ≤ c0_1) (h : spec_Int_Zero.f a0_0 l0_1 = some r) :
    Calls Tryz.prog 36 #[.agg #[.bool a0_0, .slice A0_1 l0_1.length c0_1]] w fun e w' => e = .returned (.bool r) ∧ Below w.heap.size w w' := by
  have hu24 := Tryz.underlying24
  have HR0_1 := Aside0.mk hr0_1
  have HC0_1 := Aside0.mk hc0_1
  clear hr0_1 hc0_1
  have HB := Aside0.mk (Below.refl w.heap.size w)
  have H : (some ((l0_1.length : Int) == 0)) = some r := h
  clear h
  obtain rfl := Option.some.inj H
  go_enter Tryz.func36, Tryz.ntmps36
  go_wp2_with (first | ((with_reducible refine gate_dst (N := 1) rfl ?_); refine box_event ?hg (N := 1) ?hd (cs := #[.bool a0_0, .slice A0_1 l0_1.length c0_1]) (t := 24) ?hr ?_; (case hd => rfl); (case hg => rfl); (case hr => first | (go_simp; done) | (go_simp; rfl)); intro gb327 hg w2 hbox hb; have n0_ := Aside0.mk (below_step HB.out hb); have n1_ := Aside0.mk (hbox); have n2_ := Aside0.mk ((by rw [hg]; exact (below_size HB.out) : w.heap.size ≤ gb327)); have n3_ := Aside0.mk ((by rw [hg]; exact (below_size HB.out) : w.heap.size ≤ gb327)); clear HB; have HB := n0_; have BK327 := n1_; have GW327 := n2_; have GE327 := n3_; clear n0_ n1_ n2_ n3_; clear hb hbox hg; have hcz3_0 : w2.cell? ⟨gb327, 0, none⟩ = some (.bool a0_0) := (blk_cell BK327.out 0).trans rfl; have hcz3_1 : w2.cell? ⟨gb327, 1, none⟩ = some (.slice A0_1 l0_1.length c0_1) := (blk_cell BK327.out 1).trans rfl; have hfz3_0 := blk_frozen BK327.out 0; have hfz3_1 := blk_frozen BK327.out 1))
  go_ret
  exact ⟨by first | rfl | (simp [errW_none, errW_some] <;> rfl) | (simp [*, errW_none, errW_some] <;> rfl), by repeat (first | (with_reducible first | exact HB.out | apply below_alloc | apply pw_below_drewN | apply below_drew1 | refine below_set ?_ GE327.out) | exact HB.out)⟩


/-! ### spec_Power: function 21 -/
theorem spec_Power.mono : ∀ a0 k, LeO (spec_Power.f k a0) (spec_Power.f (k + 1) a0) := by
  intro a0 k
  unfold spec_Power.f
  repeat' first
      | (with_reducible exact spec_Of.mono _ _ _)
      | (with_reducible exact LeO.refl _)
      | (with_reducible exact LeO.none _)
      | (with_reducible refine LeO.ite ?_ ?_)
      | (with_reducible refine LeO.bind ?_ (fun _ => ?_))
      | exact spec_Of.mono _ _ _
      | exact LeO.none _
      | refine LeO.ite ?_ ?_
      | refine LeO.bind ?_ (fun _ => ?_)
set_option maxHeartbeats 8000000 in
set_option maxRecDepth 100000 in
theorem spec_Power.calls (k : Nat) (a0 : Int) (r1 : Bool) (r2 : List Int) (w : World) (h : spec_Power.f k a0 = some (r1, r2)) :
    Calls Tryz.prog 21 #[.int .i64 a0] w fun e w' => ∃ v1_ : Value, e = .returned (.agg #[.bool r1, v1_]) ∧ Kd.R (Kd.int .u8) 5 w' w.heap.size (fun _ => True) v1_ r2 ∧ Below w.heap.size w w' := by
  have hu24 := Tryz.underlying24
  have HB := Aside0.mk (Below.refl w.heap.size w)
  have H : (if 0 ≤ (wrap64 ((wrap64 (Int.tdiv a0 8)) + 1)) then (if (wrap64 ((wrap64 (Int.tdiv a0 8)) + 1) : Int).toNat ≤ 281474976710656 then ((some (List.replicate (wrap64 ((wrap64 (Int.tdiv a0 8)) + 1) : Int).toNat 0 : List Int)).bind fun y151 => (if 0 ≤ (IntKind.u64.wrap (Int.tmod a0 8)) then (if 0 < (y151.length : Int) then ((spec_Of.f k false (y151.set (0 : Int).toNat (shl .u8 1 (IntKind.u64.wrap (Int.tmod a0 8))))).bind fun bt155 => (some (bt155.1, bt155.2))) else (none)) else (none))) else (none)) else (none)) = some (r1, r2) := h
  clear h
  obtain ⟨ji2, hji2⟩ : ∃ j_ : Int, (wrap64 ((wrap64 (Int.tdiv a0 8)) + 1)) = j_ := ⟨_, rfl⟩
  replace H : (if 0 ≤ (ji2) then (if (ji2 : Int).toNat ≤ 281474976710656 then ((some (List.replicate (ji2 : Int).toNat 0 : List Int)).bind fun y151 => (if 0 ≤ (IntKind.u64.wrap (Int.tmod a0 8)) then (if 0 < (y151.length : Int) then ((spec_Of.f k false (y151.set (0 : Int).toNat (shl .u8 1 (IntKind.u64.wrap (Int.tmod a0 8))))).bind fun bt155 => (some (bt155.1, bt155.2))) else (none)) else (none))) else (none)) else (none)) = some (r1, r2) := by first | (rw [hji2] at H; exact H) | (simp only [hji2] at H ⊢; exact H)
  have hji2w : (IntKind.i64.wrap ((wrap64 (Int.tdiv a0 8)) + 1)) = ji2 := (i64_w _).trans hji2
  by_cases c3 : 0 ≤ (ji2)
  · rw [if_pos c3] at H
    have c3b0 := eq_true c3
    have c3b1 : decide (0 ≤ (ji2)) = true := decide_eq_true c3
    clear c3
    by_cases c4 : (ji2 : Int).toNat ≤ 281474976710656
    · rw [if_pos c4] at H
      have c4b0 := eq_true c4
      have c4b1 : decide ((ji2 : Int).toNat ≤ 281474976710656) = true := decide_eq_true c4
      clear c4
      obtain ⟨y151, hy151⟩ : ∃ y_ : List Int, y_ = (List.replicate (ji2 : Int).toNat 0) := ⟨_, rfl⟩
      replace H : (if 0 ≤ (IntKind.u64.wrap (Int.tmod a0 8)) then (if 0 < (y151.length : Int) then ((spec_Of.f k false (y151.set (0 : Int).toNat (shl .u8 1 (IntKind.u64.wrap (Int.tmod a0 8))))).bind fun bt155 => (some (bt155.1, bt155.2))) else (none)) else (none)) = some (r1, r2) := by first | (rw [hy151]; with_reducible exact H) | (have H2_ := (Option.bind_some _ _).symm.trans H; rw [hy151]; with_reducible exact H2_) | (have H2_ := (Option.bind_some _ _).symm.trans H; with_reducible exact H2_) | with_reducible exact H | (rw [hy151]; exact H) | exact H
      have Ny151 := Aside0.mk hy151
      clear hy151
      obtain ⟨ji5, hji5⟩ : ∃ j_ : Int, (IntKind.u64.wrap (Int.tmod a0 8)) = j_ := ⟨_, rfl⟩
      replace H : (if 0 ≤ (ji5) then (if 0 < (y151.length : Int) then ((spec_Of.f k false (y151.set (0 : Int).toNat (shl .u8 1 (ji5)))).bind fun bt155 => (some (bt155.1, bt155.2))) else (none)) else (none)) = some (r1, r2) := by first | (rw [hji5] at H; exact H) | (simp only [hji5] at H ⊢; exact H)
      by_cases c6 : 0 ≤ (ji5)
      · rw [if_pos c6] at H
        have c6b0 := eq_true c6
        have c6b1 : decide (0 ≤ (ji5)) = true := decide_eq_true c6
        clear c6
        obtain ⟨ji7, hji7⟩ : ∃ j_ : Int, (shl .u8 1 (ji5)) = j_ := ⟨_, rfl⟩
        replace H : (if 0 < (y151.length : Int) then ((spec_Of.f k false (y151.set (0 : Int).toNat (ji7))).bind fun bt155 => (some (bt155.1, bt155.2))) else (none)) = some (r1, r2) := by first | (rw [hji7] at H; exact H) | (simp only [hji7] at H ⊢; exact H)
        have hji7_ : (IntKind.u8.wrap (1 * 2 ^ min (ji5).toNat 8)) = ji7 := hji7
        have hji7z : (ji5) ≤ 8 → (IntKind.u8.wrap (1 * 2 ^ (ji5).toNat)) = ji7 := shl_small hji7
        have hji7u : (IntKind.u8.wrap (2 ^ min (ji5).toNat 8)) = ji7 := by have h_ := hji7_; rw [Int.one_mul] at h_; exact h_
        have hji7v : (ji5) ≤ 8 → (IntKind.u8.wrap (2 ^ (ji5).toNat)) = ji7 := fun hle_ => by have h_ := hji7z hle_; rw [Int.one_mul] at h_; exact h_
        by_cases c8 : 0 < (y151.length : Int)
        · rw [if_pos c8] at H
          have c8b0 : decide (0 < (y151.length : Int)) = true := decide_eq_true c8
          have c8b1 : decide (0 < y151.length) = true := decide_eq_true (by omega)
          clear c8
          obtain ⟨y154, hy154⟩ : ∃ y_ : List Int, y_ = (y151.set (0 : Int).toNat (ji7)) := ⟨_, rfl⟩
          replace H : ((spec_Of.f k false y154).bind fun bt155 => (some (bt155.1, bt155.2))) = some (r1, r2) := by first | (rw [hy154]; with_reducible exact H) | (have H2_ := (Option.bind_some _ _).symm.trans H; rw [hy154]; with_reducible exact H2_) | (have H2_ := (Option.bind_some _ _).symm.trans H; with_reducible exact H2_) | with_reducible exact H | (rw [hy154]; exact H) | exact H
          have Ny154 := Aside0.mk hy154
          clear hy154
          replace H := Option.bind_eq_some_iff.mp H
          obtain ⟨⟨t155, t156⟩, A100, H⟩ := H
          replace H : (some (t155, t156)) = some (r1, r2) := H
          have A10 := Aside0.mk A100
          clear A100
          simp only [Option.some.injEq, Prod.mk.injEq] at H
          obtain ⟨rfl, rfl⟩ := H
          go_enter Tryz.func21, Tryz.ntmps21
          go_wp2_with (first | ((with_reducible refine gate_dst (N := 2) rfl ?_); refine box_event ?hg (N := 2) ?hd (cs := #[.bool false, .slice none 0 0]) (t := 24) ?hr ?_; (case hd => rfl); (case hg => rfl); (case hr => first | (go_simp; done) | (go_simp; rfl)); intro gb150 hg w11 hbox hb; have n0_ := Aside0.mk (below_step HB.out hb); have n1_ := Aside0.mk (hbox); have n2_ := Aside0.mk ((by rw [hg]; exact (below_size HB.out) : w.heap.size ≤ gb150)); have n3_ := Aside0.mk ((by rw [hg]; exact (below_size HB.out) : w.heap.size ≤ gb150)); clear HB; have HB := n0_; have BK150 := n1_; have GW150 := n2_; have GE150 := n3_; clear n0_ n1_ n2_ n3_; clear hb hbox hg) | ((with_reducible refine gate_dst (N := 7) rfl ?_); refine Kd.R_make (Kd.int .u8) _ 5 rfl (N := 7) rfl 22 _ _ rfl ji2 rfl rfl Tryz.underlying22 (.int .u8 0) 1 info5 rfl (by decide) (by omega) 0 (ok := fun _ => True) (okp := fun _ => True) rfl (fun _ hk => hk) trivial (of_decide_eq_true (by first | (with_reducible assumption) | assumption)) (Nat.le_trans (Nat.mul_le_mul_right _ (of_decide_eq_true (by first | (with_reducible assumption) | assumption) : ji2.toNat ≤ 281474976710656)) (by omega)) (Below.refl _ _) (Nat.le_refl _) ?_; intro v152 w12 ho13 hb hg_ hnew_; clear hg_ hnew_; (first | rw [← Ny151.out] at ho13 | (simp only [Int.reduceToNat] at ho13; rw [← Ny151.out] at ho13)); have n0_ := Aside0.mk (Kd.R_lower ho13 (below_size HB.out)); have n1_ := Aside0.mk (blk_below BK150.out hb); have n2_ := Aside0.mk (below_step HB.out hb); clear BK150; clear HB; have HO153 := n0_; have BK150 := n1_; have HB := n2_; clear n0_ n1_ n2_; clear hb ho13; have p9 : 0 ≤ (0 : Int) := (by omega); have q9 : (0 : Int) < ((y151.length : Int) : Int) := of_decide_eq_true (by first | (with_reducible assumption) | assumption); have qi9 : (0 < y151.length) = True := eq_true (by omega); obtain ⟨go9, co9, eo9, gb9, gl9, cl9, HG9⟩ := Kd.R_form HO153.out (by omega); (first | cases eo9 | (injection eo9 with ea_ en_ ec_; (first | subst ea_ | (injection ea_ with ea_; subst ea_)); subst ec_; clear en_)); have GB9 := Aside0.mk gb9; have GG9 := Aside0.mk HG9; clear gb9 gl9 HG9; obtain ⟨hx9_0, hf9_0⟩ := Kd.R_celln 0 HO153.out (0 : Int) p9 q9; (try rw [show ((0 : Int)).toNat = 0 from rfl] at hx9_0); (try simp only [Nat.reduceMul, Nat.zero_mul, Nat.zero_add, Nat.reduceAdd] at hx9_0); (try rw [show ((0 : Int)).toNat = 0 from rfl] at hf9_0); (try simp only [Nat.reduceMul, Nat.zero_mul, Nat.zero_add, Nat.reduceAdd] at hf9_0); replace p9 := eq_true p9; replace q9 := eq_true q9; obtain ⟨hy14_, hz14_⟩ := Kd.R_celln 0 HO153.out (0 : Int) (by omega) (of_decide_eq_true (by first | (with_reducible assumption) | assumption)); (try simp only [Int.reduceToNat, Int.toNat_zero, Int.toNat_ofNat, Nat.reduceMul, Nat.zero_mul, Nat.zero_add] at hy14_ hz14_); (try rw [show ((0 : Int)).toNat = 0 from rfl] at hy14_); (try rw [show ((0 : Int)).toNat = 0 from rfl] at hz14_); have HP14 := Kd.R_putg HO153.out (0 : Int) ji7) | ((with_reducible refine gate_store (t := 5) (p := 13) rfl ?_); refine store_event (t := 5) (p := 13) (v := ?vo_w15) (w1 := (w12.setCell ⟨go9, (0 : Int).toNat, none⟩ (.int .u8 ji7))) ?hg ?ho ?hn ?hr ?_; (case ho => rfl); (case hg => rfl); (case hn => rfl); (case hr => first | (go_simp; done) | (go_simp; rfl)); intro w15 hw; have hg : w12.grownBy w15 (some go9) := (by rw [hw]; exact HP14.2); have hp_ : Kd.R (Kd.int .u8) 5 w15 w.heap.size (fun _ => True) (.slice (some ⟨go9, 0, none⟩) y151.length co9) y154 := (by rw [hw, Ny154.out]; exact HP14.1); clear HP14; have n0_ := Aside0.mk (blk_grown (g := gb150) (o := .cells #[.bool false, .slice none 0 0] 24 (0, 0)) BK150.out hg (Kd.R_ne HO153.out BK150.out (by decide))); have n1_ := Aside0.mk (hp_); have n2_ := Aside0.mk ((by rw [hw]; exact below_set (HB.out) GB9.out : Below w.heap.size w w15)); clear BK150; clear HO153; clear HB; have BK150 := n0_; have HO153 := n1_; have HB := n2_; clear n0_ n1_ n2_; clear hg hw hp_) | ((with_reducible refine gate_callee (f := 15) rfl ?_); refine goesL_ (some 15) rfl rfl Tryz.func15 (by kernel_rfl) rfl #[.bool false, .slice (some ⟨go9, 0, none⟩) y154.length co9] rfl (by (try simp only [List.map_toArray, List.map_cons, List.map_nil]); first | done | (rw [show y154.length = y151.length from (Kd.R_reads' HO153.out).1.symm] <;> rfl) | rfl | (simp only [List.length_drop, List.length_take]; rfl)) ?_; (with_reducible refine (spec_Of.calls k false _ _ y154 t155 t156 _ ?side1 ?side2 A10.out).mono ?_); (case side1 => repeat (first | exact (Kd.R_reads' HO153.out).2.2 | (with_reducible refine Kd.C_alloc ?_ _) | (with_reducible refine Kd.C_drewN ?_ _) | (with_reducible refine Kd.C_drew ?_))); (case side2 => rw [show y154.length = y151.length from (Kd.R_reads' HO153.out).1.symm]; exact (Kd.R_reads' HO153.out).2.1); rintro e w16 ⟨v157, rfl, ho0, hb⟩; refine ⟨_, rfl, ?_⟩; have n0_ := Aside0.mk (Kd.R_elder' HO153.out (Kd.R_base ho0) hb); have n1_ := Aside0.mk (Kd.R_lower (Kd.R_new' ho0 (Kd.R_lt HO153.out)) (below_size HB.out)); have n2_ := Aside0.mk (blk_below BK150.out hb); have n3_ := Aside0.mk (below_step HB.out hb); clear HO153; clear BK150; clear HB; have HO153 := n0_; have HO158 := n1_; have BK150 := n2_; have HB := n3_; clear n0_ n1_ n2_ n3_; (try clear hb); (try clear hb2); (try clear hk); (try clear hi); (try clear ho0); have hcz17_0 : w16.cell? ⟨gb150, 0, none⟩ = some (.bool false) := (blk_cell BK150.out 0).trans rfl; have hcz17_1 : w16.cell? ⟨gb150, 1, none⟩ = some (.slice none 0 0) := (blk_cell BK150.out 1).trans rfl; have hfz17_0 := blk_frozen BK150.out 0; have hfz17_1 := blk_frozen BK150.out 1; obtain ⟨Ao18, co18, eo18⟩ := Kd.R_slice HO158.out; subst eo18))
          refine bodyPost_ret (results_cell_row rfl _ _ gb150 24 #[.bool t155, .slice Ao18 t156.length co18] (0, 0) _ rfl (by (with_reducible repeat (first | refine blk_drewN ?_ _ | refine blk_drew ?_ | refine blk_alloc ?_ _)); refine blk_put (cs := #[.bool t155, .slice none 0 0]) ?_ 1 _ rfl; (with_reducible repeat (first | refine blk_drewN ?_ _ | refine blk_drew ?_ | refine blk_alloc ?_ _)); refine blk_put (cs := #[.bool false, .slice none 0 0]) ?_ 0 _ rfl; (with_reducible repeat (first | refine blk_drewN ?_ _ | refine blk_drew ?_ | refine blk_alloc ?_ _)); exact BK150.out) Tryz.underlying24 rfl (by kernel_rfl)) rfl ?_
          exact ⟨_, by first | rfl | (simp [errW_none, errW_some] <;> rfl) | (simp only [← hji2, ← hji5, ← hji7]; first | rfl | (simp [errW_none, errW_some] <;> rfl)) | (simp [*, errW_none, errW_some] <;> rfl), by (with_reducible repeat (first | apply Kd.R_alloc | apply Kd.R_drewN | apply Kd.R_drew)); exact Kd.R_mono (Kd.R_far (p := ⟨gb150, 1, none⟩) (Kd.R_far (p := ⟨gb150, 0, none⟩) (Kd.R_types HO158.out BK150.out (by decide)) (fun _ hk => hk.2) (.bool t155)) (fun _ hk => hk.2) (.slice Ao18 t156.length co18)) (fun _ hk => trivial), by repeat (first | (with_reducible first | exact HB.out | apply below_alloc | apply pw_below_drewN | apply below_drew1 | refine below_set ?_ GE150.out) | exact HB.out)⟩
        · rw [if_neg c8] at H
          exact absurd H (by simp)
      · rw [if_neg c6] at H
        exact absurd H (by simp)
    · rw [if_neg c4] at H
      exact absurd H (by simp)
  · rw [if_neg c3] at H
    exact absurd H (by simp)


end Go.Proofs.YtodipcgilgigbaaGreatDoor.I
