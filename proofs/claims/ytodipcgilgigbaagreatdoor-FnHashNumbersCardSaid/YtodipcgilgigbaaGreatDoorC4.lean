/- Contracts of this claim's functions: each call gives what the plain mirror (in the text D) gives; the proofs are the kit's print, over D's definitions. -/
import Derived.Test.YtodipcgilgigbaaGreatDoorC3
namespace Go.Proofs.YtodipcgilgigbaaGreatDoor.I
open Go.RowKit Go.Proofs.YtodipcgilgigbaaGreatDoorW.PrintWords Go.Proofs.YtodipcgilgigbaaGreatDoorW.PrintLast Go.Proofs.YtodipcgilgigbaaGreatDoorW.PrintMore
attribute [local go_sem] max2_int min2_int max_two min_two max_three min_three max_four min_four
set_option linter.unusedVariables false
set_option linter.unusedSimpArgs false

/-! ### spec_Int_Lsh: function 19 -/
theorem spec_Int_Lsh.mono : ∀ a0 a1 a2 k, LeO (spec_Int_Lsh.f k a0 a1 a2) (spec_Int_Lsh.f (k + 1) a0 a1 a2) := by
  intro a0 a1 a2 k
  unfold spec_Int_Lsh.f
  repeat' first
      | (with_reducible exact spec_Int_Mul.mono _ _ _ _ _)
      | (with_reducible exact spec_Power.mono _ _)
      | (with_reducible exact LeO.refl _)
      | (with_reducible exact LeO.none _)
      | (with_reducible refine LeO.ite ?_ ?_)
      | (with_reducible refine LeO.bind ?_ (fun _ => ?_))
      | exact spec_Int_Mul.mono _ _ _ _ _
      | exact spec_Power.mono _ _
      | exact LeO.none _
      | refine LeO.ite ?_ ?_
      | refine LeO.bind ?_ (fun _ => ?_)
set_option maxHeartbeats 8000000 in
set_option maxRecDepth 100000 in
theorem spec_Int_Lsh.calls (k : Nat) (a0_0 : Bool) (A0_1 : Option Addr) (c0_1 : Nat) (l0_1 : List Int) (a1 : Int) (r1 : Bool) (r2 : List Int) (w : World) (hr0_1 : Kd.C (Kd.int .u8) w A0_1 l0_1.length l0_1) (hc0_1 : l0_1.length ≤ c0_1) (h : spec_Int_Lsh.f k a0_0 l0_1 a1 = some (r1, r2)) :
    Calls Tryz.prog 19 #[.agg #[.bool a0_0, .slice A0_1 l0_1.length c0_1], .int .i64 a1] w fun e w' => ∃ v1_ : Value, e = .returned (.agg #[.bool r1, v1_]) ∧ Kd.R (Kd.int .u8) 5 w' w.heap.size (fun _ => True) v1_ r2 ∧ Below w.heap.size w w' := by
  have hu24 := Tryz.underlying24
  have HR0_1 := Aside0.mk hr0_1
  have HC0_1 := Aside0.mk hc0_1
  clear hr0_1 hc0_1
  have HB := Aside0.mk (Below.refl w.heap.size w)
  have H : ((spec_Int_Zero.f a0_0 l0_1).bind fun t349 => (if t349 = true then (some (false, ([] : List Int))) else ((spec_Power.f k a1).bind fun bt350 => ((spec_Int_Mul.f k a0_0 l0_1 bt350.1 bt350.2).bind fun bt354 => (some (bt354.1, bt354.2)))))) = some (r1, r2) := h
  clear h
  replace H := Option.bind_eq_some_iff.mp H
  obtain ⟨t349, A30, H⟩ := H
  replace H : (if t349 = true then (some (false, ([] : List Int))) else ((spec_Power.f k a1).bind fun bt350 => ((spec_Int_Mul.f k a0_0 l0_1 bt350.1 bt350.2).bind fun bt354 => (some (bt354.1, bt354.2))))) = some (r1, r2) := H
  have A3 := Aside0.mk A30
  clear A30
  by_cases c4 : t349 = true
  · subst c4
    have H1 : (some (false, ([] : List Int))) = some (r1, r2) := by rw [if_pos rfl] at H; exact H
    clear H
    have H := H1
    clear H1
    simp only [Option.some.injEq, Prod.mk.injEq] at H
    obtain ⟨rfl, rfl⟩ := H
    go_enter Tryz.func19, Tryz.ntmps19
    go_wp2_with (first | ((with_reducible refine gate_dst (N := 2) rfl ?_); refine box_event ?hg (N := 2) ?hd (cs := #[.bool a0_0, .slice A0_1 l0_1.length c0_1]) (t := 24) ?hr ?_; (case hd => rfl); (case hg => rfl); (case hr => first | (go_simp; done) | (go_simp; rfl)); intro gb347 hg w5 hbox hb; have n0_ := Aside0.mk (below_step HB.out hb); have n1_ := Aside0.mk (hbox); have n2_ := Aside0.mk ((by rw [hg]; exact (below_size HB.out) : w.heap.size ≤ gb347)); have n3_ := Aside0.mk ((by rw [hg]; exact (below_size HB.out) : w.heap.size ≤ gb347)); clear HB; have HB := n0_; have BK347 := n1_; have GW347 := n2_; have GE347 := n3_; clear n0_ n1_ n2_ n3_; clear hb hbox hg) | ((with_reducible refine gate_dst (N := 4) rfl ?_); refine box_event ?hg (N := 4) ?hd (cs := #[.bool false, .slice none 0 0]) (t := 24) ?hr ?_; (case hd => rfl); (case hg => rfl); (case hr => first | (go_simp; done) | (go_simp; rfl)); intro gb348 hg w6 hbox hb; have n0_ := Aside0.mk (blk_below BK347.out hb); have n1_ := Aside0.mk (below_step HB.out hb); have n2_ := Aside0.mk (hbox); have n3_ := Aside0.mk ((by rw [hg]; exact (below_size HB.out) : w.heap.size ≤ gb348)); have n4_ := Aside0.mk ((by rw [hg]; exact (below_size HB.out) : w.heap.size ≤ gb348)); have n5_ := Aside0.mk ((by rw [hg]; exact Nat.ne_of_lt (blk_lt BK347.out) : gb347 ≠ gb348)); have n6_ := Aside0.mk ((by rw [hg]; exact Nat.ne_of_gt (blk_lt BK347.out) : gb348 ≠ gb347)); clear BK347; clear HB; have BK347 := n0_; have HB := n1_; have BK348 := n2_; have GW348 := n3_; have GE348 := n4_; have NB347_348 := n5_; have NB348_347 := n6_; clear n0_ n1_ n2_ n3_ n4_ n5_ n6_; clear hb hbox hg; have hnb7 := NB347_348.out; have hnc7 := NB348_347.out; have hcz8_0 : w6.cell? ⟨gb347, 0, none⟩ = some (.bool a0_0) := (blk_cell BK347.out 0).trans rfl; have hcz8_1 : w6.cell? ⟨gb347, 1, none⟩ = some (.slice A0_1 l0_1.length c0_1) := (blk_cell BK347.out 1).trans rfl; have hfz8_0 := blk_frozen BK347.out 0; have hfz8_1 := blk_frozen BK347.out 1) | ((with_reducible refine gate_callee (f := 36) rfl ?_); refine goesL_ (some 6) rfl rfl Tryz.func36 (by kernel_rfl) rfl #[.agg #[.bool a0_0, .slice A0_1 l0_1.length c0_1]] rfl (by (try simp only [List.map_toArray, List.map_cons, List.map_nil]); first | done | rfl | (simp only [List.length_drop, List.length_take]; rfl)) ?_; (with_reducible refine (spec_Int_Zero.calls a0_0 _ _ l0_1 true _ ?side1 ?side2 A3.out).mono ?_); (case side1 => repeat (first | exact (Kd.C_below HR0_1.out HB.out) | (with_reducible refine Kd.C_alloc ?_ _) | (with_reducible refine Kd.C_drewN ?_ _) | (with_reducible refine Kd.C_drew ?_))); (case side2 => exact HC0_1.out); rintro e w9 ⟨rfl, hb⟩; refine ⟨_, rfl, ?_⟩; have n0_ := Aside0.mk (blk_below BK347.out hb); have n1_ := Aside0.mk (blk_below BK348.out hb); have n2_ := Aside0.mk (below_step HB.out hb); clear BK347; clear BK348; clear HB; have BK347 := n0_; have BK348 := n1_; have HB := n2_; clear n0_ n1_ n2_; (try clear hb); (try clear hb2); (try clear hk); (try clear hi); have hcz10_0 : w9.cell? ⟨gb348, 0, none⟩ = some (.bool false) := (blk_cell BK348.out 0).trans rfl; have hcz10_1 : w9.cell? ⟨gb348, 1, none⟩ = some (.slice none 0 0) := (blk_cell BK348.out 1).trans rfl; have hfz10_0 := blk_frozen BK348.out 0; have hfz10_1 := blk_frozen BK348.out 1))
    refine bodyPost_ret (results_cell_row rfl _ _ gb348 24 #[.bool false, .slice none 0 0] (0, 0) _ rfl (by (with_reducible repeat (first | refine blk_drewN ?_ _ | refine blk_drew ?_ | refine blk_alloc ?_ _)); refine blk_put (cs := #[.bool false, .slice none 0 0]) ?_ 1 _ rfl; (with_reducible repeat (first | refine blk_drewN ?_ _ | refine blk_drew ?_ | refine blk_alloc ?_ _)); refine blk_put (cs := #[.bool false, .slice none 0 0]) ?_ 0 _ rfl; (with_reducible repeat (first | refine blk_drewN ?_ _ | refine blk_drew ?_ | refine blk_alloc ?_ _)); exact BK348.out) Tryz.underlying24 rfl (by kernel_rfl)) rfl ?_
    exact ⟨_, by first | rfl | (simp [errW_none, errW_some] <;> rfl) | (simp [*, errW_none, errW_some] <;> rfl), by first | exact Kd.R_nil _ _ _ _ _ | exact Kd.N_nil _ _ _ _ _ | exact Kd.V_nil _ _ _ _ _ | exact Kd.Q_nil _ _ _ _ _ | exact Kd.S_nil _ _ _ _ _, by repeat (first | (with_reducible first | exact HB.out | apply below_alloc | apply pw_below_drewN | apply below_drew1 | refine below_set ?_ GE347.out | refine below_set ?_ GE348.out) | exact HB.out)⟩
  · replace c4 := Bool.eq_false_iff.mpr c4
    subst c4
    have H1 : ((spec_Power.f k a1).bind fun bt350 => ((spec_Int_Mul.f k a0_0 l0_1 bt350.1 bt350.2).bind fun bt354 => (some (bt354.1, bt354.2)))) = some (r1, r2) := by rw [if_neg (show ¬ (false = true) by decide)] at H; exact H
    clear H
    have H := H1
    clear H1
    replace H := Option.bind_eq_some_iff.mp H
    obtain ⟨⟨t350, t351⟩, A110, H⟩ := H
    replace H : ((spec_Int_Mul.f k a0_0 l0_1 t350 t351).bind fun bt354 => (some (bt354.1, bt354.2))) = some (r1, r2) := H
    have A11 := Aside0.mk A110
    clear A110
    replace H := Option.bind_eq_some_iff.mp H
    obtain ⟨⟨t354, t355⟩, A120, H⟩ := H
    replace H : (some (t354, t355)) = some (r1, r2) := H
    have A12 := Aside0.mk A120
    clear A120
    simp only [Option.some.injEq, Prod.mk.injEq] at H
    obtain ⟨rfl, rfl⟩ := H
    go_enter Tryz.func19, Tryz.ntmps19
    try go_wp2_with (first | ((with_reducible refine gate_dst (N := 2) rfl ?_); refine box_event ?hg (N := 2) ?hd (cs := #[.bool a0_0, .slice A0_1 l0_1.length c0_1]) (t := 24) ?hr ?_; (case hd => rfl); (case hg => rfl); (case hr => first | (go_simp; done) | (go_simp; rfl)); intro gb347 hg w13 hbox hb; have n0_ := Aside0.mk (below_step HB.out hb); have n1_ := Aside0.mk (hbox); have n2_ := Aside0.mk ((by rw [hg]; exact (below_size HB.out) : w.heap.size ≤ gb347)); have n3_ := Aside0.mk ((by rw [hg]; exact (below_size HB.out) : w.heap.size ≤ gb347)); clear HB; have HB := n0_; have BK347 := n1_; have GW347 := n2_; have GE347 := n3_; clear n0_ n1_ n2_ n3_; clear hb hbox hg) | ((with_reducible refine gate_dst (N := 4) rfl ?_); refine box_event ?hg (N := 4) ?hd (cs := #[.bool false, .slice none 0 0]) (t := 24) ?hr ?_; (case hd => rfl); (case hg => rfl); (case hr => first | (go_simp; done) | (go_simp; rfl)); intro gb348 hg w14 hbox hb; have n0_ := Aside0.mk (blk_below BK347.out hb); have n1_ := Aside0.mk (below_step HB.out hb); have n2_ := Aside0.mk (hbox); have n3_ := Aside0.mk ((by rw [hg]; exact (below_size HB.out) : w.heap.size ≤ gb348)); have n4_ := Aside0.mk ((by rw [hg]; exact (below_size HB.out) : w.heap.size ≤ gb348)); have n5_ := Aside0.mk ((by rw [hg]; exact Nat.ne_of_lt (blk_lt BK347.out) : gb347 ≠ gb348)); have n6_ := Aside0.mk ((by rw [hg]; exact Nat.ne_of_gt (blk_lt BK347.out) : gb348 ≠ gb347)); clear BK347; clear HB; have BK347 := n0_; have HB := n1_; have BK348 := n2_; have GW348 := n3_; have GE348 := n4_; have NB347_348 := n5_; have NB348_347 := n6_; clear n0_ n1_ n2_ n3_ n4_ n5_ n6_; clear hb hbox hg; have hnb15 := NB347_348.out; have hnc15 := NB348_347.out; have hcz16_0 : w14.cell? ⟨gb347, 0, none⟩ = some (.bool a0_0) := (blk_cell BK347.out 0).trans rfl; have hcz16_1 : w14.cell? ⟨gb347, 1, none⟩ = some (.slice A0_1 l0_1.length c0_1) := (blk_cell BK347.out 1).trans rfl; have hfz16_0 := blk_frozen BK347.out 0; have hfz16_1 := blk_frozen BK347.out 1) | ((with_reducible refine gate_callee (f := 36) rfl ?_); refine goesL_ (some 6) rfl rfl Tryz.func36 (by kernel_rfl) rfl #[.agg #[.bool a0_0, .slice A0_1 l0_1.length c0_1]] rfl (by (try simp only [List.map_toArray, List.map_cons, List.map_nil]); first | done | rfl | (simp only [List.length_drop, List.length_take]; rfl)) ?_; (with_reducible refine (spec_Int_Zero.calls a0_0 _ _ l0_1 false _ ?side1 ?side2 A3.out).mono ?_); (case side1 => repeat (first | exact (Kd.C_below HR0_1.out HB.out) | (with_reducible refine Kd.C_alloc ?_ _) | (with_reducible refine Kd.C_drewN ?_ _) | (with_reducible refine Kd.C_drew ?_))); (case side2 => exact HC0_1.out); rintro e w17 ⟨rfl, hb⟩; refine ⟨_, rfl, ?_⟩; have n0_ := Aside0.mk (blk_below BK347.out hb); have n1_ := Aside0.mk (blk_below BK348.out hb); have n2_ := Aside0.mk (below_step HB.out hb); clear BK347; clear BK348; clear HB; have BK347 := n0_; have BK348 := n1_; have HB := n2_; clear n0_ n1_ n2_; (try clear hb); (try clear hb2); (try clear hk); (try clear hi)))
    have n0_ := Aside0.mk (blk_drew BK347.out)
    have n1_ := Aside0.mk (blk_drew BK348.out)
    have n2_ := Aside0.mk (below_drew1 HB.out)
    clear BK347
    clear BK348
    clear HB
    have BK347 := n0_
    have BK348 := n1_
    have HB := n2_
    clear n0_ n1_ n2_
    refine start_ (n := 5) (S := fun w' => w'.cell? ⟨gb347, 0, none⟩ = some (.bool a0_0) ∧ w'.cell? ⟨gb347, 1, none⟩ = some (.slice A0_1 l0_1.length c0_1)) (ds := []) #[false, false, false, false, false] (by kernel_rfl) rfl rfl ⟨(blk_cell BK347.out 0).trans rfl, (blk_cell BK347.out 1).trans rfl⟩ (fun hHeld => ?_)
    generalize w17.drew = w18 at BK347 BK348 HB hHeld ⊢
    refine pure_ (i := 1) (N := some 9) (v := ?_) (a' := ?_) #[false, true, false, false, false] rfl rfl (by kernel_rfl) (fun _ _ _ h => h) (Or.inl ⟨by rfl, ?_⟩) ?_ ?_
    rotate_left
    · intro w'
      go_simp
      with_reducible rfl
    rotate_left
    · simp only [Act.put, List.setIfInBounds_toArray, List.set_cons_zero, List.set_cons_succ, i64_w, i32_w]
      rfl
    refine take_ (i := 0) (N := some 8) (v := ?_) (a' := ?_) #[true, true, false, false, false] rfl rfl (by kernel_rfl) (fun _ _ _ h => h) (Or.inl ⟨by rfl, ?_⟩) hHeld ?_ ?_
    rotate_left
    · rintro w' ⟨s0, s1⟩
      go_simp
      with_reducible rfl
    rotate_left
    · simp only [Act.put, List.setIfInBounds_toArray, List.set_cons_zero, List.set_cons_succ, i64_w, i32_w]
      rfl
    refine one_ (i := 2) (N := some 10) #[true, true, true, false, false] rfl rfl (by kernel_rfl) (by decide) (fun K hK => ?_)
    refine goes_ Tryz.func21 (by kernel_rfl) rfl #[.int .i64 a1] (by rfl) rfl rfl (by (try simp only [List.map_toArray, List.map_cons, List.map_nil]); first | done | rfl | (simp only [List.length_drop, List.length_take]; rfl)) ?_
    with_reducible refine (spec_Power.calls k a1 t350 t351 _ A11.out).mono ?_
    rintro e w19 ⟨v352, rfl, ho0, hb⟩
    refine ⟨_, rfl, ?_⟩
    have n0_ := Aside0.mk (Kd.R_lower ho0 (below_size HB.out))
    have n1_ := Aside0.mk (blk_below BK347.out hb)
    have n2_ := Aside0.mk (blk_below BK348.out hb)
    have n3_ := Aside0.mk (below_step HB.out hb)
    clear BK347
    clear BK348
    clear HB
    have HO353 := n0_
    have BK347 := n1_
    have BK348 := n2_
    have HB := n3_
    clear n0_ n1_ n2_ n3_
    (try clear hb)
    (try clear hb2)
    (try clear hk)
    (try clear hi)
    (try clear ho0)
    obtain ⟨Ao20, co20, eo20⟩ := Kd.R_slice HO353.out
    (first | subst eo20 | (injection eo20 with f1_ f2_ f3_; have f4_ := f1_.symm; have f5_ := f3_.symm; clear f1_ f2_ f3_; subst f4_; subst f5_))
    refine hK.out _ _ ⟨(blk_cell BK347.out 0).trans rfl, (blk_cell BK347.out 1).trans rfl⟩ (fun hHeld => ?_)
    clear hK K
    refine norm_ (a' := ?_) ?_ ?_
    rotate_left
    · show Act.put _ (some 10) _ = _
      simp only [Act.put, List.setIfInBounds_toArray, List.set_cons_zero, List.set_cons_succ, i64_w, i32_w]
      rfl
    refine one_ (i := 3) (N := some 11) #[true, true, true, true, false] rfl rfl (by kernel_rfl) (by decide) (fun K hK => ?_)
    refine goes_ Tryz.func37 (by kernel_rfl) rfl #[.agg #[.bool a0_0, .slice A0_1 l0_1.length c0_1], .agg #[.bool t350, .slice Ao20 t351.length co20]] (by rfl) rfl rfl (by (try simp only [List.map_toArray, List.map_cons, List.map_nil]); first | done | rfl | (simp only [List.length_drop, List.length_take]; rfl)) ?_
    with_reducible refine (spec_Int_Mul.calls k a0_0 _ _ l0_1 t350 _ _ t351 t354 t355 _ ?side1 ?side2 ?side3 ?side4 A12.out).mono ?_
    (case side1 => repeat (first | exact (Kd.C_below HR0_1.out HB.out) | (with_reducible refine Kd.C_alloc ?_ _) | (with_reducible refine Kd.C_drewN ?_ _) | (with_reducible refine Kd.C_drew ?_)))
    (case side2 => exact HC0_1.out)
    (case side3 => repeat (first | exact (Kd.R_reads' HO353.out).2.2 | (with_reducible refine Kd.C_alloc ?_ _) | (with_reducible refine Kd.C_drewN ?_ _) | (with_reducible refine Kd.C_drew ?_)))
    (case side4 => exact (Kd.R_reads' HO353.out).2.1)
    rintro e w21 ⟨v356, rfl, ho0, hb⟩
    refine ⟨_, rfl, ?_⟩
    have n0_ := Aside0.mk (Kd.R_elder' HO353.out (Kd.R_base ho0) hb)
    have n1_ := Aside0.mk (Kd.R_lower (Kd.R_new' ho0 (Kd.R_lt HO353.out)) (below_size HB.out))
    have n2_ := Aside0.mk (blk_below BK347.out hb)
    have n3_ := Aside0.mk (blk_below BK348.out hb)
    have n4_ := Aside0.mk (below_step HB.out hb)
    clear HO353
    clear BK347
    clear BK348
    clear HB
    have HO353 := n0_
    have HO357 := n1_
    have BK347 := n2_
    have BK348 := n3_
    have HB := n4_
    clear n0_ n1_ n2_ n3_ n4_
    (try clear hb)
    (try clear hb2)
    (try clear hk)
    (try clear hi)
    (try clear ho0)
    obtain ⟨Ao23, co23, eo23⟩ := Kd.R_slice HO357.out
    (first | subst eo23 | (injection eo23 with f1_ f2_ f3_; have f4_ := f1_.symm; have f5_ := f3_.symm; clear f1_ f2_ f3_; subst f4_; subst f5_))
    refine hK.out _ _ ⟨(blk_cell BK347.out 0).trans rfl, (blk_cell BK347.out 1).trans rfl⟩ (fun hHeld => ?_)
    clear hK K
    refine norm_ (a' := ?_) ?_ ?_
    rotate_left
    · show Act.put _ (some 11) _ = _
      simp only [Act.put, List.setIfInBounds_toArray, List.set_cons_zero, List.set_cons_succ, i64_w, i32_w]
      rfl
    refine one_ (i := 4) (N := none) #[true, true, true, true, true] rfl rfl (by kernel_rfl) (by decide) (fun K hK => ?_)
    have hs22 : w21.cell? ⟨gb348, 0, none⟩ = some (.bool false) := (blk_cell BK348.out 0).trans rfl
    have hfs22 := blk_frozen BK348.out 0
    have hns22_0 := NB347_348.out
    have hms22_0 := NB348_347.out
    have hs24 : w21.cell? ⟨gb348, 1, none⟩ = some (.slice none 0 0) := (blk_cell BK348.out 1).trans rfl
    have hfs24 := blk_frozen BK348.out 1
    have hns24_0 := NB347_348.out
    have hms24_0 := NB348_347.out
    refine skip_ (w1 := ?_) (by rfl) rfl ?_ ?_
    rotate_left
    · go_simp
      rfl
    refine hK.out _ _ ⟨((cell_far (p := ⟨gb348, _, none⟩) NB347_348.out _).trans (((cell_far (p := ⟨gb348, _, none⟩) NB347_348.out _).trans (hHeld.1)))), ((cell_far (p := ⟨gb348, _, none⟩) NB347_348.out _).trans (((cell_far (p := ⟨gb348, _, none⟩) NB347_348.out _).trans (hHeld.2))))⟩ (fun hHeld => ?_)
    clear hK K
    refine done_ (by kernel_rfl) ?_
    try go_wp2
    refine bodyPost_ret (results_cell_row rfl _ _ gb348 24 #[.bool t354, .slice Ao23 t355.length co23] (0, 0) _ rfl (by (with_reducible repeat (first | refine blk_drewN ?_ _ | refine blk_drew ?_ | refine blk_alloc ?_ _)); refine blk_put (cs := #[.bool t354, .slice none 0 0]) ?_ 1 _ rfl; (with_reducible repeat (first | refine blk_drewN ?_ _ | refine blk_drew ?_ | refine blk_alloc ?_ _)); refine blk_put (cs := #[.bool false, .slice none 0 0]) ?_ 0 _ rfl; (with_reducible repeat (first | refine blk_drewN ?_ _ | refine blk_drew ?_ | refine blk_alloc ?_ _)); exact BK348.out) Tryz.underlying24 rfl (by kernel_rfl)) rfl ?_
    exact ⟨_, by first | rfl | (simp [errW_none, errW_some] <;> rfl) | (simp [*, errW_none, errW_some] <;> rfl), by (with_reducible repeat (first | apply Kd.R_alloc | apply Kd.R_drewN | apply Kd.R_drew)); exact Kd.R_mono (Kd.R_far (p := ⟨gb348, 1, none⟩) (Kd.R_far (p := ⟨gb348, 0, none⟩) (Kd.R_types HO357.out BK348.out (by decide)) (fun _ hk => hk.2) (.bool t354)) (fun _ hk => hk.2) (.slice Ao23 t355.length co23)) (fun _ hk => trivial), by repeat (first | (with_reducible first | exact HB.out | apply below_alloc | apply pw_below_drewN | apply below_drew1 | refine below_set ?_ GE347.out | refine below_set ?_ GE348.out) | exact HB.out)⟩


/-! ### spec_Int_Sign: function 38 -/
set_option maxHeartbeats 8000000 in
set_option maxRecDepth 100000 in
theorem spec_Int_Sign.calls (a0_0 : Bool) (A0_1 : Option Addr) (c0_1 : Nat) (l0_1 : List Int) (r : Int) (w : World) (hr0_1 : Kd.C (Kd.int .u8) w A0_1 l0_1.length l0_1) (hc0_1 : l0_1.length ≤ c0_1) (h : spec_Int_Sign.f a0_0 l0_1 = some r) :
    Calls Tryz.prog 38 #[.agg #[.bool a0_0, .slice A0_1 l0_1.length c0_1]] w fun e w' => e = .returned (.int .i64 r) ∧ Below w.heap.size w w' := by
  have hu24 := Tryz.underlying24
  have HR0_1 := Aside0.mk hr0_1
  have HC0_1 := Aside0.mk hc0_1
  clear hr0_1 hc0_1
  have HB := Aside0.mk (Below.refl w.heap.size w)
  have H : ((spec_Int_Zero.f a0_0 l0_1).bind fun t359 => (if t359 = true then (some 0) else (if a0_0 = true then (some (-1)) else (some 1)))) = some r := h
  clear h
  replace H := Option.bind_eq_some_iff.mp H
  obtain ⟨t359, A20, H⟩ := H
  replace H : (if t359 = true then (some 0) else (if a0_0 = true then (some (-1)) else (some 1))) = some r := H
  have A2 := Aside0.mk A20
  clear A20
  by_cases c3 : t359 = true
  · subst c3
    have H1 : (some 0) = some r := by rw [if_pos rfl] at H; exact H
    clear H
    have H := H1
    clear H1
    obtain rfl := Option.some.inj H
    go_enter Tryz.func38, Tryz.ntmps38
    go_wp2_with (first | ((with_reducible refine gate_dst (N := 1) rfl ?_); refine box_event ?hg (N := 1) ?hd (cs := #[.bool a0_0, .slice A0_1 l0_1.length c0_1]) (t := 24) ?hr ?_; (case hd => rfl); (case hg => rfl); (case hr => first | (go_simp; done) | (go_simp; rfl)); intro gb358 hg w4 hbox hb; have n0_ := Aside0.mk (below_step HB.out hb); have n1_ := Aside0.mk (hbox); have n2_ := Aside0.mk ((by rw [hg]; exact (below_size HB.out) : w.heap.size ≤ gb358)); have n3_ := Aside0.mk ((by rw [hg]; exact (below_size HB.out) : w.heap.size ≤ gb358)); clear HB; have HB := n0_; have BK358 := n1_; have GW358 := n2_; have GE358 := n3_; clear n0_ n1_ n2_ n3_; clear hb hbox hg; have hcz5_0 : w4.cell? ⟨gb358, 0, none⟩ = some (.bool a0_0) := (blk_cell BK358.out 0).trans rfl; have hcz5_1 : w4.cell? ⟨gb358, 1, none⟩ = some (.slice A0_1 l0_1.length c0_1) := (blk_cell BK358.out 1).trans rfl; have hfz5_0 := blk_frozen BK358.out 0; have hfz5_1 := blk_frozen BK358.out 1) | ((with_reducible refine gate_callee (f := 36) rfl ?_); refine goesL_ (some 4) rfl rfl Tryz.func36 (by kernel_rfl) rfl #[.agg #[.bool a0_0, .slice A0_1 l0_1.length c0_1]] rfl (by (try simp only [List.map_toArray, List.map_cons, List.map_nil]); first | done | rfl | (simp only [List.length_drop, List.length_take]; rfl)) ?_; (with_reducible refine (spec_Int_Zero.calls a0_0 _ _ l0_1 true _ ?side1 ?side2 A2.out).mono ?_); (case side1 => repeat (first | exact (Kd.C_below HR0_1.out HB.out) | (with_reducible refine Kd.C_alloc ?_ _) | (with_reducible refine Kd.C_drewN ?_ _) | (with_reducible refine Kd.C_drew ?_))); (case side2 => exact HC0_1.out); rintro e w6 ⟨rfl, hb⟩; refine ⟨_, rfl, ?_⟩; have n0_ := Aside0.mk (blk_below BK358.out hb); have n1_ := Aside0.mk (below_step HB.out hb); clear BK358; clear HB; have BK358 := n0_; have HB := n1_; clear n0_ n1_; (try clear hb); (try clear hb2); (try clear hk); (try clear hi)))
    go_ret
    exact ⟨by first | rfl | (simp [errW_none, errW_some] <;> rfl) | (simp [*, errW_none, errW_some] <;> rfl), by repeat (first | (with_reducible first | exact HB.out | apply below_alloc | apply pw_below_drewN | apply below_drew1 | refine below_set ?_ GE358.out) | exact HB.out)⟩
  · replace c3 := Bool.eq_false_iff.mpr c3
    subst c3
    have H1 : (if a0_0 = true then (some (-1)) else (some 1)) = some r := by rw [if_neg (show ¬ (false = true) by decide)] at H; exact H
    clear H
    have H := H1
    clear H1
    by_cases c7 : a0_0 = true
    · subst c7
      have H1 : (some (-1)) = some r := by rw [if_pos rfl] at H; exact H
      clear H
      have H := H1
      clear H1
      obtain rfl := Option.some.inj H
      go_enter Tryz.func38, Tryz.ntmps38
      go_wp2_with (first | ((with_reducible refine gate_dst (N := 1) rfl ?_); refine box_event ?hg (N := 1) ?hd (cs := #[.bool true, .slice A0_1 l0_1.length c0_1]) (t := 24) ?hr ?_; (case hd => rfl); (case hg => rfl); (case hr => first | (go_simp; done) | (go_simp; rfl)); intro gb358 hg w8 hbox hb; have n0_ := Aside0.mk (below_step HB.out hb); have n1_ := Aside0.mk (hbox); have n2_ := Aside0.mk ((by rw [hg]; exact (below_size HB.out) : w.heap.size ≤ gb358)); have n3_ := Aside0.mk ((by rw [hg]; exact (below_size HB.out) : w.heap.size ≤ gb358)); clear HB; have HB := n0_; have BK358 := n1_; have GW358 := n2_; have GE358 := n3_; clear n0_ n1_ n2_ n3_; clear hb hbox hg; have hcz9_0 : w8.cell? ⟨gb358, 0, none⟩ = some (.bool true) := (blk_cell BK358.out 0).trans rfl; have hcz9_1 : w8.cell? ⟨gb358, 1, none⟩ = some (.slice A0_1 l0_1.length c0_1) := (blk_cell BK358.out 1).trans rfl; have hfz9_0 := blk_frozen BK358.out 0; have hfz9_1 := blk_frozen BK358.out 1) | ((with_reducible refine gate_callee (f := 36) rfl ?_); refine goesL_ (some 4) rfl rfl Tryz.func36 (by kernel_rfl) rfl #[.agg #[.bool true, .slice A0_1 l0_1.length c0_1]] rfl (by (try simp only [List.map_toArray, List.map_cons, List.map_nil]); first | done | rfl | (simp only [List.length_drop, List.length_take]; rfl)) ?_; (with_reducible refine (spec_Int_Zero.calls true _ _ l0_1 false _ ?side1 ?side2 A2.out).mono ?_); (case side1 => repeat (first | exact (Kd.C_below HR0_1.out HB.out) | (with_reducible refine Kd.C_alloc ?_ _) | (with_reducible refine Kd.C_drewN ?_ _) | (with_reducible refine Kd.C_drew ?_))); (case side2 => exact HC0_1.out); rintro e w10 ⟨rfl, hb⟩; refine ⟨_, rfl, ?_⟩; have n0_ := Aside0.mk (blk_below BK358.out hb); have n1_ := Aside0.mk (below_step HB.out hb); clear BK358; clear HB; have BK358 := n0_; have HB := n1_; clear n0_ n1_; (try clear hb); (try clear hb2); (try clear hk); (try clear hi); have hcz11_0 : w10.cell? ⟨gb358, 0, none⟩ = some (.bool true) := (blk_cell BK358.out 0).trans rfl; have hcz11_1 : w10.cell? ⟨gb358, 1, none⟩ = some (.slice A0_1 l0_1.length c0_1) := (blk_cell BK358.out 1).trans rfl; have hfz11_0 := blk_frozen BK358.out 0; have hfz11_1 := blk_frozen BK358.out 1))
      go_ret
      exact ⟨by first | rfl | (simp [errW_none, errW_some] <;> rfl) | (simp [*, errW_none, errW_some] <;> rfl), by repeat (first | (with_reducible first | exact HB.out | apply below_alloc | apply pw_below_drewN | apply below_drew1 | refine below_set ?_ GE358.out) | exact HB.out)⟩
    · replace c7 := Bool.eq_false_iff.mpr c7
      subst c7
      have H1 : (some 1) = some r := by rw [if_neg (show ¬ (false = true) by decide)] at H; exact H
      clear H
      have H := H1
      clear H1
      obtain rfl := Option.some.inj H
      go_enter Tryz.func38, Tryz.ntmps38
      go_wp2_with (first | ((with_reducible refine gate_dst (N := 1) rfl ?_); refine box_event ?hg (N := 1) ?hd (cs := #[.bool false, .slice A0_1 l0_1.length c0_1]) (t := 24) ?hr ?_; (case hd => rfl); (case hg => rfl); (case hr => first | (go_simp; done) | (go_simp; rfl)); intro gb358 hg w12 hbox hb; have n0_ := Aside0.mk (below_step HB.out hb); have n1_ := Aside0.mk (hbox); have n2_ := Aside0.mk ((by rw [hg]; exact (below_size HB.out) : w.heap.size ≤ gb358)); have n3_ := Aside0.mk ((by rw [hg]; exact (below_size HB.out) : w.heap.size ≤ gb358)); clear HB; have HB := n0_; have BK358 := n1_; have GW358 := n2_; have GE358 := n3_; clear n0_ n1_ n2_ n3_; clear hb hbox hg; have hcz13_0 : w12.cell? ⟨gb358, 0, none⟩ = some (.bool false) := (blk_cell BK358.out 0).trans rfl; have hcz13_1 : w12.cell? ⟨gb358, 1, none⟩ = some (.slice A0_1 l0_1.length c0_1) := (blk_cell BK358.out 1).trans rfl; have hfz13_0 := blk_frozen BK358.out 0; have hfz13_1 := blk_frozen BK358.out 1) | ((with_reducible refine gate_callee (f := 36) rfl ?_); refine goesL_ (some 4) rfl rfl Tryz.func36 (by kernel_rfl) rfl #[.agg #[.bool false, .slice A0_1 l0_1.length c0_1]] rfl (by (try simp only [List.map_toArray, List.map_cons, List.map_nil]); first | done | rfl | (simp only [List.length_drop, List.length_take]; rfl)) ?_; (with_reducible refine (spec_Int_Zero.calls false _ _ l0_1 false _ ?side1 ?side2 A2.out).mono ?_); (case side1 => repeat (first | exact (Kd.C_below HR0_1.out HB.out) | (with_reducible refine Kd.C_alloc ?_ _) | (with_reducible refine Kd.C_drewN ?_ _) | (with_reducible refine Kd.C_drew ?_))); (case side2 => exact HC0_1.out); rintro e w14 ⟨rfl, hb⟩; refine ⟨_, rfl, ?_⟩; have n0_ := Aside0.mk (blk_below BK358.out hb); have n1_ := Aside0.mk (below_step HB.out hb); clear BK358; clear HB; have BK358 := n0_; have HB := n1_; clear n0_ n1_; (try clear hb); (try clear hb2); (try clear hk); (try clear hi); have hcz15_0 : w14.cell? ⟨gb358, 0, none⟩ = some (.bool false) := (blk_cell BK358.out 0).trans rfl; have hcz15_1 : w14.cell? ⟨gb358, 1, none⟩ = some (.slice A0_1 l0_1.length c0_1) := (blk_cell BK358.out 1).trans rfl; have hfz15_0 := blk_frozen BK358.out 0; have hfz15_1 := blk_frozen BK358.out 1))
      go_ret
      exact ⟨by first | rfl | (simp [errW_none, errW_some] <;> rfl) | (simp [*, errW_none, errW_some] <;> rfl), by repeat (first | (with_reducible first | exact HB.out | apply below_alloc | apply pw_below_drewN | apply below_drew1 | refine below_set ?_ GE358.out) | exact HB.out)⟩


/-! ### spec_order: function 39 -/
theorem spec_order.mono_l : ∀ k, (∀ y0 y1 y2, LeO (spec_order.l0 k y0 y1 y2) (spec_order.l0 (k + 1) y0 y1 y2))
  | 0 => fun _ _ _ r h => by simp [spec_order.l0] at h
  | k + 1 => by
    have ih0 := spec_order.mono_l k
    · intro y0 y1 y2
      unfold spec_order.l0
      repeat' first
      | (with_reducible exact ih0 _ _ _)
      | (with_reducible exact LeO.refl _)
      | (with_reducible exact LeO.none _)
      | (with_reducible refine LeO.ite ?_ ?_)
      | (with_reducible refine LeO.bind ?_ (fun _ => ?_))
      | exact ih0 _ _ _
      | exact LeO.none _
      | refine LeO.ite ?_ ?_
      | refine LeO.bind ?_ (fun _ => ?_)
theorem spec_order.mono : ∀ a0 a1 k, LeO (spec_order.f k a0 a1) (spec_order.f (k + 1) a0 a1) := by
  intro a0 a1 k
  have ih0 := spec_order.mono_l k
  unfold spec_order.f
  repeat' first
      | (with_reducible exact ih0 _ _ _)
      | (with_reducible exact LeO.refl _)
      | (with_reducible exact LeO.none _)
      | (with_reducible refine LeO.ite ?_ ?_)
      | (with_reducible refine LeO.bind ?_ (fun _ => ?_))
      | exact ih0 _ _ _
      | exact LeO.none _
      | refine LeO.ite ?_ ?_
      | refine LeO.bind ?_ (fun _ => ?_)
set_option maxHeartbeats 8000000 in
set_option maxRecDepth 100000 in
theorem spec_order.calls (k : Nat) (A0 : Option Addr) (c0 : Nat) (l0 : List Int) (A1 : Option Addr) (c1 : Nat) (l1 : List Int) (r : Int) (w : World) (hr0 : Kd.C (Kd.int .u8) w A0 l0.length l0) (hc0 : l0.length ≤ c0) (hr1 : Kd.C (Kd.int .u8) w A1 l1.length l1) (hc1 : l1.length ≤ c1) (h : spec_order.f k l0 l1 = some r) :
    Calls Tryz.prog 39 #[.slice A0 l0.length c0, .slice A1 l1.length c1] w fun e w' => e = .returned (.int .i64 r) ∧ Drawn0 w w' := by
  have HR0 := Aside0.mk hr0
  have HC0 := Aside0.mk hc0
  clear hr0 hc0
  have HR1 := Aside0.mk hr1
  have HC1 := Aside0.mk hc1
  clear hr1 hc1
  have H : (if (l0.length : Int) = (l1.length : Int) then (spec_order.l0 k l0 l1 0) else (if (l0.length : Int) < (l1.length : Int) then (some (-1)) else (some 1))) = some r := h
  clear h
  by_cases c3 : (l0.length : Int) = (l1.length : Int)
  · rw [if_pos c3] at H
    have c3b0 : ((l0.length : Int) == (l1.length : Int)) = true := beq_iff_eq.mpr c3
    have c3b1 : ((l0.length : Int) != (l1.length : Int)) = false := bne_eq_false_iff_eq.mpr c3
    have c3b2 : (l0.length == l1.length) = true := by first | simpa using c3 | (simp at c3 ⊢; omega)
    clear c3
    have H' := Aside0.mk H
    clear H
    go_enter Tryz.func39, Tryz.ntmps39
    go_wp2
    go_loopg [5] k (fun kq v5 w' => ∃ (x5_1 : Int), v5 = .int .i64 x5_1 ∧ Aside0 (spec_order.l0 kq l0 l1 x5_1 = some r) ∧ Aside0 (kq ≤ k) ∧ Drawn0 w w')
    case atStart => exact ⟨(0), (by first | rfl | (simp; done) | (simp [*]; done)), H', ⟨Nat.le_refl _⟩, by repeat (first | exact Drawn0.refl _ | apply Drawn0.step)⟩
    case round =>
      clear H'
      try clear c1
      try clear p2
      try clear c3
      try clear c3b0
      try clear c3b1
      try clear c3b2
      obtain ⟨x5_1, rfl, HA, HK1, ⟨m1, rfl⟩⟩ := hrel
      cases gk with
      | zero => exact absurd HA.out (by simp [spec_order.l0])
      | succ k1 =>
        have H := HA.out
        clear HA
        simp only [spec_order.l0] at H
        by_cases c4 : x5_1 < (l0.length : Int)
        · rw [if_pos c4] at H
          have c4b0 : decide (x5_1 < (l0.length : Int)) = true := decide_eq_true c4
          clear c4
          by_cases c5 : 0 ≤ x5_1
          · rw [if_pos c5] at H
            have c5b0 : decide (0 ≤ x5_1) = true := decide_eq_true c5
            clear c5
            by_cases c6 : x5_1 < (l1.length : Int)
            · rw [if_pos c6] at H
              have c6b0 : decide (x5_1 < (l1.length : Int)) = true := decide_eq_true c6
              clear c6
              by_cases c7 : (rd l0 x5_1) = (rd l1 x5_1)
              · rw [if_pos c7] at H
                have c7b0 : ((rd l0 x5_1) == (rd l1 x5_1)) = true := beq_iff_eq.mpr c7
                have c7b1 : ((rd l0 x5_1) != (rd l1 x5_1)) = false := bne_eq_false_iff_eq.mpr c7
                clear c7
                have H' := Aside0.mk H
                clear H
                have p197 : 0 ≤ (x5_1 : Int) := of_decide_eq_true (by first | (with_reducible assumption) | assumption)
                have q197 : x5_1 < (l0.length : Int) := of_decide_eq_true (by first | (with_reducible assumption) | assumption)
                obtain ⟨ad197, e197, hx197_0⟩ := Kd.at_int HR0.out x5_1 p197 q197
                cases e197
                replace p197 := eq_true p197
                replace q197 := eq_true q197
                have p198 : 0 ≤ (x5_1 : Int) := of_decide_eq_true (by first | (with_reducible assumption) | assumption)
                have q198 : x5_1 < (l1.length : Int) := of_decide_eq_true (by first | (with_reducible assumption) | assumption)
                obtain ⟨ad198, e198, hx198_0⟩ := Kd.at_int HR1.out x5_1 p198 q198
                cases e198
                replace p198 := eq_true p198
                replace q198 := eq_true q198
                go_wp2
                repeat (go_quiet (fail); try go_wp2)
                go_roundg k1
                case measure => have := HK1.out; omega
                case rel => exact ⟨(wrap64 (x5_1 + 1)), (by first | rfl | (simp; done) | (simp [*]; done)), H', ⟨by have := HK1.out; omega⟩, by repeat (first | exact Drawn0.refl _ | apply Drawn0.step)⟩
              · rw [if_neg c7] at H
                have c7b0 : ((rd l0 x5_1) == (rd l1 x5_1)) = false := beq_eq_false_iff_ne.mpr c7
                have c7b1 : ((rd l0 x5_1) != (rd l1 x5_1)) = true := bne_iff_ne.mpr c7
                by_cases c8 : (rd l0 x5_1) < (rd l1 x5_1)
                · rw [if_pos c8] at H
                  have c8b0 : decide ((rd l0 x5_1) < (rd l1 x5_1)) = true := decide_eq_true c8
                  clear c8
                  obtain rfl := Option.some.inj H
                  have p197 : 0 ≤ (x5_1 : Int) := of_decide_eq_true (by first | (with_reducible assumption) | assumption)
                  have q197 : x5_1 < (l0.length : Int) := of_decide_eq_true (by first | (with_reducible assumption) | assumption)
                  obtain ⟨ad197, e197, hx197_0⟩ := Kd.at_int HR0.out x5_1 p197 q197
                  cases e197
                  replace p197 := eq_true p197
                  replace q197 := eq_true q197
                  have p198 : 0 ≤ (x5_1 : Int) := of_decide_eq_true (by first | (with_reducible assumption) | assumption)
                  have q198 : x5_1 < (l1.length : Int) := of_decide_eq_true (by first | (with_reducible assumption) | assumption)
                  obtain ⟨ad198, e198, hx198_0⟩ := Kd.at_int HR1.out x5_1 p198 q198
                  cases e198
                  replace p198 := eq_true p198
                  replace q198 := eq_true q198
                  have p199 : 0 ≤ (x5_1 : Int) := of_decide_eq_true (by first | (with_reducible assumption) | assumption)
                  have q199 : x5_1 < (l0.length : Int) := of_decide_eq_true (by first | (with_reducible assumption) | assumption)
                  obtain ⟨ad199, e199, hx199_0⟩ := Kd.at_int HR0.out x5_1 p199 q199
                  obtain rfl : ad197 = ad199 := (by injection e199)
                  replace p199 := eq_true p199
                  replace q199 := eq_true q199
                  have p200 : 0 ≤ (x5_1 : Int) := of_decide_eq_true (by first | (with_reducible assumption) | assumption)
                  have q200 : x5_1 < (l1.length : Int) := of_decide_eq_true (by first | (with_reducible assumption) | assumption)
                  obtain ⟨ad200, e200, hx200_0⟩ := Kd.at_int HR1.out x5_1 p200 q200
                  obtain rfl : ad198 = ad200 := (by injection e200)
                  replace p200 := eq_true p200
                  replace q200 := eq_true q200
                  go_wp2
                  repeat (go_quiet (fail); try go_wp2)
                  go_ret
                  exact ⟨by first | rfl | (simp; done) | (simp [*]; done), by repeat (first | exact Drawn0.refl _ | apply Drawn0.step)⟩
                · rw [if_neg c8] at H
                  have c8b0 : decide ((rd l0 x5_1) < (rd l1 x5_1)) = false := decide_eq_false c8
                  clear c8
                  obtain rfl := Option.some.inj H
                  have p197 : 0 ≤ (x5_1 : Int) := of_decide_eq_true (by first | (with_reducible assumption) | assumption)
                  have q197 : x5_1 < (l0.length : Int) := of_decide_eq_true (by first | (with_reducible assumption) | assumption)
                  obtain ⟨ad197, e197, hx197_0⟩ := Kd.at_int HR0.out x5_1 p197 q197
                  cases e197
                  replace p197 := eq_true p197
                  replace q197 := eq_true q197
                  have p198 : 0 ≤ (x5_1 : Int) := of_decide_eq_true (by first | (with_reducible assumption) | assumption)
                  have q198 : x5_1 < (l1.length : Int) := of_decide_eq_true (by first | (with_reducible assumption) | assumption)
                  obtain ⟨ad198, e198, hx198_0⟩ := Kd.at_int HR1.out x5_1 p198 q198
                  cases e198
                  replace p198 := eq_true p198
                  replace q198 := eq_true q198
                  have p199 : 0 ≤ (x5_1 : Int) := of_decide_eq_true (by first | (with_reducible assumption) | assumption)
                  have q199 : x5_1 < (l0.length : Int) := of_decide_eq_true (by first | (with_reducible assumption) | assumption)
                  obtain ⟨ad199, e199, hx199_0⟩ := Kd.at_int HR0.out x5_1 p199 q199
                  obtain rfl : ad197 = ad199 := (by injection e199)
                  replace p199 := eq_true p199
                  replace q199 := eq_true q199
                  have p200 : 0 ≤ (x5_1 : Int) := of_decide_eq_true (by first | (with_reducible assumption) | assumption)
                  have q200 : x5_1 < (l1.length : Int) := of_decide_eq_true (by first | (with_reducible assumption) | assumption)
                  obtain ⟨ad200, e200, hx200_0⟩ := Kd.at_int HR1.out x5_1 p200 q200
                  obtain rfl : ad198 = ad200 := (by injection e200)
                  replace p200 := eq_true p200
                  replace q200 := eq_true q200
                  go_wp2
                  repeat (go_quiet (fail); try go_wp2)
                  go_ret
                  exact ⟨by first | rfl | (simp; done) | (simp [*]; done), by repeat (first | exact Drawn0.refl _ | apply Drawn0.step)⟩
            · rw [if_neg c6] at H
              exact absurd H (by simp)
          · rw [if_neg c5] at H
            exact absurd H (by simp)
        · rw [if_neg c4] at H
          have c4b0 : decide (x5_1 < (l0.length : Int)) = false := decide_eq_false c4
          clear c4
          obtain rfl := Option.some.inj H
          go_wp2
          go_ret
          exact ⟨by first | rfl | (simp; done) | (simp [*]; done), by repeat (first | exact Drawn0.refl _ | apply Drawn0.step)⟩
  · rw [if_neg c3] at H
    have c3b0 : ((l0.length : Int) == (l1.length : Int)) = false := beq_eq_false_iff_ne.mpr c3
    have c3b1 : ((l0.length : Int) != (l1.length : Int)) = true := bne_iff_ne.mpr c3
    have c3b2 : (l0.length == l1.length) = false := by first | simpa using c3 | (simp at c3 ⊢; omega)
    by_cases c9 : (l0.length : Int) < (l1.length : Int)
    · rw [if_pos c9] at H
      have c9b0 : decide ((l0.length : Int) < (l1.length : Int)) = true := decide_eq_true c9
      have c9b1 : decide (l0.length < l1.length) = true := decide_eq_true (Int.ofNat_lt.mp c9)
      clear c9
      obtain rfl := Option.some.inj H
      go_enter Tryz.func39, Tryz.ntmps39
      go_wp2
      go_ret
      exact ⟨by first | rfl | (simp; done) | (simp [*]; done), by repeat (first | exact Drawn0.refl _ | apply Drawn0.step)⟩
    · rw [if_neg c9] at H
      have c9b0 : decide ((l0.length : Int) < (l1.length : Int)) = false := decide_eq_false c9
      have c9b1 : decide (l0.length < l1.length) = false := decide_eq_false (fun h => c9 (Int.ofNat_lt.mpr h))
      clear c9
      obtain rfl := Option.some.inj H
      go_enter Tryz.func39, Tryz.ntmps39
      go_wp2
      go_ret
      exact ⟨by first | rfl | (simp; done) | (simp [*]; done), by repeat (first | exact Drawn0.refl _ | apply Drawn0.step)⟩


end Go.Proofs.YtodipcgilgigbaaGreatDoor.I
