/- Contracts of this claim's functions: each call gives what the plain mirror (in the text D) gives; the proofs are the kit's print, over D's definitions. -/
import Derived.Test.YtodipcgilgigbaaGreatDoorC4
namespace Go.Proofs.YtodipcgilgigbaaGreatDoor.I
open Go.RowKit Go.Proofs.YtodipcgilgigbaaGreatDoorW.PrintWords Go.Proofs.YtodipcgilgigbaaGreatDoorW.PrintLast Go.Proofs.YtodipcgilgigbaaGreatDoorW.PrintMore
attribute [local go_sem] max2_int min2_int max_two min_two max_three min_three max_four min_four
set_option linter.unusedVariables false
set_option linter.unusedSimpArgs false

/-! ### spec_Int_Cmp: function 20 -/
theorem spec_Int_Cmp.mono : ∀ a0 a1 a2 a3 k, LeO (spec_Int_Cmp.f k a0 a1 a2 a3) (spec_Int_Cmp.f (k + 1) a0 a1 a2 a3) := by
  intro a0 a1 a2 a3 k
  unfold spec_Int_Cmp.f
  repeat' first
      | (with_reducible exact spec_order.mono _ _ _)
      | (with_reducible exact LeO.refl _)
      | (with_reducible exact LeO.none _)
      | (with_reducible refine LeO.ite ?_ ?_)
      | (with_reducible refine LeO.bind ?_ (fun _ => ?_))
      | exact spec_order.mono _ _ _
      | exact LeO.none _
      | refine LeO.ite ?_ ?_
      | refine LeO.bind ?_ (fun _ => ?_)
set_option maxHeartbeats 8000000 in
set_option maxRecDepth 100000 in
theorem spec_Int_Cmp.calls (k : Nat) (a0_0 : Bool) (A0_1 : Option Addr) (c0_1 : Nat) (l0_1 : List Int) (a1_0 : Bool) (A1_1 : Option Addr) (c1_1 : Nat) (l1_1 : List Int) (r : Int) (w : World) (hr0_1 : Kd.C (Kd.int .u8) w A0_1 l0_1.length l0_1) (hc0_1 : l0_1.length ≤ c0_1) (hr1_1 : Kd.C (Kd.int .u8) w A1_1 l1_1.length l1_1) (hc1_1 : l1_1.length ≤ c1_1) (h : spec_Int_Cmp.f k a0_0 l0_1 a1_0 l1_1 = some r) :
    Calls Tryz.prog 20 #[.agg #[.bool a0_0, .slice A0_1 l0_1.length c0_1], .agg #[.bool a1_0, .slice A1_1 l1_1.length c1_1]] w fun e w' => e = .returned (.int .i64 r) ∧ Below w.heap.size w w' := by
  have hu24 := Tryz.underlying24
  have HR0_1 := Aside0.mk hr0_1
  have HC0_1 := Aside0.mk hc0_1
  clear hr0_1 hc0_1
  have HR1_1 := Aside0.mk hr1_1
  have HC1_1 := Aside0.mk hc1_1
  clear hr1_1 hc1_1
  have HB := Aside0.mk (Below.refl w.heap.size w)
  have H : ((spec_Int_Sign.f a0_0 l0_1).bind fun t362 => ((spec_Int_Sign.f a1_0 l1_1).bind fun t363 => (if t362 = t363 then (if a0_0 = true then ((spec_order.f k l1_1 l0_1).bind fun t366 => (some t366)) else ((spec_order.f k l0_1 l1_1).bind fun t367 => (some t367))) else ((spec_Int_Sign.f a0_0 l0_1).bind fun t364 => ((spec_Int_Sign.f a1_0 l1_1).bind fun t365 => (if t364 < t365 then (some (-1)) else (some 1))))))) = some r := h
  clear h
  replace H := Option.bind_eq_some_iff.mp H
  obtain ⟨t362, A30, H⟩ := H
  replace H : ((spec_Int_Sign.f a1_0 l1_1).bind fun t363 => (if t362 = t363 then (if a0_0 = true then ((spec_order.f k l1_1 l0_1).bind fun t366 => (some t366)) else ((spec_order.f k l0_1 l1_1).bind fun t367 => (some t367))) else ((spec_Int_Sign.f a0_0 l0_1).bind fun t364 => ((spec_Int_Sign.f a1_0 l1_1).bind fun t365 => (if t364 < t365 then (some (-1)) else (some 1)))))) = some r := H
  have A3 := Aside0.mk A30
  clear A30
  replace H := Option.bind_eq_some_iff.mp H
  obtain ⟨t363, A40, H⟩ := H
  replace H : (if t362 = t363 then (if a0_0 = true then ((spec_order.f k l1_1 l0_1).bind fun t366 => (some t366)) else ((spec_order.f k l0_1 l1_1).bind fun t367 => (some t367))) else ((spec_Int_Sign.f a0_0 l0_1).bind fun t364 => ((spec_Int_Sign.f a1_0 l1_1).bind fun t365 => (if t364 < t365 then (some (-1)) else (some 1))))) = some r := H
  have A4 := Aside0.mk A40
  clear A40
  by_cases c5 : t362 = t363
  · rw [if_pos c5] at H
    have c5b0 : (t362 == t363) = true := beq_iff_eq.mpr c5
    have c5b1 : (t362 != t363) = false := bne_eq_false_iff_eq.mpr c5
    clear c5
    by_cases c6 : a0_0 = true
    · subst c6
      have H1 : ((spec_order.f k l1_1 l0_1).bind fun t366 => (some t366)) = some r := by rw [if_pos rfl] at H; exact H
      clear H
      have H := H1
      clear H1
      replace H := Option.bind_eq_some_iff.mp H
      obtain ⟨t366, A70, H⟩ := H
      replace H : (some t366) = some r := H
      have A7 := Aside0.mk A70
      clear A70
      obtain rfl := Option.some.inj H
      go_enter Tryz.func20, Tryz.ntmps20
      try go_wp2_with (first | ((with_reducible refine gate_dst (N := 2) rfl ?_); refine box_event ?hg (N := 2) ?hd (cs := #[.bool true, .slice A0_1 l0_1.length c0_1]) (t := 24) ?hr ?_; (case hd => rfl); (case hg => rfl); (case hr => first | (go_simp; done) | (go_simp; rfl)); intro gb360 hg w8 hbox hb; have n0_ := Aside0.mk (below_step HB.out hb); have n1_ := Aside0.mk (hbox); have n2_ := Aside0.mk ((by rw [hg]; exact (below_size HB.out) : w.heap.size ≤ gb360)); have n3_ := Aside0.mk ((by rw [hg]; exact (below_size HB.out) : w.heap.size ≤ gb360)); clear HB; have HB := n0_; have BK360 := n1_; have GW360 := n2_; have GE360 := n3_; clear n0_ n1_ n2_ n3_; clear hb hbox hg) | ((with_reducible refine gate_dst (N := 3) rfl ?_); refine box_event ?hg (N := 3) ?hd (cs := #[.bool a1_0, .slice A1_1 l1_1.length c1_1]) (t := 24) ?hr ?_; (case hd => rfl); (case hg => rfl); (case hr => first | (go_simp; done) | (go_simp; rfl)); intro gb361 hg w9 hbox hb; have n0_ := Aside0.mk (blk_below BK360.out hb); have n1_ := Aside0.mk (below_step HB.out hb); have n2_ := Aside0.mk (hbox); have n3_ := Aside0.mk ((by rw [hg]; exact (below_size HB.out) : w.heap.size ≤ gb361)); have n4_ := Aside0.mk ((by rw [hg]; exact (below_size HB.out) : w.heap.size ≤ gb361)); have n5_ := Aside0.mk ((by rw [hg]; exact Nat.ne_of_lt (blk_lt BK360.out) : gb360 ≠ gb361)); have n6_ := Aside0.mk ((by rw [hg]; exact Nat.ne_of_gt (blk_lt BK360.out) : gb361 ≠ gb360)); clear BK360; clear HB; have BK360 := n0_; have HB := n1_; have BK361 := n2_; have GW361 := n3_; have GE361 := n4_; have NB360_361 := n5_; have NB361_360 := n6_; clear n0_ n1_ n2_ n3_ n4_ n5_ n6_; clear hb hbox hg))
      have n0_ := Aside0.mk (blk_drew BK360.out)
      have n1_ := Aside0.mk (blk_drew BK361.out)
      have n2_ := Aside0.mk (below_drew1 HB.out)
      clear BK360
      clear BK361
      clear HB
      have BK360 := n0_
      have BK361 := n1_
      have HB := n2_
      clear n0_ n1_ n2_
      refine start_ (n := 5) (S := fun w' => w'.cell? ⟨gb360, 0, none⟩ = some (.bool true) ∧ w'.cell? ⟨gb360, 1, none⟩ = some (.slice A0_1 l0_1.length c0_1) ∧ w'.cell? ⟨gb361, 0, none⟩ = some (.bool a1_0) ∧ w'.cell? ⟨gb361, 1, none⟩ = some (.slice A1_1 l1_1.length c1_1)) (ds := []) #[false, false, false, false, false] (by kernel_rfl) rfl rfl ⟨(blk_cell BK360.out 0).trans rfl, (blk_cell BK360.out 1).trans rfl, (blk_cell BK361.out 0).trans rfl, (blk_cell BK361.out 1).trans rfl⟩ (fun hHeld => ?_)
      generalize w9.drew = w10 at BK360 BK361 HB hHeld ⊢
      refine take_ (i := 0) (N := some 5) (v := ?_) (a' := ?_) #[true, false, false, false, false] rfl rfl (by kernel_rfl) (fun _ _ _ h => h) (Or.inl ⟨by rfl, ?_⟩) hHeld ?_ ?_
      rotate_left
      · rintro w' ⟨s0, s1, s2, s3⟩
        go_simp
        with_reducible rfl
      rotate_left
      · simp only [Act.put, List.setIfInBounds_toArray, List.set_cons_zero, List.set_cons_succ, i64_w, i32_w]
        rfl
      refine take_ (i := 2) (N := some 7) (v := ?_) (a' := ?_) #[true, false, true, false, false] rfl rfl (by kernel_rfl) (fun _ _ _ h => h) (Or.inl ⟨by rfl, ?_⟩) hHeld ?_ ?_
      rotate_left
      · rintro w' ⟨s0, s1, s2, s3⟩
        go_simp
        with_reducible rfl
      rotate_left
      · simp only [Act.put, List.setIfInBounds_toArray, List.set_cons_zero, List.set_cons_succ, i64_w, i32_w]
        rfl
      refine one_ (i := 1) (N := some 6) #[true, true, true, false, false] rfl rfl (by kernel_rfl) (by decide) (fun K hK => ?_)
      refine goes_ Tryz.func38 (by kernel_rfl) rfl #[.agg #[.bool true, .slice A0_1 l0_1.length c0_1]] (by rfl) rfl rfl (by (try simp only [List.map_toArray, List.map_cons, List.map_nil]); first | done | rfl | (simp only [List.length_drop, List.length_take]; rfl)) ?_
      with_reducible refine (spec_Int_Sign.calls true _ _ l0_1 t362 _ ?side1 ?side2 A3.out).mono ?_
      (case side1 => repeat (first | exact (Kd.C_below HR0_1.out HB.out) | (with_reducible refine Kd.C_alloc ?_ _) | (with_reducible refine Kd.C_drewN ?_ _) | (with_reducible refine Kd.C_drew ?_)))
      (case side2 => exact HC0_1.out)
      rintro e w11 ⟨rfl, hb⟩
      refine ⟨_, rfl, ?_⟩
      have n0_ := Aside0.mk (blk_below BK360.out hb)
      have n1_ := Aside0.mk (blk_below BK361.out hb)
      have n2_ := Aside0.mk (below_step HB.out hb)
      clear BK360
      clear BK361
      clear HB
      have BK360 := n0_
      have BK361 := n1_
      have HB := n2_
      clear n0_ n1_ n2_
      (try clear hb)
      (try clear hb2)
      (try clear hk)
      (try clear hi)
      refine hK.out _ _ ⟨(blk_cell BK360.out 0).trans rfl, (blk_cell BK360.out 1).trans rfl, (blk_cell BK361.out 0).trans rfl, (blk_cell BK361.out 1).trans rfl⟩ (fun hHeld => ?_)
      clear hK K
      refine norm_ (a' := ?_) ?_ ?_
      rotate_left
      · show Act.put _ (some 6) _ = _
        simp only [Act.put, List.setIfInBounds_toArray, List.set_cons_zero, List.set_cons_succ, i64_w, i32_w]
        rfl
      refine one_ (i := 3) (N := some 8) #[true, true, true, true, false] rfl rfl (by kernel_rfl) (by decide) (fun K hK => ?_)
      refine goes_ Tryz.func38 (by kernel_rfl) rfl #[.agg #[.bool a1_0, .slice A1_1 l1_1.length c1_1]] (by rfl) rfl rfl (by (try simp only [List.map_toArray, List.map_cons, List.map_nil]); first | done | rfl | (simp only [List.length_drop, List.length_take]; rfl)) ?_
      with_reducible refine (spec_Int_Sign.calls a1_0 _ _ l1_1 t363 _ ?side1 ?side2 A4.out).mono ?_
      (case side1 => repeat (first | exact (Kd.C_below HR1_1.out HB.out) | (with_reducible refine Kd.C_alloc ?_ _) | (with_reducible refine Kd.C_drewN ?_ _) | (with_reducible refine Kd.C_drew ?_)))
      (case side2 => exact HC1_1.out)
      rintro e w12 ⟨rfl, hb⟩
      refine ⟨_, rfl, ?_⟩
      have n0_ := Aside0.mk (blk_below BK360.out hb)
      have n1_ := Aside0.mk (blk_below BK361.out hb)
      have n2_ := Aside0.mk (below_step HB.out hb)
      clear BK360
      clear BK361
      clear HB
      have BK360 := n0_
      have BK361 := n1_
      have HB := n2_
      clear n0_ n1_ n2_
      (try clear hb)
      (try clear hb2)
      (try clear hk)
      (try clear hi)
      refine hK.out _ _ ⟨(blk_cell BK360.out 0).trans rfl, (blk_cell BK360.out 1).trans rfl, (blk_cell BK361.out 0).trans rfl, (blk_cell BK361.out 1).trans rfl⟩ (fun hHeld => ?_)
      clear hK K
      refine norm_ (a' := ?_) ?_ ?_
      rotate_left
      · show Act.put _ (some 8) _ = _
        simp only [Act.put, List.setIfInBounds_toArray, List.set_cons_zero, List.set_cons_succ, i64_w, i32_w]
        rfl
      refine pure_ (i := 4) (N := some 9) (v := ?_) (a' := ?_) #[true, true, true, true, true] rfl rfl (by kernel_rfl) (fun _ _ _ h => h) (Or.inl ⟨by rfl, ?_⟩) ?_ ?_
      rotate_left
      · intro w'
        go_simp
        with_reducible rfl
      rotate_left
      · simp only [Act.put, List.setIfInBounds_toArray, List.set_cons_zero, List.set_cons_succ, i64_w, i32_w]
        rfl
      refine done_ (by kernel_rfl) ?_
      have hnb13 := NB360_361.out
      have hnc13 := NB361_360.out
      have hcz14_0 : w12.cell? ⟨gb360, 0, none⟩ = some (.bool true) := (blk_cell BK360.out 0).trans rfl
      have hcz14_1 : w12.cell? ⟨gb360, 1, none⟩ = some (.slice A0_1 l0_1.length c0_1) := (blk_cell BK360.out 1).trans rfl
      have hfz14_0 := blk_frozen BK360.out 0
      have hfz14_1 := blk_frozen BK360.out 1
      have hcz15_0 : w12.cell? ⟨gb361, 0, none⟩ = some (.bool a1_0) := (blk_cell BK361.out 0).trans rfl
      have hcz15_1 : w12.cell? ⟨gb361, 1, none⟩ = some (.slice A1_1 l1_1.length c1_1) := (blk_cell BK361.out 1).trans rfl
      have hfz15_0 := blk_frozen BK361.out 0
      have hfz15_1 := blk_frozen BK361.out 1
      try go_wp2_with (first | ((with_reducible refine gate_callee (f := 39) rfl ?_); refine goesL_ (some 21) rfl rfl Tryz.func39 (by kernel_rfl) rfl #[.slice A1_1 l1_1.length c1_1, .slice A0_1 l0_1.length c0_1] rfl (by (try simp only [List.map_toArray, List.map_cons, List.map_nil]); first | done | rfl | (simp only [List.length_drop, List.length_take]; rfl)) ?_; (with_reducible refine (spec_order.calls k _ _ l1_1 _ _ l0_1 t366 _ ?side1 ?side2 ?side3 ?side4 A7.out).mono ?_); (case side1 => repeat (first | exact (Kd.C_below HR1_1.out HB.out) | (with_reducible refine Kd.C_alloc ?_ _) | (with_reducible refine Kd.C_drewN ?_ _) | (with_reducible refine Kd.C_drew ?_))); (case side2 => exact HC1_1.out); (case side3 => repeat (first | exact (Kd.C_below HR0_1.out HB.out) | (with_reducible refine Kd.C_alloc ?_ _) | (with_reducible refine Kd.C_drewN ?_ _) | (with_reducible refine Kd.C_drew ?_))); (case side4 => exact HC0_1.out); rintro e w' ⟨rfl, ⟨nd, rfl⟩⟩; refine ⟨_, rfl, ?_⟩))
      go_ret
      exact ⟨by first | rfl | (simp [errW_none, errW_some] <;> rfl) | (simp [*, errW_none, errW_some] <;> rfl), by repeat (first | (with_reducible first | exact HB.out | apply below_alloc | apply pw_below_drewN | apply below_drew1 | refine below_set ?_ GE360.out | refine below_set ?_ GE361.out) | exact HB.out)⟩
    · replace c6 := Bool.eq_false_iff.mpr c6
      subst c6
      have H1 : ((spec_order.f k l0_1 l1_1).bind fun t367 => (some t367)) = some r := by rw [if_neg (show ¬ (false = true) by decide)] at H; exact H
      clear H
      have H := H1
      clear H1
      replace H := Option.bind_eq_some_iff.mp H
      obtain ⟨t367, A160, H⟩ := H
      replace H : (some t367) = some r := H
      have A16 := Aside0.mk A160
      clear A160
      obtain rfl := Option.some.inj H
      go_enter Tryz.func20, Tryz.ntmps20
      try go_wp2_with (first | ((with_reducible refine gate_dst (N := 2) rfl ?_); refine box_event ?hg (N := 2) ?hd (cs := #[.bool false, .slice A0_1 l0_1.length c0_1]) (t := 24) ?hr ?_; (case hd => rfl); (case hg => rfl); (case hr => first | (go_simp; done) | (go_simp; rfl)); intro gb360 hg w17 hbox hb; have n0_ := Aside0.mk (below_step HB.out hb); have n1_ := Aside0.mk (hbox); have n2_ := Aside0.mk ((by rw [hg]; exact (below_size HB.out) : w.heap.size ≤ gb360)); have n3_ := Aside0.mk ((by rw [hg]; exact (below_size HB.out) : w.heap.size ≤ gb360)); clear HB; have HB := n0_; have BK360 := n1_; have GW360 := n2_; have GE360 := n3_; clear n0_ n1_ n2_ n3_; clear hb hbox hg) | ((with_reducible refine gate_dst (N := 3) rfl ?_); refine box_event ?hg (N := 3) ?hd (cs := #[.bool a1_0, .slice A1_1 l1_1.length c1_1]) (t := 24) ?hr ?_; (case hd => rfl); (case hg => rfl); (case hr => first | (go_simp; done) | (go_simp; rfl)); intro gb361 hg w18 hbox hb; have n0_ := Aside0.mk (blk_below BK360.out hb); have n1_ := Aside0.mk (below_step HB.out hb); have n2_ := Aside0.mk (hbox); have n3_ := Aside0.mk ((by rw [hg]; exact (below_size HB.out) : w.heap.size ≤ gb361)); have n4_ := Aside0.mk ((by rw [hg]; exact (below_size HB.out) : w.heap.size ≤ gb361)); have n5_ := Aside0.mk ((by rw [hg]; exact Nat.ne_of_lt (blk_lt BK360.out) : gb360 ≠ gb361)); have n6_ := Aside0.mk ((by rw [hg]; exact Nat.ne_of_gt (blk_lt BK360.out) : gb361 ≠ gb360)); clear BK360; clear HB; have BK360 := n0_; have HB := n1_; have BK361 := n2_; have GW361 := n3_; have GE361 := n4_; have NB360_361 := n5_; have NB361_360 := n6_; clear n0_ n1_ n2_ n3_ n4_ n5_ n6_; clear hb hbox hg))
      have n0_ := Aside0.mk (blk_drew BK360.out)
      have n1_ := Aside0.mk (blk_drew BK361.out)
      have n2_ := Aside0.mk (below_drew1 HB.out)
      clear BK360
      clear BK361
      clear HB
      have BK360 := n0_
      have BK361 := n1_
      have HB := n2_
      clear n0_ n1_ n2_
      refine start_ (n := 5) (S := fun w' => w'.cell? ⟨gb360, 0, none⟩ = some (.bool false) ∧ w'.cell? ⟨gb360, 1, none⟩ = some (.slice A0_1 l0_1.length c0_1) ∧ w'.cell? ⟨gb361, 0, none⟩ = some (.bool a1_0) ∧ w'.cell? ⟨gb361, 1, none⟩ = some (.slice A1_1 l1_1.length c1_1)) (ds := []) #[false, false, false, false, false] (by kernel_rfl) rfl rfl ⟨(blk_cell BK360.out 0).trans rfl, (blk_cell BK360.out 1).trans rfl, (blk_cell BK361.out 0).trans rfl, (blk_cell BK361.out 1).trans rfl⟩ (fun hHeld => ?_)
      generalize w18.drew = w19 at BK360 BK361 HB hHeld ⊢
      refine take_ (i := 0) (N := some 5) (v := ?_) (a' := ?_) #[true, false, false, false, false] rfl rfl (by kernel_rfl) (fun _ _ _ h => h) (Or.inl ⟨by rfl, ?_⟩) hHeld ?_ ?_
      rotate_left
      · rintro w' ⟨s0, s1, s2, s3⟩
        go_simp
        with_reducible rfl
      rotate_left
      · simp only [Act.put, List.setIfInBounds_toArray, List.set_cons_zero, List.set_cons_succ, i64_w, i32_w]
        rfl
      refine take_ (i := 2) (N := some 7) (v := ?_) (a' := ?_) #[true, false, true, false, false] rfl rfl (by kernel_rfl) (fun _ _ _ h => h) (Or.inl ⟨by rfl, ?_⟩) hHeld ?_ ?_
      rotate_left
      · rintro w' ⟨s0, s1, s2, s3⟩
        go_simp
        with_reducible rfl
      rotate_left
      · simp only [Act.put, List.setIfInBounds_toArray, List.set_cons_zero, List.set_cons_succ, i64_w, i32_w]
        rfl
      refine one_ (i := 1) (N := some 6) #[true, true, true, false, false] rfl rfl (by kernel_rfl) (by decide) (fun K hK => ?_)
      refine goes_ Tryz.func38 (by kernel_rfl) rfl #[.agg #[.bool false, .slice A0_1 l0_1.length c0_1]] (by rfl) rfl rfl (by (try simp only [List.map_toArray, List.map_cons, List.map_nil]); first | done | rfl | (simp only [List.length_drop, List.length_take]; rfl)) ?_
      with_reducible refine (spec_Int_Sign.calls false _ _ l0_1 t362 _ ?side1 ?side2 A3.out).mono ?_
      (case side1 => repeat (first | exact (Kd.C_below HR0_1.out HB.out) | (with_reducible refine Kd.C_alloc ?_ _) | (with_reducible refine Kd.C_drewN ?_ _) | (with_reducible refine Kd.C_drew ?_)))
      (case side2 => exact HC0_1.out)
      rintro e w20 ⟨rfl, hb⟩
      refine ⟨_, rfl, ?_⟩
      have n0_ := Aside0.mk (blk_below BK360.out hb)
      have n1_ := Aside0.mk (blk_below BK361.out hb)
      have n2_ := Aside0.mk (below_step HB.out hb)
      clear BK360
      clear BK361
      clear HB
      have BK360 := n0_
      have BK361 := n1_
      have HB := n2_
      clear n0_ n1_ n2_
      (try clear hb)
      (try clear hb2)
      (try clear hk)
      (try clear hi)
      refine hK.out _ _ ⟨(blk_cell BK360.out 0).trans rfl, (blk_cell BK360.out 1).trans rfl, (blk_cell BK361.out 0).trans rfl, (blk_cell BK361.out 1).trans rfl⟩ (fun hHeld => ?_)
      clear hK K
      refine norm_ (a' := ?_) ?_ ?_
      rotate_left
      · show Act.put _ (some 6) _ = _
        simp only [Act.put, List.setIfInBounds_toArray, List.set_cons_zero, List.set_cons_succ, i64_w, i32_w]
        rfl
      refine one_ (i := 3) (N := some 8) #[true, true, true, true, false] rfl rfl (by kernel_rfl) (by decide) (fun K hK => ?_)
      refine goes_ Tryz.func38 (by kernel_rfl) rfl #[.agg #[.bool a1_0, .slice A1_1 l1_1.length c1_1]] (by rfl) rfl rfl (by (try simp only [List.map_toArray, List.map_cons, List.map_nil]); first | done | rfl | (simp only [List.length_drop, List.length_take]; rfl)) ?_
      with_reducible refine (spec_Int_Sign.calls a1_0 _ _ l1_1 t363 _ ?side1 ?side2 A4.out).mono ?_
      (case side1 => repeat (first | exact (Kd.C_below HR1_1.out HB.out) | (with_reducible refine Kd.C_alloc ?_ _) | (with_reducible refine Kd.C_drewN ?_ _) | (with_reducible refine Kd.C_drew ?_)))
      (case side2 => exact HC1_1.out)
      rintro e w21 ⟨rfl, hb⟩
      refine ⟨_, rfl, ?_⟩
      have n0_ := Aside0.mk (blk_below BK360.out hb)
      have n1_ := Aside0.mk (blk_below BK361.out hb)
      have n2_ := Aside0.mk (below_step HB.out hb)
      clear BK360
      clear BK361
      clear HB
      have BK360 := n0_
      have BK361 := n1_
      have HB := n2_
      clear n0_ n1_ n2_
      (try clear hb)
      (try clear hb2)
      (try clear hk)
      (try clear hi)
      refine hK.out _ _ ⟨(blk_cell BK360.out 0).trans rfl, (blk_cell BK360.out 1).trans rfl, (blk_cell BK361.out 0).trans rfl, (blk_cell BK361.out 1).trans rfl⟩ (fun hHeld => ?_)
      clear hK K
      refine norm_ (a' := ?_) ?_ ?_
      rotate_left
      · show Act.put _ (some 8) _ = _
        simp only [Act.put, List.setIfInBounds_toArray, List.set_cons_zero, List.set_cons_succ, i64_w, i32_w]
        rfl
      refine pure_ (i := 4) (N := some 9) (v := ?_) (a' := ?_) #[true, true, true, true, true] rfl rfl (by kernel_rfl) (fun _ _ _ h => h) (Or.inl ⟨by rfl, ?_⟩) ?_ ?_
      rotate_left
      · intro w'
        go_simp
        with_reducible rfl
      rotate_left
      · simp only [Act.put, List.setIfInBounds_toArray, List.set_cons_zero, List.set_cons_succ, i64_w, i32_w]
        rfl
      refine done_ (by kernel_rfl) ?_
      have hnb22 := NB360_361.out
      have hnc22 := NB361_360.out
      have hcz23_0 : w21.cell? ⟨gb360, 0, none⟩ = some (.bool false) := (blk_cell BK360.out 0).trans rfl
      have hcz23_1 : w21.cell? ⟨gb360, 1, none⟩ = some (.slice A0_1 l0_1.length c0_1) := (blk_cell BK360.out 1).trans rfl
      have hfz23_0 := blk_frozen BK360.out 0
      have hfz23_1 := blk_frozen BK360.out 1
      have hcz24_0 : w21.cell? ⟨gb361, 0, none⟩ = some (.bool a1_0) := (blk_cell BK361.out 0).trans rfl
      have hcz24_1 : w21.cell? ⟨gb361, 1, none⟩ = some (.slice A1_1 l1_1.length c1_1) := (blk_cell BK361.out 1).trans rfl
      have hfz24_0 := blk_frozen BK361.out 0
      have hfz24_1 := blk_frozen BK361.out 1
      try go_wp2_with (first | ((with_reducible refine gate_callee (f := 39) rfl ?_); refine goesL_ (some 26) rfl rfl Tryz.func39 (by kernel_rfl) rfl #[.slice A0_1 l0_1.length c0_1, .slice A1_1 l1_1.length c1_1] rfl (by (try simp only [List.map_toArray, List.map_cons, List.map_nil]); first | done | rfl | (simp only [List.length_drop, List.length_take]; rfl)) ?_; (with_reducible refine (spec_order.calls k _ _ l0_1 _ _ l1_1 t367 _ ?side1 ?side2 ?side3 ?side4 A16.out).mono ?_); (case side1 => repeat (first | exact (Kd.C_below HR0_1.out HB.out) | (with_reducible refine Kd.C_alloc ?_ _) | (with_reducible refine Kd.C_drewN ?_ _) | (with_reducible refine Kd.C_drew ?_))); (case side2 => exact HC0_1.out); (case side3 => repeat (first | exact (Kd.C_below HR1_1.out HB.out) | (with_reducible refine Kd.C_alloc ?_ _) | (with_reducible refine Kd.C_drewN ?_ _) | (with_reducible refine Kd.C_drew ?_))); (case side4 => exact HC1_1.out); rintro e w' ⟨rfl, ⟨nd, rfl⟩⟩; refine ⟨_, rfl, ?_⟩))
      go_ret
      exact ⟨by first | rfl | (simp [errW_none, errW_some] <;> rfl) | (simp [*, errW_none, errW_some] <;> rfl), by repeat (first | (with_reducible first | exact HB.out | apply below_alloc | apply pw_below_drewN | apply below_drew1 | refine below_set ?_ GE360.out | refine below_set ?_ GE361.out) | exact HB.out)⟩
  · rw [if_neg c5] at H
    have c5b0 : (t362 == t363) = false := beq_eq_false_iff_ne.mpr c5
    have c5b1 : (t362 != t363) = true := bne_iff_ne.mpr c5
    replace H := Option.bind_eq_some_iff.mp H
    obtain ⟨t364, A250, H⟩ := H
    replace H : ((spec_Int_Sign.f a1_0 l1_1).bind fun t365 => (if t364 < t365 then (some (-1)) else (some 1))) = some r := H
    have A25 := Aside0.mk A250
    clear A250
    replace H := Option.bind_eq_some_iff.mp H
    obtain ⟨t365, A260, H⟩ := H
    replace H : (if t364 < t365 then (some (-1)) else (some 1)) = some r := H
    have A26 := Aside0.mk A260
    clear A260
    by_cases c27 : t364 < t365
    · rw [if_pos c27] at H
      have c27b0 : decide (t364 < t365) = true := decide_eq_true c27
      clear c27
      obtain rfl := Option.some.inj H
      go_enter Tryz.func20, Tryz.ntmps20
      try go_wp2_with (first | ((with_reducible refine gate_dst (N := 2) rfl ?_); refine box_event ?hg (N := 2) ?hd (cs := #[.bool a0_0, .slice A0_1 l0_1.length c0_1]) (t := 24) ?hr ?_; (case hd => rfl); (case hg => rfl); (case hr => first | (go_simp; done) | (go_simp; rfl)); intro gb360 hg w28 hbox hb; have n0_ := Aside0.mk (below_step HB.out hb); have n1_ := Aside0.mk (hbox); have n2_ := Aside0.mk ((by rw [hg]; exact (below_size HB.out) : w.heap.size ≤ gb360)); have n3_ := Aside0.mk ((by rw [hg]; exact (below_size HB.out) : w.heap.size ≤ gb360)); clear HB; have HB := n0_; have BK360 := n1_; have GW360 := n2_; have GE360 := n3_; clear n0_ n1_ n2_ n3_; clear hb hbox hg) | ((with_reducible refine gate_dst (N := 3) rfl ?_); refine box_event ?hg (N := 3) ?hd (cs := #[.bool a1_0, .slice A1_1 l1_1.length c1_1]) (t := 24) ?hr ?_; (case hd => rfl); (case hg => rfl); (case hr => first | (go_simp; done) | (go_simp; rfl)); intro gb361 hg w29 hbox hb; have n0_ := Aside0.mk (blk_below BK360.out hb); have n1_ := Aside0.mk (below_step HB.out hb); have n2_ := Aside0.mk (hbox); have n3_ := Aside0.mk ((by rw [hg]; exact (below_size HB.out) : w.heap.size ≤ gb361)); have n4_ := Aside0.mk ((by rw [hg]; exact (below_size HB.out) : w.heap.size ≤ gb361)); have n5_ := Aside0.mk ((by rw [hg]; exact Nat.ne_of_lt (blk_lt BK360.out) : gb360 ≠ gb361)); have n6_ := Aside0.mk ((by rw [hg]; exact Nat.ne_of_gt (blk_lt BK360.out) : gb361 ≠ gb360)); clear BK360; clear HB; have BK360 := n0_; have HB := n1_; have BK361 := n2_; have GW361 := n3_; have GE361 := n4_; have NB360_361 := n5_; have NB361_360 := n6_; clear n0_ n1_ n2_ n3_ n4_ n5_ n6_; clear hb hbox hg))
      have n0_ := Aside0.mk (blk_drew BK360.out)
      have n1_ := Aside0.mk (blk_drew BK361.out)
      have n2_ := Aside0.mk (below_drew1 HB.out)
      clear BK360
      clear BK361
      clear HB
      have BK360 := n0_
      have BK361 := n1_
      have HB := n2_
      clear n0_ n1_ n2_
      refine start_ (n := 5) (S := fun w' => w'.cell? ⟨gb360, 0, none⟩ = some (.bool a0_0) ∧ w'.cell? ⟨gb360, 1, none⟩ = some (.slice A0_1 l0_1.length c0_1) ∧ w'.cell? ⟨gb361, 0, none⟩ = some (.bool a1_0) ∧ w'.cell? ⟨gb361, 1, none⟩ = some (.slice A1_1 l1_1.length c1_1)) (ds := []) #[false, false, false, false, false] (by kernel_rfl) rfl rfl ⟨(blk_cell BK360.out 0).trans rfl, (blk_cell BK360.out 1).trans rfl, (blk_cell BK361.out 0).trans rfl, (blk_cell BK361.out 1).trans rfl⟩ (fun hHeld => ?_)
      generalize w29.drew = w30 at BK360 BK361 HB hHeld ⊢
      refine take_ (i := 0) (N := some 5) (v := ?_) (a' := ?_) #[true, false, false, false, false] rfl rfl (by kernel_rfl) (fun _ _ _ h => h) (Or.inl ⟨by rfl, ?_⟩) hHeld ?_ ?_
      rotate_left
      · rintro w' ⟨s0, s1, s2, s3⟩
        go_simp
        with_reducible rfl
      rotate_left
      · simp only [Act.put, List.setIfInBounds_toArray, List.set_cons_zero, List.set_cons_succ, i64_w, i32_w]
        rfl
      refine take_ (i := 2) (N := some 7) (v := ?_) (a' := ?_) #[true, false, true, false, false] rfl rfl (by kernel_rfl) (fun _ _ _ h => h) (Or.inl ⟨by rfl, ?_⟩) hHeld ?_ ?_
      rotate_left
      · rintro w' ⟨s0, s1, s2, s3⟩
        go_simp
        with_reducible rfl
      rotate_left
      · simp only [Act.put, List.setIfInBounds_toArray, List.set_cons_zero, List.set_cons_succ, i64_w, i32_w]
        rfl
      refine one_ (i := 1) (N := some 6) #[true, true, true, false, false] rfl rfl (by kernel_rfl) (by decide) (fun K hK => ?_)
      refine goes_ Tryz.func38 (by kernel_rfl) rfl #[.agg #[.bool a0_0, .slice A0_1 l0_1.length c0_1]] (by rfl) rfl rfl (by (try simp only [List.map_toArray, List.map_cons, List.map_nil]); first | done | rfl | (simp only [List.length_drop, List.length_take]; rfl)) ?_
      with_reducible refine (spec_Int_Sign.calls a0_0 _ _ l0_1 t362 _ ?side1 ?side2 A3.out).mono ?_
      (case side1 => repeat (first | exact (Kd.C_below HR0_1.out HB.out) | (with_reducible refine Kd.C_alloc ?_ _) | (with_reducible refine Kd.C_drewN ?_ _) | (with_reducible refine Kd.C_drew ?_)))
      (case side2 => exact HC0_1.out)
      rintro e w31 ⟨rfl, hb⟩
      refine ⟨_, rfl, ?_⟩
      have n0_ := Aside0.mk (blk_below BK360.out hb)
      have n1_ := Aside0.mk (blk_below BK361.out hb)
      have n2_ := Aside0.mk (below_step HB.out hb)
      clear BK360
      clear BK361
      clear HB
      have BK360 := n0_
      have BK361 := n1_
      have HB := n2_
      clear n0_ n1_ n2_
      (try clear hb)
      (try clear hb2)
      (try clear hk)
      (try clear hi)
      refine hK.out _ _ ⟨(blk_cell BK360.out 0).trans rfl, (blk_cell BK360.out 1).trans rfl, (blk_cell BK361.out 0).trans rfl, (blk_cell BK361.out 1).trans rfl⟩ (fun hHeld => ?_)
      clear hK K
      refine norm_ (a' := ?_) ?_ ?_
      rotate_left
      · show Act.put _ (some 6) _ = _
        simp only [Act.put, List.setIfInBounds_toArray, List.set_cons_zero, List.set_cons_succ, i64_w, i32_w]
        rfl
      refine one_ (i := 3) (N := some 8) #[true, true, true, true, false] rfl rfl (by kernel_rfl) (by decide) (fun K hK => ?_)
      refine goes_ Tryz.func38 (by kernel_rfl) rfl #[.agg #[.bool a1_0, .slice A1_1 l1_1.length c1_1]] (by rfl) rfl rfl (by (try simp only [List.map_toArray, List.map_cons, List.map_nil]); first | done | rfl | (simp only [List.length_drop, List.length_take]; rfl)) ?_
      with_reducible refine (spec_Int_Sign.calls a1_0 _ _ l1_1 t363 _ ?side1 ?side2 A4.out).mono ?_
      (case side1 => repeat (first | exact (Kd.C_below HR1_1.out HB.out) | (with_reducible refine Kd.C_alloc ?_ _) | (with_reducible refine Kd.C_drewN ?_ _) | (with_reducible refine Kd.C_drew ?_)))
      (case side2 => exact HC1_1.out)
      rintro e w32 ⟨rfl, hb⟩
      refine ⟨_, rfl, ?_⟩
      have n0_ := Aside0.mk (blk_below BK360.out hb)
      have n1_ := Aside0.mk (blk_below BK361.out hb)
      have n2_ := Aside0.mk (below_step HB.out hb)
      clear BK360
      clear BK361
      clear HB
      have BK360 := n0_
      have BK361 := n1_
      have HB := n2_
      clear n0_ n1_ n2_
      (try clear hb)
      (try clear hb2)
      (try clear hk)
      (try clear hi)
      refine hK.out _ _ ⟨(blk_cell BK360.out 0).trans rfl, (blk_cell BK360.out 1).trans rfl, (blk_cell BK361.out 0).trans rfl, (blk_cell BK361.out 1).trans rfl⟩ (fun hHeld => ?_)
      clear hK K
      refine norm_ (a' := ?_) ?_ ?_
      rotate_left
      · show Act.put _ (some 8) _ = _
        simp only [Act.put, List.setIfInBounds_toArray, List.set_cons_zero, List.set_cons_succ, i64_w, i32_w]
        rfl
      refine pure_ (i := 4) (N := some 9) (v := ?_) (a' := ?_) #[true, true, true, true, true] rfl rfl (by kernel_rfl) (fun _ _ _ h => h) (Or.inl ⟨by rfl, ?_⟩) ?_ ?_
      rotate_left
      · intro w'
        go_simp
        with_reducible rfl
      rotate_left
      · simp only [Act.put, List.setIfInBounds_toArray, List.set_cons_zero, List.set_cons_succ, i64_w, i32_w]
        rfl
      refine done_ (by kernel_rfl) ?_
      try go_wp2
      have n0_ := Aside0.mk (blk_drew BK360.out)
      have n1_ := Aside0.mk (blk_drew BK361.out)
      have n2_ := Aside0.mk (below_drew1 HB.out)
      clear BK360
      clear BK361
      clear HB
      have BK360 := n0_
      have BK361 := n1_
      have HB := n2_
      clear n0_ n1_ n2_
      refine start_ (n := 5) (S := fun w' => w'.cell? ⟨gb360, 0, none⟩ = some (.bool a0_0) ∧ w'.cell? ⟨gb360, 1, none⟩ = some (.slice A0_1 l0_1.length c0_1) ∧ w'.cell? ⟨gb361, 0, none⟩ = some (.bool a1_0) ∧ w'.cell? ⟨gb361, 1, none⟩ = some (.slice A1_1 l1_1.length c1_1)) (ds := []) #[false, false, false, false, false] (by kernel_rfl) rfl rfl ⟨(blk_cell BK360.out 0).trans rfl, (blk_cell BK360.out 1).trans rfl, (blk_cell BK361.out 0).trans rfl, (blk_cell BK361.out 1).trans rfl⟩ (fun hHeld => ?_)
      generalize w32.drew = w33 at BK360 BK361 HB hHeld ⊢
      refine take_ (i := 0) (N := some 10) (v := ?_) (a' := ?_) #[true, false, false, false, false] rfl rfl (by kernel_rfl) (fun _ _ _ h => h) (Or.inl ⟨by rfl, ?_⟩) hHeld ?_ ?_
      rotate_left
      · rintro w' ⟨s0, s1, s2, s3⟩
        go_simp
        with_reducible rfl
      rotate_left
      · simp only [Act.put, List.setIfInBounds_toArray, List.set_cons_zero, List.set_cons_succ, i64_w, i32_w]
        rfl
      refine take_ (i := 2) (N := some 12) (v := ?_) (a' := ?_) #[true, false, true, false, false] rfl rfl (by kernel_rfl) (fun _ _ _ h => h) (Or.inl ⟨by rfl, ?_⟩) hHeld ?_ ?_
      rotate_left
      · rintro w' ⟨s0, s1, s2, s3⟩
        go_simp
        with_reducible rfl
      rotate_left
      · simp only [Act.put, List.setIfInBounds_toArray, List.set_cons_zero, List.set_cons_succ, i64_w, i32_w]
        rfl
      refine one_ (i := 1) (N := some 11) #[true, true, true, false, false] rfl rfl (by kernel_rfl) (by decide) (fun K hK => ?_)
      refine goes_ Tryz.func38 (by kernel_rfl) rfl #[.agg #[.bool a0_0, .slice A0_1 l0_1.length c0_1]] (by rfl) rfl rfl (by (try simp only [List.map_toArray, List.map_cons, List.map_nil]); first | done | rfl | (simp only [List.length_drop, List.length_take]; rfl)) ?_
      with_reducible refine (spec_Int_Sign.calls a0_0 _ _ l0_1 t364 _ ?side1 ?side2 A25.out).mono ?_
      (case side1 => repeat (first | exact (Kd.C_below HR0_1.out HB.out) | (with_reducible refine Kd.C_alloc ?_ _) | (with_reducible refine Kd.C_drewN ?_ _) | (with_reducible refine Kd.C_drew ?_)))
      (case side2 => exact HC0_1.out)
      rintro e w34 ⟨rfl, hb⟩
      refine ⟨_, rfl, ?_⟩
      have n0_ := Aside0.mk (blk_below BK360.out hb)
      have n1_ := Aside0.mk (blk_below BK361.out hb)
      have n2_ := Aside0.mk (below_step HB.out hb)
      clear BK360
      clear BK361
      clear HB
      have BK360 := n0_
      have BK361 := n1_
      have HB := n2_
      clear n0_ n1_ n2_
      (try clear hb)
      (try clear hb2)
      (try clear hk)
      (try clear hi)
      refine hK.out _ _ ⟨(blk_cell BK360.out 0).trans rfl, (blk_cell BK360.out 1).trans rfl, (blk_cell BK361.out 0).trans rfl, (blk_cell BK361.out 1).trans rfl⟩ (fun hHeld => ?_)
      clear hK K
      refine norm_ (a' := ?_) ?_ ?_
      rotate_left
      · show Act.put _ (some 11) _ = _
        simp only [Act.put, List.setIfInBounds_toArray, List.set_cons_zero, List.set_cons_succ, i64_w, i32_w]
        rfl
      refine one_ (i := 3) (N := some 13) #[true, true, true, true, false] rfl rfl (by kernel_rfl) (by decide) (fun K hK => ?_)
      refine goes_ Tryz.func38 (by kernel_rfl) rfl #[.agg #[.bool a1_0, .slice A1_1 l1_1.length c1_1]] (by rfl) rfl rfl (by (try simp only [List.map_toArray, List.map_cons, List.map_nil]); first | done | rfl | (simp only [List.length_drop, List.length_take]; rfl)) ?_
      with_reducible refine (spec_Int_Sign.calls a1_0 _ _ l1_1 t365 _ ?side1 ?side2 A26.out).mono ?_
      (case side1 => repeat (first | exact (Kd.C_below HR1_1.out HB.out) | (with_reducible refine Kd.C_alloc ?_ _) | (with_reducible refine Kd.C_drewN ?_ _) | (with_reducible refine Kd.C_drew ?_)))
      (case side2 => exact HC1_1.out)
      rintro e w35 ⟨rfl, hb⟩
      refine ⟨_, rfl, ?_⟩
      have n0_ := Aside0.mk (blk_below BK360.out hb)
      have n1_ := Aside0.mk (blk_below BK361.out hb)
      have n2_ := Aside0.mk (below_step HB.out hb)
      clear BK360
      clear BK361
      clear HB
      have BK360 := n0_
      have BK361 := n1_
      have HB := n2_
      clear n0_ n1_ n2_
      (try clear hb)
      (try clear hb2)
      (try clear hk)
      (try clear hi)
      refine hK.out _ _ ⟨(blk_cell BK360.out 0).trans rfl, (blk_cell BK360.out 1).trans rfl, (blk_cell BK361.out 0).trans rfl, (blk_cell BK361.out 1).trans rfl⟩ (fun hHeld => ?_)
      clear hK K
      refine norm_ (a' := ?_) ?_ ?_
      rotate_left
      · show Act.put _ (some 13) _ = _
        simp only [Act.put, List.setIfInBounds_toArray, List.set_cons_zero, List.set_cons_succ, i64_w, i32_w]
        rfl
      refine pure_ (i := 4) (N := some 14) (v := ?_) (a' := ?_) #[true, true, true, true, true] rfl rfl (by kernel_rfl) (fun _ _ _ h => h) (Or.inl ⟨by rfl, ?_⟩) ?_ ?_
      rotate_left
      · intro w'
        go_simp
        with_reducible rfl
      rotate_left
      · simp only [Act.put, List.setIfInBounds_toArray, List.set_cons_zero, List.set_cons_succ, i64_w, i32_w]
        rfl
      refine done_ (by kernel_rfl) ?_
      try go_wp2
      go_ret
      exact ⟨by first | rfl | (simp [errW_none, errW_some] <;> rfl) | (simp [*, errW_none, errW_some] <;> rfl), by repeat (first | (with_reducible first | exact HB.out | apply below_alloc | apply pw_below_drewN | apply below_drew1 | refine below_set ?_ GE360.out | refine below_set ?_ GE361.out) | exact HB.out)⟩
    · rw [if_neg c27] at H
      have c27b0 : decide (t364 < t365) = false := decide_eq_false c27
      clear c27
      obtain rfl := Option.some.inj H
      go_enter Tryz.func20, Tryz.ntmps20
      try go_wp2_with (first | ((with_reducible refine gate_dst (N := 2) rfl ?_); refine box_event ?hg (N := 2) ?hd (cs := #[.bool a0_0, .slice A0_1 l0_1.length c0_1]) (t := 24) ?hr ?_; (case hd => rfl); (case hg => rfl); (case hr => first | (go_simp; done) | (go_simp; rfl)); intro gb360 hg w36 hbox hb; have n0_ := Aside0.mk (below_step HB.out hb); have n1_ := Aside0.mk (hbox); have n2_ := Aside0.mk ((by rw [hg]; exact (below_size HB.out) : w.heap.size ≤ gb360)); have n3_ := Aside0.mk ((by rw [hg]; exact (below_size HB.out) : w.heap.size ≤ gb360)); clear HB; have HB := n0_; have BK360 := n1_; have GW360 := n2_; have GE360 := n3_; clear n0_ n1_ n2_ n3_; clear hb hbox hg) | ((with_reducible refine gate_dst (N := 3) rfl ?_); refine box_event ?hg (N := 3) ?hd (cs := #[.bool a1_0, .slice A1_1 l1_1.length c1_1]) (t := 24) ?hr ?_; (case hd => rfl); (case hg => rfl); (case hr => first | (go_simp; done) | (go_simp; rfl)); intro gb361 hg w37 hbox hb; have n0_ := Aside0.mk (blk_below BK360.out hb); have n1_ := Aside0.mk (below_step HB.out hb); have n2_ := Aside0.mk (hbox); have n3_ := Aside0.mk ((by rw [hg]; exact (below_size HB.out) : w.heap.size ≤ gb361)); have n4_ := Aside0.mk ((by rw [hg]; exact (below_size HB.out) : w.heap.size ≤ gb361)); have n5_ := Aside0.mk ((by rw [hg]; exact Nat.ne_of_lt (blk_lt BK360.out) : gb360 ≠ gb361)); have n6_ := Aside0.mk ((by rw [hg]; exact Nat.ne_of_gt (blk_lt BK360.out) : gb361 ≠ gb360)); clear BK360; clear HB; have BK360 := n0_; have HB := n1_; have BK361 := n2_; have GW361 := n3_; have GE361 := n4_; have NB360_361 := n5_; have NB361_360 := n6_; clear n0_ n1_ n2_ n3_ n4_ n5_ n6_; clear hb hbox hg))
      have n0_ := Aside0.mk (blk_drew BK360.out)
      have n1_ := Aside0.mk (blk_drew BK361.out)
      have n2_ := Aside0.mk (below_drew1 HB.out)
      clear BK360
      clear BK361
      clear HB
      have BK360 := n0_
      have BK361 := n1_
      have HB := n2_
      clear n0_ n1_ n2_
      refine start_ (n := 5) (S := fun w' => w'.cell? ⟨gb360, 0, none⟩ = some (.bool a0_0) ∧ w'.cell? ⟨gb360, 1, none⟩ = some (.slice A0_1 l0_1.length c0_1) ∧ w'.cell? ⟨gb361, 0, none⟩ = some (.bool a1_0) ∧ w'.cell? ⟨gb361, 1, none⟩ = some (.slice A1_1 l1_1.length c1_1)) (ds := []) #[false, false, false, false, false] (by kernel_rfl) rfl rfl ⟨(blk_cell BK360.out 0).trans rfl, (blk_cell BK360.out 1).trans rfl, (blk_cell BK361.out 0).trans rfl, (blk_cell BK361.out 1).trans rfl⟩ (fun hHeld => ?_)
      generalize w37.drew = w38 at BK360 BK361 HB hHeld ⊢
      refine take_ (i := 0) (N := some 5) (v := ?_) (a' := ?_) #[true, false, false, false, false] rfl rfl (by kernel_rfl) (fun _ _ _ h => h) (Or.inl ⟨by rfl, ?_⟩) hHeld ?_ ?_
      rotate_left
      · rintro w' ⟨s0, s1, s2, s3⟩
        go_simp
        with_reducible rfl
      rotate_left
      · simp only [Act.put, List.setIfInBounds_toArray, List.set_cons_zero, List.set_cons_succ, i64_w, i32_w]
        rfl
      refine take_ (i := 2) (N := some 7) (v := ?_) (a' := ?_) #[true, false, true, false, false] rfl rfl (by kernel_rfl) (fun _ _ _ h => h) (Or.inl ⟨by rfl, ?_⟩) hHeld ?_ ?_
      rotate_left
      · rintro w' ⟨s0, s1, s2, s3⟩
        go_simp
        with_reducible rfl
      rotate_left
      · simp only [Act.put, List.setIfInBounds_toArray, List.set_cons_zero, List.set_cons_succ, i64_w, i32_w]
        rfl
      refine one_ (i := 1) (N := some 6) #[true, true, true, false, false] rfl rfl (by kernel_rfl) (by decide) (fun K hK => ?_)
      refine goes_ Tryz.func38 (by kernel_rfl) rfl #[.agg #[.bool a0_0, .slice A0_1 l0_1.length c0_1]] (by rfl) rfl rfl (by (try simp only [List.map_toArray, List.map_cons, List.map_nil]); first | done | rfl | (simp only [List.length_drop, List.length_take]; rfl)) ?_
      with_reducible refine (spec_Int_Sign.calls a0_0 _ _ l0_1 t362 _ ?side1 ?side2 A3.out).mono ?_
      (case side1 => repeat (first | exact (Kd.C_below HR0_1.out HB.out) | (with_reducible refine Kd.C_alloc ?_ _) | (with_reducible refine Kd.C_drewN ?_ _) | (with_reducible refine Kd.C_drew ?_)))
      (case side2 => exact HC0_1.out)
      rintro e w39 ⟨rfl, hb⟩
      refine ⟨_, rfl, ?_⟩
      have n0_ := Aside0.mk (blk_below BK360.out hb)
      have n1_ := Aside0.mk (blk_below BK361.out hb)
      have n2_ := Aside0.mk (below_step HB.out hb)
      clear BK360
      clear BK361
      clear HB
      have BK360 := n0_
      have BK361 := n1_
      have HB := n2_
      clear n0_ n1_ n2_
      (try clear hb)
      (try clear hb2)
      (try clear hk)
      (try clear hi)
      refine hK.out _ _ ⟨(blk_cell BK360.out 0).trans rfl, (blk_cell BK360.out 1).trans rfl, (blk_cell BK361.out 0).trans rfl, (blk_cell BK361.out 1).trans rfl⟩ (fun hHeld => ?_)
      clear hK K
      refine norm_ (a' := ?_) ?_ ?_
      rotate_left
      · show Act.put _ (some 6) _ = _
        simp only [Act.put, List.setIfInBounds_toArray, List.set_cons_zero, List.set_cons_succ, i64_w, i32_w]
        rfl
      refine one_ (i := 3) (N := some 8) #[true, true, true, true, false] rfl rfl (by kernel_rfl) (by decide) (fun K hK => ?_)
      refine goes_ Tryz.func38 (by kernel_rfl) rfl #[.agg #[.bool a1_0, .slice A1_1 l1_1.length c1_1]] (by rfl) rfl rfl (by (try simp only [List.map_toArray, List.map_cons, List.map_nil]); first | done | rfl | (simp only [List.length_drop, List.length_take]; rfl)) ?_
      with_reducible refine (spec_Int_Sign.calls a1_0 _ _ l1_1 t363 _ ?side1 ?side2 A4.out).mono ?_
      (case side1 => repeat (first | exact (Kd.C_below HR1_1.out HB.out) | (with_reducible refine Kd.C_alloc ?_ _) | (with_reducible refine Kd.C_drewN ?_ _) | (with_reducible refine Kd.C_drew ?_)))
      (case side2 => exact HC1_1.out)
      rintro e w40 ⟨rfl, hb⟩
      refine ⟨_, rfl, ?_⟩
      have n0_ := Aside0.mk (blk_below BK360.out hb)
      have n1_ := Aside0.mk (blk_below BK361.out hb)
      have n2_ := Aside0.mk (below_step HB.out hb)
      clear BK360
      clear BK361
      clear HB
      have BK360 := n0_
      have BK361 := n1_
      have HB := n2_
      clear n0_ n1_ n2_
      (try clear hb)
      (try clear hb2)
      (try clear hk)
      (try clear hi)
      refine hK.out _ _ ⟨(blk_cell BK360.out 0).trans rfl, (blk_cell BK360.out 1).trans rfl, (blk_cell BK361.out 0).trans rfl, (blk_cell BK361.out 1).trans rfl⟩ (fun hHeld => ?_)
      clear hK K
      refine norm_ (a' := ?_) ?_ ?_
      rotate_left
      · show Act.put _ (some 8) _ = _
        simp only [Act.put, List.setIfInBounds_toArray, List.set_cons_zero, List.set_cons_succ, i64_w, i32_w]
        rfl
      refine pure_ (i := 4) (N := some 9) (v := ?_) (a' := ?_) #[true, true, true, true, true] rfl rfl (by kernel_rfl) (fun _ _ _ h => h) (Or.inl ⟨by rfl, ?_⟩) ?_ ?_
      rotate_left
      · intro w'
        go_simp
        with_reducible rfl
      rotate_left
      · simp only [Act.put, List.setIfInBounds_toArray, List.set_cons_zero, List.set_cons_succ, i64_w, i32_w]
        rfl
      refine done_ (by kernel_rfl) ?_
      try go_wp2
      have n0_ := Aside0.mk (blk_drew BK360.out)
      have n1_ := Aside0.mk (blk_drew BK361.out)
      have n2_ := Aside0.mk (below_drew1 HB.out)
      clear BK360
      clear BK361
      clear HB
      have BK360 := n0_
      have BK361 := n1_
      have HB := n2_
      clear n0_ n1_ n2_
      refine start_ (n := 5) (S := fun w' => w'.cell? ⟨gb360, 0, none⟩ = some (.bool a0_0) ∧ w'.cell? ⟨gb360, 1, none⟩ = some (.slice A0_1 l0_1.length c0_1) ∧ w'.cell? ⟨gb361, 0, none⟩ = some (.bool a1_0) ∧ w'.cell? ⟨gb361, 1, none⟩ = some (.slice A1_1 l1_1.length c1_1)) (ds := []) #[false, false, false, false, false] (by kernel_rfl) rfl rfl ⟨(blk_cell BK360.out 0).trans rfl, (blk_cell BK360.out 1).trans rfl, (blk_cell BK361.out 0).trans rfl, (blk_cell BK361.out 1).trans rfl⟩ (fun hHeld => ?_)
      generalize w40.drew = w41 at BK360 BK361 HB hHeld ⊢
      refine take_ (i := 0) (N := some 10) (v := ?_) (a' := ?_) #[true, false, false, false, false] rfl rfl (by kernel_rfl) (fun _ _ _ h => h) (Or.inl ⟨by rfl, ?_⟩) hHeld ?_ ?_
      rotate_left
      · rintro w' ⟨s0, s1, s2, s3⟩
        go_simp
        with_reducible rfl
      rotate_left
      · simp only [Act.put, List.setIfInBounds_toArray, List.set_cons_zero, List.set_cons_succ, i64_w, i32_w]
        rfl
      refine take_ (i := 2) (N := some 12) (v := ?_) (a' := ?_) #[true, false, true, false, false] rfl rfl (by kernel_rfl) (fun _ _ _ h => h) (Or.inl ⟨by rfl, ?_⟩) hHeld ?_ ?_
      rotate_left
      · rintro w' ⟨s0, s1, s2, s3⟩
        go_simp
        with_reducible rfl
      rotate_left
      · simp only [Act.put, List.setIfInBounds_toArray, List.set_cons_zero, List.set_cons_succ, i64_w, i32_w]
        rfl
      refine one_ (i := 1) (N := some 11) #[true, true, true, false, false] rfl rfl (by kernel_rfl) (by decide) (fun K hK => ?_)
      refine goes_ Tryz.func38 (by kernel_rfl) rfl #[.agg #[.bool a0_0, .slice A0_1 l0_1.length c0_1]] (by rfl) rfl rfl (by (try simp only [List.map_toArray, List.map_cons, List.map_nil]); first | done | rfl | (simp only [List.length_drop, List.length_take]; rfl)) ?_
      with_reducible refine (spec_Int_Sign.calls a0_0 _ _ l0_1 t364 _ ?side1 ?side2 A25.out).mono ?_
      (case side1 => repeat (first | exact (Kd.C_below HR0_1.out HB.out) | (with_reducible refine Kd.C_alloc ?_ _) | (with_reducible refine Kd.C_drewN ?_ _) | (with_reducible refine Kd.C_drew ?_)))
      (case side2 => exact HC0_1.out)
      rintro e w42 ⟨rfl, hb⟩
      refine ⟨_, rfl, ?_⟩
      have n0_ := Aside0.mk (blk_below BK360.out hb)
      have n1_ := Aside0.mk (blk_below BK361.out hb)
      have n2_ := Aside0.mk (below_step HB.out hb)
      clear BK360
      clear BK361
      clear HB
      have BK360 := n0_
      have BK361 := n1_
      have HB := n2_
      clear n0_ n1_ n2_
      (try clear hb)
      (try clear hb2)
      (try clear hk)
      (try clear hi)
      refine hK.out _ _ ⟨(blk_cell BK360.out 0).trans rfl, (blk_cell BK360.out 1).trans rfl, (blk_cell BK361.out 0).trans rfl, (blk_cell BK361.out 1).trans rfl⟩ (fun hHeld => ?_)
      clear hK K
      refine norm_ (a' := ?_) ?_ ?_
      rotate_left
      · show Act.put _ (some 11) _ = _
        simp only [Act.put, List.setIfInBounds_toArray, List.set_cons_zero, List.set_cons_succ, i64_w, i32_w]
        rfl
      refine one_ (i := 3) (N := some 13) #[true, true, true, true, false] rfl rfl (by kernel_rfl) (by decide) (fun K hK => ?_)
      refine goes_ Tryz.func38 (by kernel_rfl) rfl #[.agg #[.bool a1_0, .slice A1_1 l1_1.length c1_1]] (by rfl) rfl rfl (by (try simp only [List.map_toArray, List.map_cons, List.map_nil]); first | done | rfl | (simp only [List.length_drop, List.length_take]; rfl)) ?_
      with_reducible refine (spec_Int_Sign.calls a1_0 _ _ l1_1 t365 _ ?side1 ?side2 A26.out).mono ?_
      (case side1 => repeat (first | exact (Kd.C_below HR1_1.out HB.out) | (with_reducible refine Kd.C_alloc ?_ _) | (with_reducible refine Kd.C_drewN ?_ _) | (with_reducible refine Kd.C_drew ?_)))
      (case side2 => exact HC1_1.out)
      rintro e w43 ⟨rfl, hb⟩
      refine ⟨_, rfl, ?_⟩
      have n0_ := Aside0.mk (blk_below BK360.out hb)
      have n1_ := Aside0.mk (blk_below BK361.out hb)
      have n2_ := Aside0.mk (below_step HB.out hb)
      clear BK360
      clear BK361
      clear HB
      have BK360 := n0_
      have BK361 := n1_
      have HB := n2_
      clear n0_ n1_ n2_
      (try clear hb)
      (try clear hb2)
      (try clear hk)
      (try clear hi)
      refine hK.out _ _ ⟨(blk_cell BK360.out 0).trans rfl, (blk_cell BK360.out 1).trans rfl, (blk_cell BK361.out 0).trans rfl, (blk_cell BK361.out 1).trans rfl⟩ (fun hHeld => ?_)
      clear hK K
      refine norm_ (a' := ?_) ?_ ?_
      rotate_left
      · show Act.put _ (some 13) _ = _
        simp only [Act.put, List.setIfInBounds_toArray, List.set_cons_zero, List.set_cons_succ, i64_w, i32_w]
        rfl
      refine pure_ (i := 4) (N := some 14) (v := ?_) (a' := ?_) #[true, true, true, true, true] rfl rfl (by kernel_rfl) (fun _ _ _ h => h) (Or.inl ⟨by rfl, ?_⟩) ?_ ?_
      rotate_left
      · intro w'
        go_simp
        with_reducible rfl
      rotate_left
      · simp only [Act.put, List.setIfInBounds_toArray, List.set_cons_zero, List.set_cons_succ, i64_w, i32_w]
        rfl
      refine done_ (by kernel_rfl) ?_
      try go_wp2
      go_ret
      exact ⟨by first | rfl | (simp [errW_none, errW_some] <;> rfl) | (simp [*, errW_none, errW_some] <;> rfl), by repeat (first | (with_reducible first | exact HB.out | apply below_alloc | apply pw_below_drewN | apply below_drew1 | refine below_set ?_ GE360.out | refine below_set ?_ GE361.out) | exact HB.out)⟩



/-! ### spec_sum: function 41 -/
theorem spec_sum.mono_l : ∀ k, (∀ y0 y1 y2 y3 y4 y5, LeO (spec_sum.l0 k y0 y1 y2 y3 y4 y5) (spec_sum.l0 (k + 1) y0 y1 y2 y3 y4 y5))
  | 0 => fun _ _ _ _ _ _ r h => by simp [spec_sum.l0] at h
  | k + 1 => by
    have ih0 := spec_sum.mono_l k
    · intro y0 y1 y2 y3 y4 y5
      unfold spec_sum.l0
      repeat' first
      | (with_reducible exact ih0 _ _ _ _ _ _)
      | (with_reducible exact spec_cut.mono _ _)
      | (with_reducible exact LeO.refl _)
      | (with_reducible exact LeO.none _)
      | (with_reducible refine LeO.ite ?_ ?_)
      | (with_reducible refine LeO.bind ?_ (fun _ => ?_))
      | exact ih0 _ _ _ _ _ _
      | exact spec_cut.mono _ _
      | exact LeO.none _
      | refine LeO.ite ?_ ?_
      | refine LeO.bind ?_ (fun _ => ?_)
theorem spec_sum.mono : ∀ a0 a1 k, LeO (spec_sum.f k a0 a1) (spec_sum.f (k + 1) a0 a1) := by
  intro a0 a1 k
  have ih0 := spec_sum.mono_l k
  unfold spec_sum.f
  repeat' first
      | (with_reducible exact ih0 _ _ _ _ _ _)
      | (with_reducible exact spec_cut.mono _ _)
      | (with_reducible exact LeO.refl _)
      | (with_reducible exact LeO.none _)
      | (with_reducible refine LeO.ite ?_ ?_)
      | (with_reducible refine LeO.bind ?_ (fun _ => ?_))
      | exact ih0 _ _ _ _ _ _
      | exact spec_cut.mono _ _
      | exact LeO.none _
      | refine LeO.ite ?_ ?_
      | refine LeO.bind ?_ (fun _ => ?_)
set_option maxHeartbeats 8000000 in
set_option maxRecDepth 100000 in
theorem spec_sum.calls (k : Nat) (A0 : Option Addr) (c0 : Nat) (l0 : List Int) (A1 : Option Addr) (c1 : Nat) (l1 : List Int) (r : List Int) (w : World) (hr0 : Kd.C (Kd.int .u8) w A0 l0.length l0) (hc0 : l0.length ≤ c0) (hr1 : Kd.C (Kd.int .u8) w A1 l1.length l1) (hc1 : l1.length ≤ c1) (h : spec_sum.f k l0 l1 = some r) :
    Calls Tryz.prog 41 #[.slice A0 l0.length c0, .slice A1 l1.length c1] w fun e w' => ∃ v0_ : Value, e = .returned (v0_) ∧ Kd.R (Kd.int .u8) 5 w' w.heap.size (fun _ => True) v0_ r ∧ Below w.heap.size w w' := by
  have HR0 := Aside0.mk hr0
  have HC0 := Aside0.mk hc0
  clear hr0 hc0
  have HR1 := Aside0.mk hr1
  have HC1 := Aside0.mk hc1
  clear hr1 hc1
  have HB := Aside0.mk (Below.refl w.heap.size w)
  have H : (if 0 ≤ (wrap64 ((mx (l0.length : Int) (l1.length : Int)) + 1)) then (if (wrap64 ((mx (l0.length : Int) (l1.length : Int)) + 1) : Int).toNat ≤ 281474976710656 then (spec_sum.l0 k l0 l1 (wrap64 ((mx (l0.length : Int) (l1.length : Int)) + 1)) (List.replicate (wrap64 ((mx (l0.length : Int) (l1.length : Int)) + 1) : Int).toNat 0) 0 0) else (none)) else (none)) = some r := h
  clear h
  obtain ⟨ji3, hji3⟩ : ∃ j_ : Int, (mx (l0.length : Int) (l1.length : Int)) = j_ := ⟨_, rfl⟩
  replace H : (if 0 ≤ (wrap64 ((ji3) + 1)) then (if (wrap64 ((ji3) + 1) : Int).toNat ≤ 281474976710656 then (spec_sum.l0 k l0 l1 (wrap64 ((ji3) + 1)) (List.replicate (wrap64 ((ji3) + 1) : Int).toNat 0) 0 0) else (none)) else (none)) = some r := by first | (rw [hji3] at H; exact H) | (simp only [hji3] at H ⊢; exact H)
  (try (have hji3l : 0 ≤ ji3 := by (rw [← hji3]; unfold mx; (repeat' split) <;> omega)))
  (try (have hji3m : 0 ≤ ji3 := by omega))
  have hji3_ : (if (l0.length : Int) < (l1.length : Int) then (l1.length : Int) else (l0.length : Int)) = ji3 := hji3
  have hji3n : (if l0.length < l1.length then (l1.length : Int) else (l0.length : Int)) = ji3 := by rw [← hji3_]; simp only [Int.ofNat_lt]
  obtain ⟨ji4, hji4⟩ : ∃ j_ : Int, (wrap64 ((ji3) + 1)) = j_ := ⟨_, rfl⟩
  replace H : (if 0 ≤ (ji4) then (if (ji4 : Int).toNat ≤ 281474976710656 then (spec_sum.l0 k l0 l1 ji4 (List.replicate (ji4 : Int).toNat 0) 0 0) else (none)) else (none)) = some r := by first | (rw [hji4] at H; exact H) | (simp only [hji4] at H ⊢; exact H)
  have hji4w : (IntKind.i64.wrap ((ji3) + 1)) = ji4 := (i64_w _).trans hji4
  by_cases c5 : 0 ≤ (ji4)
  · rw [if_pos c5] at H
    have c5b0 := eq_true c5
    have c5b1 : decide (0 ≤ (ji4)) = true := decide_eq_true c5
    clear c5
    by_cases c6 : (ji4 : Int).toNat ≤ 281474976710656
    · rw [if_pos c6] at H
      have c6b0 := eq_true c6
      have c6b1 : decide ((ji4 : Int).toNat ≤ 281474976710656) = true := decide_eq_true c6
      clear c6
      obtain ⟨y178, hy178⟩ : ∃ y_ : List Int, y_ = (List.replicate (ji4 : Int).toNat 0) := ⟨_, rfl⟩
      replace H : (spec_sum.l0 k l0 l1 ji4 y178 0 0) = some r := by first | (rw [hy178]; with_reducible exact H) | (have H2_ := (Option.bind_some _ _).symm.trans H; rw [hy178]; with_reducible exact H2_) | (have H2_ := (Option.bind_some _ _).symm.trans H; with_reducible exact H2_) | with_reducible exact H | (rw [hy178]; exact H) | exact H
      have Ny178 := Aside0.mk hy178
      clear hy178
      have H' := Aside0.mk H
      clear H
      go_enter Tryz.func41, Tryz.ntmps41
      go_wp2_with (first | ((with_reducible refine gate_dst (N := 17) rfl ?_); refine Kd.R_make (Kd.int .u8) _ 5 rfl (N := 17) rfl 22 _ _ rfl ji4 rfl rfl Tryz.underlying22 (.int .u8 0) 1 info5 rfl (by decide) (by omega) 0 (ok := fun _ => True) (okp := fun _ => True) rfl (fun _ hk => hk) trivial (of_decide_eq_true (by first | (with_reducible assumption) | assumption)) (Nat.le_trans (Nat.mul_le_mul_right _ (of_decide_eq_true (by first | (with_reducible assumption) | assumption) : ji4.toNat ≤ 281474976710656)) (by omega)) (Below.refl _ _) (Nat.le_refl _) ?_; intro v179 w7 ho8 hb hg_ hnew_; clear hg_ hnew_; (first | rw [← Ny178.out] at ho8 | (simp only [Int.reduceToNat] at ho8; rw [← Ny178.out] at ho8)); have n0_ := Aside0.mk (Kd.R_lower ho8 (below_size HB.out)); have n1_ := Aside0.mk (below_step HB.out hb); clear HB; have HO180 := n0_; have HB := n1_; clear n0_ n1_; clear hb ho8))
      go_loopg [7, 8] k (fun kq v7 v8 w' => ∃ (x6_1 : List Int) (x7_1 : Int) (x8_1 : Int), v7 = .int .i64 x7_1 ∧ v8 = .int .i64 x8_1 ∧ Aside0 (spec_sum.l0 kq l0 l1 ji4 x6_1 x7_1 x8_1 = some r) ∧ Aside0 (kq ≤ k) ∧ Aside0 (Kd.R (Kd.int .u8) 5 w' w.heap.size (fun _ => True) v179 x6_1) ∧ Aside0 (Below w.heap.size w w'))
      case atStart => exact ⟨(y178), (0), (0), (by first | rfl | (simp; done) | (simp [*]; done)), (by first | rfl | (simp; done) | (simp [*]; done)), H', ⟨Nat.le_refl _⟩, ⟨by (with_reducible repeat (first | apply Kd.R_alloc | apply Kd.R_drewN | apply Kd.R_drew)); exact HO180.out⟩, ⟨by repeat (first | (with_reducible first | exact HB.out | apply below_alloc | apply pw_below_drewN | apply below_drew1) | exact HB.out)⟩⟩
      case round =>
        clear H'
        try clear c1
        try clear p2
        try clear c4
        try clear c5
        try clear c5b0
        try clear c5b1
        try clear c6
        try clear c6b0
        try clear c6b1
        try clear p6
        obtain ⟨x6_1, x7_1, x8_1, rfl, rfl, HA, HK1, HO_6, HB⟩ := hrel
        cases gk with
        | zero => exact absurd HA.out (by simp [spec_sum.l0])
        | succ k1 =>
          have H := HA.out
          clear HA
          simp only [spec_sum.l0] at H
          by_cases c9 : x8_1 < ji4
          · rw [if_pos c9] at H
            have c9b0 : decide (x8_1 < ji4) = true := decide_eq_true c9
            clear c9
            replace H := Option.bind_eq_some_iff.mp H
            obtain ⟨t181, A100, H⟩ := H
            replace H : ((spec_digit.f l1 x8_1).bind fun t182 => (if 0 ≤ (wrap64 ((wrap64 (ji4 - 1)) - x8_1)) then (if (wrap64 ((wrap64 (ji4 - 1)) - x8_1)) < (x6_1.length : Int) then (spec_sum.l0 k1 l0 l1 ji4 (x6_1.set ((wrap64 ((wrap64 (ji4 - 1)) - x8_1)) : Int).toNat ((Int.tmod (wrap64 ((wrap64 (t181 + t182)) + x7_1)) 256) % 256)) (wrap64 (Int.tdiv (wrap64 ((wrap64 (t181 + t182)) + x7_1)) 256)) (wrap64 (x8_1 + 1))) else (none)) else (none))) = some r := H
            have A10 := Aside0.mk A100
            clear A100
            replace H := Option.bind_eq_some_iff.mp H
            obtain ⟨t182, A110, H⟩ := H
            replace H : (if 0 ≤ (wrap64 ((wrap64 (ji4 - 1)) - x8_1)) then (if (wrap64 ((wrap64 (ji4 - 1)) - x8_1)) < (x6_1.length : Int) then (spec_sum.l0 k1 l0 l1 ji4 (x6_1.set ((wrap64 ((wrap64 (ji4 - 1)) - x8_1)) : Int).toNat ((Int.tmod (wrap64 ((wrap64 (t181 + t182)) + x7_1)) 256) % 256)) (wrap64 (Int.tdiv (wrap64 ((wrap64 (t181 + t182)) + x7_1)) 256)) (wrap64 (x8_1 + 1))) else (none)) else (none)) = some r := H
            have A11 := Aside0.mk A110
            clear A110
            obtain ⟨ji12, hji12⟩ : ∃ j_ : Int, (wrap64 ((wrap64 (ji4 - 1)) - x8_1)) = j_ := ⟨_, rfl⟩
            replace H : (if 0 ≤ (ji12) then (if (ji12) < (x6_1.length : Int) then (spec_sum.l0 k1 l0 l1 ji4 (x6_1.set ((ji12) : Int).toNat ((Int.tmod (wrap64 ((wrap64 (t181 + t182)) + x7_1)) 256) % 256)) (wrap64 (Int.tdiv (wrap64 ((wrap64 (t181 + t182)) + x7_1)) 256)) (wrap64 (x8_1 + 1))) else (none)) else (none)) = some r := by first | (rw [hji12] at H; exact H) | (simp only [hji12] at H ⊢; exact H)
            (try rw [hji12] at A10)
            (try rw [hji12] at A11)
            have hji12w : (IntKind.i64.wrap ((wrap64 (ji4 - 1)) - x8_1)) = ji12 := (i64_w _).trans hji12
            by_cases c13 : 0 ≤ (ji12)
            · rw [if_pos c13] at H
              have c13b0 : decide (0 ≤ (ji12)) = true := decide_eq_true c13
              clear c13
              by_cases c14 : (ji12) < (x6_1.length : Int)
              · rw [if_pos c14] at H
                have c14b0 : decide ((ji12) < (x6_1.length : Int)) = true := decide_eq_true c14
                clear c14
                obtain ⟨y183, hy183⟩ : ∃ y_ : List Int, y_ = (x6_1.set ((ji12) : Int).toNat ((Int.tmod (wrap64 ((wrap64 (t181 + t182)) + x7_1)) 256) % 256)) := ⟨_, rfl⟩
                replace H : (spec_sum.l0 k1 l0 l1 ji4 y183 (wrap64 (Int.tdiv (wrap64 ((wrap64 (t181 + t182)) + x7_1)) 256)) (wrap64 (x8_1 + 1))) = some r := by first | (rw [hy183]; with_reducible exact H) | (have H2_ := (Option.bind_some _ _).symm.trans H; rw [hy183]; with_reducible exact H2_) | (have H2_ := (Option.bind_some _ _).symm.trans H; with_reducible exact H2_) | with_reducible exact H | (rw [hy183]; exact H) | exact H
                have Ny183 := Aside0.mk hy183
                clear hy183
                have H' := Aside0.mk H
                clear H
                go_wp2_with (first | ((with_reducible refine gate_callee (f := 40) rfl ?_); refine goesL_ (some 25) rfl rfl Tryz.func40 (by kernel_rfl) rfl #[.slice A0 l0.length c0, .int .i64 x8_1] rfl (by (try simp only [List.map_toArray, List.map_cons, List.map_nil]); first | done | rfl | (simp only [List.length_drop, List.length_take]; rfl)) ?_; (with_reducible refine (spec_digit.calls _ _ l0 x8_1 t181 _ ?side1 ?side2 A10.out).mono ?_); (case side1 => repeat (first | exact (Kd.C_below HR0.out HB.out) | (with_reducible refine Kd.C_alloc ?_ _) | (with_reducible refine Kd.C_drewN ?_ _) | (with_reducible refine Kd.C_drew ?_))); (case side2 => exact HC0.out); rintro e w' ⟨rfl, ⟨nd, rfl⟩⟩; refine ⟨_, rfl, ?_⟩; (try (rw [drewN_self wr]; generalize hq_ : World.drewN wr _ = wr; have n0_ : Aside0 (Kd.R (Kd.int .u8) 5 wr w.heap.size (fun _ => True) v179 x6_1) := ⟨by rw [← hq_]; exact (by (with_reducible repeat (first | apply Kd.R_alloc | apply Kd.R_drewN | apply Kd.R_drew)); exact HO_6.out)⟩; have n1_ : Aside0 (Below w.heap.size w wr) := ⟨by rw [← hq_]; exact (by repeat (first | (with_reducible first | exact HB.out | apply below_alloc | apply pw_below_drewN | apply below_drew1) | exact HB.out))⟩; clear HO_6 HB hq_; have HO_6 := n0_; have HB := n1_; clear n0_ n1_))) | ((with_reducible refine gate_callee (f := 40) rfl ?_); refine goesL_ (some 28) rfl rfl Tryz.func40 (by kernel_rfl) rfl #[.slice A1 l1.length c1, .int .i64 x8_1] rfl (by (try simp only [List.map_toArray, List.map_cons, List.map_nil]); first | done | rfl | (simp only [List.length_drop, List.length_take]; rfl)) ?_; (with_reducible refine (spec_digit.calls _ _ l1 x8_1 t182 _ ?side1 ?side2 A11.out).mono ?_); (case side1 => repeat (first | exact (Kd.C_below HR1.out HB.out) | (with_reducible refine Kd.C_alloc ?_ _) | (with_reducible refine Kd.C_drewN ?_ _) | (with_reducible refine Kd.C_drew ?_))); (case side2 => exact HC1.out); rintro e w' ⟨rfl, ⟨nd, rfl⟩⟩; refine ⟨_, rfl, ?_⟩; (try (rw [drewN_self wr]; generalize hq_ : World.drewN wr _ = wr; have n0_ : Aside0 (Kd.R (Kd.int .u8) 5 wr w.heap.size (fun _ => True) v179 x6_1) := ⟨by rw [← hq_]; exact (by (with_reducible repeat (first | apply Kd.R_alloc | apply Kd.R_drewN | apply Kd.R_drew)); exact HO_6.out)⟩; have n1_ : Aside0 (Below w.heap.size w wr) := ⟨by rw [← hq_]; exact (by repeat (first | (with_reducible first | exact HB.out | apply below_alloc | apply pw_below_drewN | apply below_drew1) | exact HB.out))⟩; clear HO_6 HB hq_; have HO_6 := n0_; have HB := n1_; clear n0_ n1_)); have p15 : 0 ≤ ((ji12) : Int) := of_decide_eq_true (by first | (with_reducible assumption) | assumption); have q15 : ((ji12) : Int) < ((x6_1.length : Int) : Int) := of_decide_eq_true (by first | (with_reducible assumption) | assumption); obtain ⟨go15, co15, eo15, gb15, gl15, cl15, HG15⟩ := Kd.R_form HO_6.out (by omega); (first | cases eo15 | (injection eo15 with ea_ en_ ec_; (first | subst ea_ | (injection ea_ with ea_; subst ea_)); subst ec_; clear en_)); have GB15 := Aside0.mk gb15; have GG15 := Aside0.mk HG15; clear gb15 gl15 HG15; obtain ⟨hx15_0, hf15_0⟩ := Kd.R_celln 0 HO_6.out ((ji12) : Int) p15 q15; replace p15 := eq_true p15; replace q15 := eq_true q15; obtain ⟨hy16_, hz16_⟩ := Kd.R_celln 0 HO_6.out ((ji12) : Int) (of_decide_eq_true (by first | (with_reducible assumption) | assumption)) (of_decide_eq_true (by first | (with_reducible assumption) | assumption)); have HP16 := Kd.R_putg HO_6.out ((ji12) : Int) ((Int.tmod (wrap64 ((wrap64 (t181 + t182)) + x7_1)) 256) % 256)) | ((with_reducible refine gate_store (t := 5) (p := 40) rfl ?_); refine store_event (t := 5) (p := 40) (v := ?vo_w17) (w1 := (wr.setCell ⟨go15, ((ji12) : Int).toNat, none⟩ (.int .u8 ((Int.tmod (wrap64 ((wrap64 (t181 + t182)) + x7_1)) 256) % 256)))) ?hg ?ho ?hn ?hr ?_; (case ho => rfl); (case hg => rfl); (case hn => rfl); (case hr => first | (go_simp; done) | (go_simp; rfl)); intro w17 hw; have hg : wr.grownBy w17 (some go15) := (by rw [hw]; exact HP16.2); have hp_ : Kd.R (Kd.int .u8) 5 w17 w.heap.size (fun _ => True) (.slice (some ⟨go15, 0, none⟩) x6_1.length co15) y183 := (by rw [hw, Ny183.out]; exact HP16.1); clear HP16; have n0_ := Aside0.mk (hp_); have n1_ := Aside0.mk ((by rw [hw]; exact below_set (HB.out) GB15.out : Below w.heap.size w w17)); clear HO_6; clear HB; have HO_6 := n0_; have HB := n1_; clear n0_ n1_; clear hg hw hp_))
                go_roundg k1
                case measure => have := HK1.out; omega
                case rel => exact ⟨(y183), (wrap64 (Int.tdiv (wrap64 ((wrap64 (t181 + t182)) + x7_1)) 256)), (wrap64 (x8_1 + 1)), (by first | rfl | (simp; done) | (simp [*]; done)), (by first | rfl | (simp; done) | (simp [*]; done)), H', ⟨by have := HK1.out; omega⟩, ⟨by (with_reducible repeat (first | apply Kd.R_alloc | apply Kd.R_drewN | apply Kd.R_drew)); exact HO_6.out⟩, ⟨by repeat (first | (with_reducible first | exact HB.out | apply below_alloc | apply pw_below_drewN | apply below_drew1) | exact HB.out)⟩⟩
              · rw [if_neg c14] at H
                exact absurd H (by simp)
            · rw [if_neg c13] at H
              exact absurd H (by simp)
          · rw [if_neg c9] at H
            have c9b0 : decide (x8_1 < ji4) = false := decide_eq_false c9
            clear c9
            replace H := Option.bind_eq_some_iff.mp H
            obtain ⟨t184, A180, H⟩ := H
            replace H : (some t184) = some r := H
            have A18 := Aside0.mk A180
            clear A180
            obtain rfl := Option.some.inj H
            obtain ⟨Ao19, co19, eo19⟩ := Kd.R_slice HO_6.out
            subst eo19
            go_wp2_with (first | ((with_reducible refine gate_callee (f := 33) rfl ?_); refine goesL_ (some 44) rfl rfl Tryz.func33 (by kernel_rfl) rfl #[.slice Ao19 x6_1.length co19] rfl (by (try simp only [List.map_toArray, List.map_cons, List.map_nil]); first | done | rfl | (simp only [List.length_drop, List.length_take]; rfl)) ?_; (with_reducible refine (spec_cut.calls k1 _ _ x6_1 t184 _ ?side1 ?side2 A18.out).mono ?_); (case side1 => repeat (first | exact (Kd.R_reads' HO_6.out).2.2 | (with_reducible refine Kd.C_alloc ?_ _) | (with_reducible refine Kd.C_drewN ?_ _) | (with_reducible refine Kd.C_drew ?_))); (case side2 => exact (Kd.R_reads' HO_6.out).2.1); rintro e w20 ⟨v185, rfl, ho0, hb⟩; refine ⟨_, rfl, ?_⟩; have n0_ := Aside0.mk (Kd.R_elder' HO_6.out (Kd.R_base ho0) hb); have n1_ := Aside0.mk (Kd.R_lower (Kd.R_new' ho0 (Kd.R_lt HO_6.out)) (below_size HB.out)); have n2_ := Aside0.mk (below_step HB.out hb); clear HO_6; clear HB; have HO_6 := n0_; have HO186 := n1_; have HB := n2_; clear n0_ n1_ n2_; (try clear hb); (try clear hb2); (try clear hk); (try clear hi); (try clear ho0)))
            go_ret
            exact ⟨_, by first | rfl | (simp [errW_none, errW_some] <;> rfl) | (simp only [← hji3, ← hji4]; first | rfl | (simp [errW_none, errW_some] <;> rfl)) | (simp [*, errW_none, errW_some] <;> rfl), by (with_reducible repeat (first | apply Kd.R_alloc | apply Kd.R_drewN | apply Kd.R_drew)); exact Kd.R_mono HO186.out (fun _ hk => trivial), by repeat (first | (with_reducible first | exact HB.out | apply below_alloc | apply pw_below_drewN | apply below_drew1) | exact HB.out)⟩
    · rw [if_neg c6] at H
      exact absurd H (by simp)
  · rw [if_neg c5] at H
    exact absurd H (by simp)


end Go.Proofs.YtodipcgilgigbaaGreatDoor.I
