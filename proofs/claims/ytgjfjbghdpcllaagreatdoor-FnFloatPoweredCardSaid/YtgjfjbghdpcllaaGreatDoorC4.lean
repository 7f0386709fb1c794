/- Contracts of this claim's functions: each call gives what the plain mirror (in the text D) gives; the proofs are the kit's print, over D's definitions. -/
import Derived.Test.YtgjfjbghdpcllaaGreatDoorC3
namespace Go.Proofs.YtgjfjbghdpcllaaGreatDoor.I
open Go.RowKit Go.Proofs.YtgjfjbghdpcllaaGreatDoorW.PrintWords Go.Proofs.YtgjfjbghdpcllaaGreatDoorW.PrintLast Go.Proofs.YtgjfjbghdpcllaaGreatDoorW.PrintMore
attribute [local go_sem] max2_int min2_int max_two min_two max_three min_three max_four min_four
set_option linter.unusedVariables false
set_option linter.unusedSimpArgs false

/-! ### spec_Int_Lsh: function 25 -/
theorem spec_Int_Lsh.mono : ∀ a0 a1 a2 k, LeO (spec_Int_Lsh.f k a0 a1 a2) (spec_Int_Lsh.f (k + 1) a0 a1 a2) := by
  intro a0 a1 a2 k
  unfold spec_Int_Lsh.f
  repeat' first
      | (with_reducible exact spec_Int_Mul.mono _ _ _ _ _)
      | (with_reducible exact spec_Power.mono _ _)
      | (with_reducible exact LeO.refl _)
      | (with_reducible exact LeO.none _)
      | (with_reducible refine LeO.ite ?_ ?_)
      | (with_reducible refine LeO.bind ?_ (fun _ => ?_))
      | exact spec_Int_Mul.mono _ _ _ _ _
      | exact spec_Power.mono _ _
      | exact LeO.none _
      | refine LeO.ite ?_ ?_
      | refine LeO.bind ?_ (fun _ => ?_)
set_option maxHeartbeats 8000000 in
set_option maxRecDepth 100000 in
theorem spec_Int_Lsh.calls (k : Nat) (a0_0 : Bool) (A0_1 : Option Addr) (c0_1 : Nat) (l0_1 : List Int) (a1 : Int) (r1 : Bool) (r2 : List Int) (w : World) (hr0_1 : Kd.C (Kd.int .u8) w A0_1 l0_1.length l0_1) (hc0_1 : l0_1.length ≤ c0_1) (h : spec_Int_Lsh.f k a0_0 l0_1 a1 = some (r1, r2)) :
    Calls Tryz.prog 25 #[.agg #[.bool a0_0, .slice A0_1 l0_1.length c0_1], .int .i64 a1] w fun e w' => ∃ v1_ : Value, e = .returned (.agg #[.bool r1, v1_]) ∧ Kd.R (Kd.int .u8) 5 w' w.heap.size (fun _ => True) v1_ r2 ∧ Below w.heap.size w w' := by
  have hu37 := Tryz.underlying37
  have HR0_1 := Aside0.mk hr0_1
  have HC0_1 := Aside0.mk hc0_1
  clear hr0_1 hc0_1
  have HB := Aside0.mk (Below.refl w.heap.size w)
  have H : ((spec_Int_Zero.f a0_0 l0_1).bind fun t351 => (if t351 = true then (some (false, ([] : List Int))) else ((spec_Power.f k a1).bind fun bt352 => ((spec_Int_Mul.f k a0_0 l0_1 bt352.1 bt352.2).bind fun bt356 => (some (bt356.1, bt356.2)))))) = some (r1, r2) := h
  clear h
  replace H := Option.bind_eq_some_iff.mp H
  obtain ⟨t351, A30, H⟩ := H
  replace H : (if t351 = true then (some (false, ([] : List Int))) else ((spec_Power.f k a1).bind fun bt352 => ((spec_Int_Mul.f k a0_0 l0_1 bt352.1 bt352.2).bind fun bt356 => (some (bt356.1, bt356.2))))) = some (r1, r2) := H
  have A3 := Aside0.mk A30
  clear A30
  by_cases c4 : t351 = true
  · subst c4
    have H1 : (some (false, ([] : List Int))) = some (r1, r2) := by rw [if_pos rfl] at H; exact H
    clear H
    have H := H1
    clear H1
    simp only [Option.some.injEq, Prod.mk.injEq] at H
    obtain ⟨rfl, rfl⟩ := H
    go_enter Tryz.func25, Tryz.ntmps25
    go_wp2_with (first | ((with_reducible refine gate_dst (N := 2) rfl ?_); refine box_event ?hg (N := 2) ?hd (cs := #[.bool a0_0, .slice A0_1 l0_1.length c0_1]) (t := 37) ?hr ?_; (case hd => rfl); (case hg => rfl); (case hr => first | (go_simp; done) | (go_simp; rfl)); intro gb349 hg w5 hbox hb; have n0_ := Aside0.mk (below_step (by repeat (first | (with_reducible first | exact HB.out | apply below_alloc | apply pw_below_drewN | apply below_drew1) | exact HB.out)) hb); have n1_ := Aside0.mk (hbox); have n2_ := Aside0.mk ((by rw [hg]; exact (below_size (by repeat (first | (with_reducible first | exact HB.out | apply below_alloc | apply pw_below_drewN | apply below_drew1) | exact HB.out))) : w.heap.size ≤ gb349)); have n3_ := Aside0.mk ((by rw [hg]; exact (below_size (by repeat (first | (with_reducible first | exact HB.out | apply below_alloc | apply pw_below_drewN | apply below_drew1) | exact HB.out))) : w.heap.size ≤ gb349)); clear HB; have HB := n0_; have BK349 := n1_; have GW349 := n2_; have GE349 := n3_; clear n0_ n1_ n2_ n3_; clear hb hbox hg) | ((with_reducible refine gate_dst (N := 4) rfl ?_); refine box_event ?hg (N := 4) ?hd (cs := #[.bool false, .slice none 0 0]) (t := 37) ?hr ?_; (case hd => rfl); (case hg => rfl); (case hr => first | (go_simp; done) | (go_simp; rfl)); intro gb350 hg w6 hbox hb; have n0_ := Aside0.mk (blk_below (g := gb349) (o := .cells #[.bool a0_0, .slice A0_1 l0_1.length c0_1] 37 (0, 0)) (by (with_reducible repeat (first | refine blk_drewN ?_ _ | refine blk_drew ?_ | refine blk_alloc ?_ _)); exact BK349.out) hb); have n1_ := Aside0.mk (below_step (by repeat (first | (with_reducible first | exact HB.out | apply below_alloc | apply pw_below_drewN | apply below_drew1 | refine below_set ?_ GE349.out) | exact HB.out)) hb); have n2_ := Aside0.mk (hbox); have n3_ := Aside0.mk ((by rw [hg]; exact (below_size (by repeat (first | (with_reducible first | exact HB.out | apply below_alloc | apply pw_below_drewN | apply below_drew1 | refine below_set ?_ GE349.out) | exact HB.out))) : w.heap.size ≤ gb350)); have n4_ := Aside0.mk ((by rw [hg]; exact (below_size (by repeat (first | (with_reducible first | exact HB.out | apply below_alloc | apply pw_below_drewN | apply below_drew1 | refine below_set ?_ GE349.out) | exact HB.out))) : w.heap.size ≤ gb350)); have n5_ := Aside0.mk ((by rw [hg]; exact Nat.ne_of_lt (blk_lt (g := gb349) (o := .cells #[.bool a0_0, .slice A0_1 l0_1.length c0_1] 37 (0, 0)) (by (with_reducible repeat (first | refine blk_drewN ?_ _ | refine blk_drew ?_ | refine blk_alloc ?_ _)); exact BK349.out)) : gb349 ≠ gb350)); have n6_ := Aside0.mk ((by rw [hg]; exact Nat.ne_of_gt (blk_lt (g := gb349) (o := .cells #[.bool a0_0, .slice A0_1 l0_1.length c0_1] 37 (0, 0)) (by (with_reducible repeat (first | refine blk_drewN ?_ _ | refine blk_drew ?_ | refine blk_alloc ?_ _)); exact BK349.out)) : gb350 ≠ gb349)); clear BK349; clear HB; have BK349 := n0_; have HB := n1_; have BK350 := n2_; have GW350 := n3_; have GE350 := n4_; have NB349_350 := n5_; have NB350_349 := n6_; clear n0_ n1_ n2_ n3_ n4_ n5_ n6_; clear hb hbox hg; have hnb7 := NB349_350.out; have hnc7 := NB350_349.out; have hcz8_0 : w6.cell? ⟨gb349, 0, none⟩ = some (.bool a0_0) := (blk_cell BK349.out 0).trans rfl; have hcz8_1 : w6.cell? ⟨gb349, 1, none⟩ = some (.slice A0_1 l0_1.length c0_1) := (blk_cell BK349.out 1).trans rfl; have hfz8_0 := blk_frozen BK349.out 0; have hfz8_1 := blk_frozen BK349.out 1) | ((with_reducible refine gate_callee (f := 37) rfl ?_); refine goesL_ (some 6) rfl rfl Tryz.func37 (by kernel_rfl) rfl #[.agg #[.bool a0_0, .slice A0_1 l0_1.length c0_1]] rfl (by (try simp only [List.map_toArray, List.map_cons, List.map_nil]); first | done | rfl | (simp only [List.length_drop, List.length_take]; rfl)) ?_; (with_reducible refine (spec_Int_Zero.calls a0_0 _ _ l0_1 true _ ?side1 ?side2 A3.out).mono ?_); (case side1 => repeat (first | exact (Kd.C_below HR0_1.out HB.out) | (with_reducible refine Kd.C_alloc ?_ _) | (with_reducible refine Kd.C_drewN ?_ _) | (with_reducible refine Kd.C_drew ?_))); (case side2 => exact HC0_1.out); rintro e w9 ⟨rfl, hb⟩; refine ⟨_, rfl, ?_⟩; have n0_ := Aside0.mk (blk_below (g := gb349) (o := .cells #[.bool a0_0, .slice A0_1 l0_1.length c0_1] 37 (0, 0)) (by (with_reducible repeat (first | refine blk_drewN ?_ _ | refine blk_drew ?_ | refine blk_alloc ?_ _)); exact BK349.out) hb); have n1_ := Aside0.mk (blk_below (g := gb350) (o := .cells #[.bool false, .slice none 0 0] 37 (0, 0)) (by (with_reducible repeat (first | refine blk_drewN ?_ _ | refine blk_drew ?_ | refine blk_alloc ?_ _)); exact BK350.out) hb); have n2_ := Aside0.mk (below_step (by repeat (first | (with_reducible first | exact HB.out | apply below_alloc | apply pw_below_drewN | apply below_drew1 | refine below_set ?_ GE349.out | refine below_set ?_ GE350.out) | exact HB.out)) hb); clear BK349; clear BK350; clear HB; have BK349 := n0_; have BK350 := n1_; have HB := n2_; clear n0_ n1_ n2_; (try clear hb); (try clear hb2); (try clear hk); (try clear hi); have hcz10_0 : w9.cell? ⟨gb350, 0, none⟩ = some (.bool false) := (blk_cell BK350.out 0).trans rfl; have hcz10_1 : w9.cell? ⟨gb350, 1, none⟩ = some (.slice none 0 0) := (blk_cell BK350.out 1).trans rfl; have hfz10_0 := blk_frozen BK350.out 0; have hfz10_1 := blk_frozen BK350.out 1))
    refine bodyPost_ret (results_cell_row rfl _ _ gb350 37 #[.bool false, .slice none 0 0] (0, 0) _ rfl (by (with_reducible repeat (first | refine blk_drewN ?_ _ | refine blk_drew ?_ | refine blk_alloc ?_ _)); refine blk_put (cs := #[.bool false, .slice none 0 0]) ?_ 1 _ rfl; (with_reducible repeat (first | refine blk_drewN ?_ _ | refine blk_drew ?_ | refine blk_alloc ?_ _)); refine blk_put (cs := #[.bool false, .slice none 0 0]) ?_ 0 _ rfl; (with_reducible repeat (first | refine blk_drewN ?_ _ | refine blk_drew ?_ | refine blk_alloc ?_ _)); exact BK350.out) Tryz.underlying37 rfl (by kernel_rfl)) rfl ?_
    exact ⟨_, by first | rfl | (simp [errW_none, errW_some] <;> rfl) | (simp [*, errW_none, errW_some] <;> rfl), by first | exact Kd.R_nil _ _ _ _ _ | exact Kd.N_nil _ _ _ _ _ | exact Kd.V_nil _ _ _ _ _ | exact Kd.Q_nil _ _ _ _ _ | exact Kd.S_nil _ _ _ _ _, by repeat (first | (with_reducible first | exact HB.out | apply below_alloc | apply pw_below_drewN | apply below_drew1 | refine below_set ?_ GE349.out | refine below_set ?_ GE350.out) | exact HB.out)⟩
  · replace c4 := Bool.eq_false_iff.mpr c4
    subst c4
    have H1 : ((spec_Power.f k a1).bind fun bt352 => ((spec_Int_Mul.f k a0_0 l0_1 bt352.1 bt352.2).bind fun bt356 => (some (bt356.1, bt356.2)))) = some (r1, r2) := by rw [if_neg (show ¬ (false = true) by decide)] at H; exact H
    clear H
    have H := H1
    clear H1
    replace H := Option.bind_eq_some_iff.mp H
    obtain ⟨⟨t352, t353⟩, A110, H⟩ := H
    replace H : ((spec_Int_Mul.f k a0_0 l0_1 t352 t353).bind fun bt356 => (some (bt356.1, bt356.2))) = some (r1, r2) := H
    have A11 := Aside0.mk A110
    clear A110
    replace H := Option.bind_eq_some_iff.mp H
    obtain ⟨⟨t356, t357⟩, A120, H⟩ := H
    replace H : (some (t356, t357)) = some (r1, r2) := H
    have A12 := Aside0.mk A120
    clear A120
    simp only [Option.some.injEq, Prod.mk.injEq] at H
    obtain ⟨rfl, rfl⟩ := H
    go_enter Tryz.func25, Tryz.ntmps25
    try go_wp2_with (first | ((with_reducible refine gate_dst (N := 2) rfl ?_); refine box_event ?hg (N := 2) ?hd (cs := #[.bool a0_0, .slice A0_1 l0_1.length c0_1]) (t := 37) ?hr ?_; (case hd => rfl); (case hg => rfl); (case hr => first | (go_simp; done) | (go_simp; rfl)); intro gb349 hg w13 hbox hb; have n0_ := Aside0.mk (below_step (by repeat (first | (with_reducible first | exact HB.out | apply below_alloc | apply pw_below_drewN | apply below_drew1) | exact HB.out)) hb); have n1_ := Aside0.mk (hbox); have n2_ := Aside0.mk ((by rw [hg]; exact (below_size (by repeat (first | (with_reducible first | exact HB.out | apply below_alloc | apply pw_below_drewN | apply below_drew1) | exact HB.out))) : w.heap.size ≤ gb349)); have n3_ := Aside0.mk ((by rw [hg]; exact (below_size (by repeat (first | (with_reducible first | exact HB.out | apply below_alloc | apply pw_below_drewN | apply below_drew1) | exact HB.out))) : w.heap.size ≤ gb349)); clear HB; have HB := n0_; have BK349 := n1_; have GW349 := n2_; have GE349 := n3_; clear n0_ n1_ n2_ n3_; clear hb hbox hg) | ((with_reducible refine gate_dst (N := 4) rfl ?_); refine box_event ?hg (N := 4) ?hd (cs := #[.bool false, .slice none 0 0]) (t := 37) ?hr ?_; (case hd => rfl); (case hg => rfl); (case hr => first | (go_simp; done) | (go_simp; rfl)); intro gb350 hg w14 hbox hb; have n0_ := Aside0.mk (blk_below (g := gb349) (o := .cells #[.bool a0_0, .slice A0_1 l0_1.length c0_1] 37 (0, 0)) (by (with_reducible repeat (first | refine blk_drewN ?_ _ | refine blk_drew ?_ | refine blk_alloc ?_ _)); exact BK349.out) hb); have n1_ := Aside0.mk (below_step (by repeat (first | (with_reducible first | exact HB.out | apply below_alloc | apply pw_below_drewN | apply below_drew1 | refine below_set ?_ GE349.out) | exact HB.out)) hb); have n2_ := Aside0.mk (hbox); have n3_ := Aside0.mk ((by rw [hg]; exact (below_size (by repeat (first | (with_reducible first | exact HB.out | apply below_alloc | apply pw_below_drewN | apply below_drew1 | refine below_set ?_ GE349.out) | exact HB.out))) : w.heap.size ≤ gb350)); have n4_ := Aside0.mk ((by rw [hg]; exact (below_size (by repeat (first | (with_reducible first | exact HB.out | apply below_alloc | apply pw_below_drewN | apply below_drew1 | refine below_set ?_ GE349.out) | exact HB.out))) : w.heap.size ≤ gb350)); have n5_ := Aside0.mk ((by rw [hg]; exact Nat.ne_of_lt (blk_lt (g := gb349) (o := .cells #[.bool a0_0, .slice A0_1 l0_1.length c0_1] 37 (0, 0)) (by (with_reducible repeat (first | refine blk_drewN ?_ _ | refine blk_drew ?_ | refine blk_alloc ?_ _)); exact BK349.out)) : gb349 ≠ gb350)); have n6_ := Aside0.mk ((by rw [hg]; exact Nat.ne_of_gt (blk_lt (g := gb349) (o := .cells #[.bool a0_0, .slice A0_1 l0_1.length c0_1] 37 (0, 0)) (by (with_reducible repeat (first | refine blk_drewN ?_ _ | refine blk_drew ?_ | refine blk_alloc ?_ _)); exact BK349.out)) : gb350 ≠ gb349)); clear BK349; clear HB; have BK349 := n0_; have HB := n1_; have BK350 := n2_; have GW350 := n3_; have GE350 := n4_; have NB349_350 := n5_; have NB350_349 := n6_; clear n0_ n1_ n2_ n3_ n4_ n5_ n6_; clear hb hbox hg; have hnb15 := NB349_350.out; have hnc15 := NB350_349.out; have hcz16_0 : w14.cell? ⟨gb349, 0, none⟩ = some (.bool a0_0) := (blk_cell BK349.out 0).trans rfl; have hcz16_1 : w14.cell? ⟨gb349, 1, none⟩ = some (.slice A0_1 l0_1.length c0_1) := (blk_cell BK349.out 1).trans rfl; have hfz16_0 := blk_frozen BK349.out 0; have hfz16_1 := blk_frozen BK349.out 1) | ((with_reducible refine gate_callee (f := 37) rfl ?_); refine goesL_ (some 6) rfl rfl Tryz.func37 (by kernel_rfl) rfl #[.agg #[.bool a0_0, .slice A0_1 l0_1.length c0_1]] rfl (by (try simp only [List.map_toArray, List.map_cons, List.map_nil]); first | done | rfl | (simp only [List.length_drop, List.length_take]; rfl)) ?_; (with_reducible refine (spec_Int_Zero.calls a0_0 _ _ l0_1 false _ ?side1 ?side2 A3.out).mono ?_); (case side1 => repeat (first | exact (Kd.C_below HR0_1.out HB.out) | (with_reducible refine Kd.C_alloc ?_ _) | (with_reducible refine Kd.C_drewN ?_ _) | (with_reducible refine Kd.C_drew ?_))); (case side2 => exact HC0_1.out); rintro e w17 ⟨rfl, hb⟩; refine ⟨_, rfl, ?_⟩; have n0_ := Aside0.mk (blk_below (g := gb349) (o := .cells #[.bool a0_0, .slice A0_1 l0_1.length c0_1] 37 (0, 0)) (by (with_reducible repeat (first | refine blk_drewN ?_ _ | refine blk_drew ?_ | refine blk_alloc ?_ _)); exact BK349.out) hb); have n1_ := Aside0.mk (blk_below (g := gb350) (o := .cells #[.bool false, .slice none 0 0] 37 (0, 0)) (by (with_reducible repeat (first | refine blk_drewN ?_ _ | refine blk_drew ?_ | refine blk_alloc ?_ _)); exact BK350.out) hb); have n2_ := Aside0.mk (below_step (by repeat (first | (with_reducible first | exact HB.out | apply below_alloc | apply pw_below_drewN | apply below_drew1 | refine below_set ?_ GE349.out | refine below_set ?_ GE350.out) | exact HB.out)) hb); clear BK349; clear BK350; clear HB; have BK349 := n0_; have BK350 := n1_; have HB := n2_; clear n0_ n1_ n2_; (try clear hb); (try clear hb2); (try clear hk); (try clear hi)))
    have n0_ := Aside0.mk (blk_drew BK349.out)
    have n1_ := Aside0.mk (blk_drew BK350.out)
    have n2_ := Aside0.mk (below_drew1 HB.out)
    clear BK349
    clear BK350
    clear HB
    have BK349 := n0_
    have BK350 := n1_
    have HB := n2_
    clear n0_ n1_ n2_
    refine start_ (n := 5) (S := fun w' => w'.cell? ⟨gb349, 0, none⟩ = some (.bool a0_0) ∧ w'.cell? ⟨gb349, 1, none⟩ = some (.slice A0_1 l0_1.length c0_1)) (ds := []) #[false, false, false, false, false] (by kernel_rfl) rfl rfl ⟨(blk_cell BK349.out 0).trans rfl, (blk_cell BK349.out 1).trans rfl⟩ (fun hHeld => ?_)
    generalize w17.drew = w18 at BK349 BK350 HB hHeld ⊢
    refine pure_ (i := 1) (N := some 9) (v := ?_) (a' := ?_) #[false, true, false, false, false] rfl rfl (by kernel_rfl) (fun _ _ _ h => h) (Or.inl ⟨by rfl, ?_⟩) ?_ ?_
    rotate_left
    · intro w'
      go_simp
      with_reducible rfl
    rotate_left
    · simp only [Act.put, List.setIfInBounds_toArray, List.set_cons_zero, List.set_cons_succ, i64_w, i32_w]
      rfl
    refine take_ (i := 0) (N := some 8) (v := ?_) (a' := ?_) #[true, true, false, false, false] rfl rfl (by kernel_rfl) (fun _ _ _ h => h) (Or.inl ⟨by rfl, ?_⟩) hHeld ?_ ?_
    rotate_left
    · rintro w' ⟨s0, s1⟩
      go_simp
      with_reducible rfl
    rotate_left
    · simp only [Act.put, List.setIfInBounds_toArray, List.set_cons_zero, List.set_cons_succ, i64_w, i32_w]
      rfl
    refine one_ (i := 2) (N := some 10) #[true, true, true, false, false] rfl rfl (by kernel_rfl) (by decide) (fun K hK => ?_)
    refine goes_ Tryz.func38 (by kernel_rfl) rfl #[.int .i64 a1] (by rfl) rfl rfl (by (try simp only [List.map_toArray, List.map_cons, List.map_nil]); first | done | rfl | (simp only [List.length_drop, List.length_take]; rfl)) ?_
    with_reducible refine (spec_Power.calls k a1 t352 t353 _ A11.out).mono ?_
    rintro e w19 ⟨v354, rfl, ho0, hb⟩
    refine ⟨_, rfl, ?_⟩
    have n0_ := Aside0.mk (Kd.R_lower ho0 (below_size (by repeat (first | (with_reducible first | exact HB.out | apply below_alloc | apply pw_below_drewN | apply below_drew1 | refine below_set ?_ GE349.out | refine below_set ?_ GE350.out) | exact HB.out))))
    have n1_ := Aside0.mk (blk_below (g := gb349) (o := .cells #[.bool a0_0, .slice A0_1 l0_1.length c0_1] 37 (0, 0)) (by (with_reducible repeat (first | refine blk_drewN ?_ _ | refine blk_drew ?_ | refine blk_alloc ?_ _)); exact BK349.out) hb)
    have n2_ := Aside0.mk (blk_below (g := gb350) (o := .cells #[.bool false, .slice none 0 0] 37 (0, 0)) (by (with_reducible repeat (first | refine blk_drewN ?_ _ | refine blk_drew ?_ | refine blk_alloc ?_ _)); exact BK350.out) hb)
    have n3_ := Aside0.mk (below_step (by repeat (first | (with_reducible first | exact HB.out | apply below_alloc | apply pw_below_drewN | apply below_drew1 | refine below_set ?_ GE349.out | refine below_set ?_ GE350.out) | exact HB.out)) hb)
    clear BK349
    clear BK350
    clear HB
    have HO355 := n0_
    have BK349 := n1_
    have BK350 := n2_
    have HB := n3_
    clear n0_ n1_ n2_ n3_
    (try clear hb)
    (try clear hb2)
    (try clear hk)
    (try clear hi)
    (try clear ho0)
    obtain ⟨Ao20, co20, eo20⟩ := Kd.R_slice HO355.out
    (first | subst eo20 | (injection eo20 with f1_ f2_ f3_; have f4_ := f1_.symm; have f5_ := f3_.symm; clear f1_ f2_ f3_; subst f4_; subst f5_))
    refine hK.out _ _ ⟨(blk_cell BK349.out 0).trans rfl, (blk_cell BK349.out 1).trans rfl⟩ (fun hHeld => ?_)
    clear hK K
    refine norm_ (a' := ?_) ?_ ?_
    rotate_left
    · show Act.put _ (some 10) _ = _
      simp only [Act.put, List.setIfInBounds_toArray, List.set_cons_zero, List.set_cons_succ, i64_w, i32_w]
      rfl
    refine one_ (i := 3) (N := some 11) #[true, true, true, true, false] rfl rfl (by kernel_rfl) (by decide) (fun K hK => ?_)
    refine goes_ Tryz.func26 (by kernel_rfl) rfl #[.agg #[.bool a0_0, .slice A0_1 l0_1.length c0_1], .agg #[.bool t352, .slice Ao20 t353.length co20]] (by rfl) rfl rfl (by (try simp only [List.map_toArray, List.map_cons, List.map_nil]); first | done | rfl | (simp only [List.length_drop, List.length_take]; rfl)) ?_
    with_reducible refine (spec_Int_Mul.calls k a0_0 _ _ l0_1 t352 _ _ t353 t356 t357 _ ?side1 ?side2 ?side3 ?side4 A12.out).mono ?_
    (case side1 => repeat (first | exact (Kd.C_below HR0_1.out HB.out) | (with_reducible refine Kd.C_alloc ?_ _) | (with_reducible refine Kd.C_drewN ?_ _) | (with_reducible refine Kd.C_drew ?_)))
    (case side2 => exact HC0_1.out)
    (case side3 => repeat (first | exact (Kd.R_reads' HO355.out).2.2 | (with_reducible refine Kd.C_alloc ?_ _) | (with_reducible refine Kd.C_drewN ?_ _) | (with_reducible refine Kd.C_drew ?_)))
    (case side4 => exact (Kd.R_reads' HO355.out).2.1)
    rintro e w21 ⟨v358, rfl, ho0, hb⟩
    refine ⟨_, rfl, ?_⟩
    have n0_ := Aside0.mk (Kd.R_elder' (by (with_reducible repeat (first | apply Kd.R_alloc | apply Kd.R_drewN | apply Kd.R_drew)); exact HO355.out) (Kd.R_base ho0) hb)
    have n1_ := Aside0.mk (Kd.R_lower (Kd.R_new' ho0 (Kd.R_lt (by (with_reducible repeat (first | apply Kd.R_alloc | apply Kd.R_drewN | apply Kd.R_drew)); exact HO355.out))) (below_size (by repeat (first | (with_reducible first | exact HB.out | apply below_alloc | apply pw_below_drewN | apply below_drew1 | refine below_set ?_ GE349.out | refine below_set ?_ GE350.out) | exact HB.out))))
    have n2_ := Aside0.mk (blk_below (g := gb349) (o := .cells #[.bool a0_0, .slice A0_1 l0_1.length c0_1] 37 (0, 0)) (by (with_reducible repeat (first | refine blk_drewN ?_ _ | refine blk_drew ?_ | refine blk_alloc ?_ _)); exact BK349.out) hb)
    have n3_ := Aside0.mk (blk_below (g := gb350) (o := .cells #[.bool false, .slice none 0 0] 37 (0, 0)) (by (with_reducible repeat (first | refine blk_drewN ?_ _ | refine blk_drew ?_ | refine blk_alloc ?_ _)); exact BK350.out) hb)
    have n4_ := Aside0.mk (below_step (by repeat (first | (with_reducible first | exact HB.out | apply below_alloc | apply pw_below_drewN | apply below_drew1 | refine below_set ?_ GE349.out | refine below_set ?_ GE350.out) | exact HB.out)) hb)
    clear HO355
    clear BK349
    clear BK350
    clear HB
    have HO355 := n0_
    have HO359 := n1_
    have BK349 := n2_
    have BK350 := n3_
    have HB := n4_
    clear n0_ n1_ n2_ n3_ n4_
    (try clear hb)
    (try clear hb2)
    (try clear hk)
    (try clear hi)
    (try clear ho0)
    obtain ⟨Ao23, co23, eo23⟩ := Kd.R_slice HO359.out
    (first | subst eo23 | (injection eo23 with f1_ f2_ f3_; have f4_ := f1_.symm; have f5_ := f3_.symm; clear f1_ f2_ f3_; subst f4_; subst f5_))
    refine hK.out _ _ ⟨(blk_cell BK349.out 0).trans rfl, (blk_cell BK349.out 1).trans rfl⟩ (fun hHeld => ?_)
    clear hK K
    refine norm_ (a' := ?_) ?_ ?_
    rotate_left
    · show Act.put _ (some 11) _ = _
      simp only [Act.put, List.setIfInBounds_toArray, List.set_cons_zero, List.set_cons_succ, i64_w, i32_w]
      rfl
    refine one_ (i := 4) (N := none) #[true, true, true, true, true] rfl rfl (by kernel_rfl) (by decide) (fun K hK => ?_)
    have hs22 : w21.cell? ⟨gb350, 0, none⟩ = some (.bool false) := (blk_cell BK350.out 0).trans rfl
    have hfs22 := blk_frozen BK350.out 0
    have hns22_0 := NB349_350.out
    have hms22_0 := NB350_349.out
    have hs24 : w21.cell? ⟨gb350, 1, none⟩ = some (.slice none 0 0) := (blk_cell BK350.out 1).trans rfl
    have hfs24 := blk_frozen BK350.out 1
    have hns24_0 := NB349_350.out
    have hms24_0 := NB350_349.out
    refine skip_ (w1 := ?_) (by rfl) rfl ?_ ?_
    rotate_left
    · go_simp
      rfl
    refine hK.out _ _ ⟨((cell_far (p := ⟨gb350, _, none⟩) NB349_350.out _).trans (((cell_far (p := ⟨gb350, _, none⟩) NB349_350.out _).trans (hHeld.1)))), ((cell_far (p := ⟨gb350, _, none⟩) NB349_350.out _).trans (((cell_far (p := ⟨gb350, _, none⟩) NB349_350.out _).trans (hHeld.2))))⟩ (fun hHeld => ?_)
    clear hK K
    refine done_ (by kernel_rfl) ?_
    try go_wp2
    refine bodyPost_ret (results_cell_row rfl _ _ gb350 37 #[.bool t356, .slice Ao23 t357.length co23] (0, 0) _ rfl (by (with_reducible repeat (first | refine blk_drewN ?_ _ | refine blk_drew ?_ | refine blk_alloc ?_ _)); refine blk_put (cs := #[.bool t356, .slice none 0 0]) ?_ 1 _ rfl; (with_reducible repeat (first | refine blk_drewN ?_ _ | refine blk_drew ?_ | refine blk_alloc ?_ _)); refine blk_put (cs := #[.bool false, .slice none 0 0]) ?_ 0 _ rfl; (with_reducible repeat (first | refine blk_drewN ?_ _ | refine blk_drew ?_ | refine blk_alloc ?_ _)); exact BK350.out) Tryz.underlying37 rfl (by kernel_rfl)) rfl ?_
    exact ⟨_, by first | rfl | (simp [errW_none, errW_some] <;> rfl) | (simp [*, errW_none, errW_some] <;> rfl), by (with_reducible repeat (first | apply Kd.R_alloc | apply Kd.R_drewN | apply Kd.R_drew)); exact Kd.R_mono (Kd.R_far (p := ⟨gb350, 1, none⟩) (Kd.R_far (p := ⟨gb350, 0, none⟩) (Kd.R_types HO359.out BK350.out (by decide)) (fun _ hk => hk.2) (.bool t356)) (fun _ hk => hk.2) (.slice Ao23 t357.length co23)) (fun _ hk => trivial), by repeat (first | (with_reducible first | exact HB.out | apply below_alloc | apply pw_below_drewN | apply below_drew1 | refine below_set ?_ GE349.out | refine below_set ?_ GE350.out) | exact HB.out)⟩


/-! ### spec_frontTens: function 27 -/
theorem spec_frontTens.mono_l : ∀ k, (∀ y0 y1 y2, LeO (spec_frontTens.l0 k y0 y1 y2) (spec_frontTens.l0 (k + 1) y0 y1 y2)) ∧ (∀ y0 y1 y2, LeO (spec_frontTens.l1 k y0 y1 y2) (spec_frontTens.l1 (k + 1) y0 y1 y2))
  | 0 => ⟨fun _ _ _ r h => by simp [spec_frontTens.l0] at h, fun _ _ _ r h => by simp [spec_frontTens.l1] at h⟩
  | k + 1 => by
    obtain ⟨ih0, ih1⟩ := spec_frontTens.mono_l k
    refine ⟨?_, ?_⟩
    · intro y0 y1 y2
      unfold spec_frontTens.l0
      repeat' first
      | (with_reducible exact ih0 _ _ _)
      | (with_reducible exact ih1 _ _ _)
      | (with_reducible exact spec_Int_Mul.mono _ _ _ _ _)
      | (with_reducible exact spec_Small.mono _ _)
      | (with_reducible exact LeO.refl _)
      | (with_reducible exact LeO.none _)
      | (with_reducible refine LeO.ite ?_ ?_)
      | (with_reducible refine LeO.bind ?_ (fun _ => ?_))
      | exact ih0 _ _ _
      | exact ih1 _ _ _
      | exact spec_Int_Mul.mono _ _ _ _ _
      | exact spec_Small.mono _ _
      | exact LeO.none _
      | refine LeO.ite ?_ ?_
      | refine LeO.bind ?_ (fun _ => ?_)
    · intro y0 y1 y2
      unfold spec_frontTens.l1
      repeat' first
      | (with_reducible exact ih0 _ _ _)
      | (with_reducible exact ih1 _ _ _)
      | (with_reducible exact spec_Int_Mul.mono _ _ _ _ _)
      | (with_reducible exact spec_Small.mono _ _)
      | (with_reducible exact LeO.refl _)
      | (with_reducible exact LeO.none _)
      | (with_reducible refine LeO.ite ?_ ?_)
      | (with_reducible refine LeO.bind ?_ (fun _ => ?_))
      | exact ih0 _ _ _
      | exact ih1 _ _ _
      | exact spec_Int_Mul.mono _ _ _ _ _
      | exact spec_Small.mono _ _
      | exact LeO.none _
      | refine LeO.ite ?_ ?_
      | refine LeO.bind ?_ (fun _ => ?_)
theorem spec_frontTens.mono : ∀ a0 k, LeO (spec_frontTens.f k a0) (spec_frontTens.f (k + 1) a0) := by
  intro a0 k
  obtain ⟨ih0, ih1⟩ := spec_frontTens.mono_l k
  unfold spec_frontTens.f
  repeat' first
      | (with_reducible exact ih0 _ _ _)
      | (with_reducible exact ih1 _ _ _)
      | (with_reducible exact spec_Int_Mul.mono _ _ _ _ _)
      | (with_reducible exact spec_Small.mono _ _)
      | (with_reducible exact LeO.refl _)
      | (with_reducible exact LeO.none _)
      | (with_reducible refine LeO.ite ?_ ?_)
      | (with_reducible refine LeO.bind ?_ (fun _ => ?_))
      | exact ih0 _ _ _
      | exact ih1 _ _ _
      | exact spec_Int_Mul.mono _ _ _ _ _
      | exact spec_Small.mono _ _
      | exact LeO.none _
      | refine LeO.ite ?_ ?_
      | refine LeO.bind ?_ (fun _ => ?_)
set_option maxHeartbeats 8000000 in
set_option maxRecDepth 100000 in
theorem spec_frontTens.calls (k : Nat) (a0 : Int) (r1 : Bool) (r2 : List Int) (w : World) (h : spec_frontTens.f k a0 = some (r1, r2)) :
    Calls Tryz.prog 27 #[.int .i64 a0] w fun e w' => ∃ v1_ : Value, e = .returned (.agg #[.bool r1, v1_]) ∧ Kd.R (Kd.int .u8) 5 w' w.heap.size (fun _ => True) v1_ r2 ∧ Below w.heap.size w w' := by
  have hu37 := Tryz.underlying37
  have HB := Aside0.mk (Below.refl w.heap.size w)
  have H : ((spec_Small.f k 1).bind fun bt361 => (spec_frontTens.l0 k a0 bt361.1 bt361.2)) = some (r1, r2) := h
  clear h
  replace H := Option.bind_eq_some_iff.mp H
  obtain ⟨⟨t361, t362⟩, A20, H⟩ := H
  replace H : (spec_frontTens.l0 k a0 t361 t362) = some (r1, r2) := H
  have A2 := Aside0.mk A20
  clear A20
  have H' := Aside0.mk H
  clear H
  go_enter Tryz.func27, Tryz.ntmps27
  go_wp2_with (first | ((with_reducible refine gate_dst (N := 2) rfl ?_); refine box_event ?hg (N := 2) ?hd (cs := #[.bool false, .slice none 0 0]) (t := 37) ?hr ?_; (case hd => rfl); (case hg => rfl); (case hr => first | (go_simp; done) | (go_simp; rfl)); intro gb360 hg w3 hbox hb; have n0_ := Aside0.mk (below_step (by repeat (first | (with_reducible first | exact HB.out | apply below_alloc | apply pw_below_drewN | apply below_drew1) | exact HB.out)) hb); have n1_ := Aside0.mk (hbox); have n2_ := Aside0.mk ((by rw [hg]; exact (below_size (by repeat (first | (with_reducible first | exact HB.out | apply below_alloc | apply pw_below_drewN | apply below_drew1) | exact HB.out))) : w.heap.size ≤ gb360)); have n3_ := Aside0.mk ((by rw [hg]; exact (below_size (by repeat (first | (with_reducible first | exact HB.out | apply below_alloc | apply pw_below_drewN | apply below_drew1) | exact HB.out))) : w.heap.size ≤ gb360)); clear HB; have HB := n0_; have BK360 := n1_; have GW360 := n2_; have GE360 := n3_; clear n0_ n1_ n2_ n3_; clear hb hbox hg) | ((with_reducible refine gate_callee (f := 17) rfl ?_); refine goesL_ (some 4) rfl rfl Tryz.func17 (by kernel_rfl) rfl #[.int .i64 1] rfl (by (try simp only [List.map_toArray, List.map_cons, List.map_nil]); first | done | rfl | (simp only [List.length_drop, List.length_take]; rfl)) ?_; (with_reducible refine (spec_Small.calls k 1 t361 t362 _ A2.out).mono ?_); rintro e w4 ⟨v363, rfl, ho0, hb⟩; refine ⟨_, rfl, ?_⟩; have n0_ := Aside0.mk (Kd.R_lower ho0 (below_size (by repeat (first | (with_reducible first | exact HB.out | apply below_alloc | apply pw_below_drewN | apply below_drew1 | refine below_set ?_ GE360.out) | exact HB.out)))); have n1_ := Aside0.mk (blk_below (g := gb360) (o := .cells #[.bool false, .slice none 0 0] 37 (0, 0)) (by (with_reducible repeat (first | refine blk_drewN ?_ _ | refine blk_drew ?_ | refine blk_alloc ?_ _)); exact BK360.out) hb); have n2_ := Aside0.mk (below_step (by repeat (first | (with_reducible first | exact HB.out | apply below_alloc | apply pw_below_drewN | apply below_drew1 | refine below_set ?_ GE360.out) | exact HB.out)) hb); clear BK360; clear HB; have HO364 := n0_; have BK360 := n1_; have HB := n2_; clear n0_ n1_ n2_; (try clear hb); (try clear hb2); (try clear hk); (try clear hi); (try clear ho0)) | ((with_reducible refine gate_dst (N := 3) rfl ?_); refine box_event ?hg (N := 3) ?hd (cs := #[.bool false, .slice none 0 0]) (t := 37) ?hr ?_; (case hd => rfl); (case hg => rfl); (case hr => first | (go_simp; done) | (go_simp; rfl)); intro gb365 hg w5 hbox hb; have n0_ := Aside0.mk (Kd.R_below (by (with_reducible repeat (first | apply Kd.R_alloc | apply Kd.R_drewN | apply Kd.R_drew)); exact HO364.out) hb); have n1_ := Aside0.mk (blk_below (g := gb360) (o := .cells #[.bool false, .slice none 0 0] 37 (0, 0)) (by (with_reducible repeat (first | refine blk_drewN ?_ _ | refine blk_drew ?_ | refine blk_alloc ?_ _)); exact BK360.out) hb); have n2_ := Aside0.mk (below_step (by repeat (first | (with_reducible first | exact HB.out | apply below_alloc | apply pw_below_drewN | apply below_drew1 | refine below_set ?_ GE360.out) | exact HB.out)) hb); have n3_ := Aside0.mk (hbox); have n4_ := Aside0.mk ((by rw [hg]; exact (below_size (by repeat (first | (with_reducible first | exact HB.out | apply below_alloc | apply pw_below_drewN | apply below_drew1 | refine below_set ?_ GE360.out) | exact HB.out))) : w.heap.size ≤ gb365)); have n5_ := Aside0.mk ((by rw [hg]; exact (below_size (by repeat (first | (with_reducible first | exact HB.out | apply below_alloc | apply pw_below_drewN | apply below_drew1 | refine below_set ?_ GE360.out) | exact HB.out))) : w.heap.size ≤ gb365)); have n6_ := Aside0.mk ((by rw [hg]; exact Nat.ne_of_lt (blk_lt (g := gb360) (o := .cells #[.bool false, .slice none 0 0] 37 (0, 0)) (by (with_reducible repeat (first | refine blk_drewN ?_ _ | refine blk_drew ?_ | refine blk_alloc ?_ _)); exact BK360.out)) : gb360 ≠ gb365)); have n7_ := Aside0.mk ((by rw [hg]; exact Nat.ne_of_gt (blk_lt (g := gb360) (o := .cells #[.bool false, .slice none 0 0] 37 (0, 0)) (by (with_reducible repeat (first | refine blk_drewN ?_ _ | refine blk_drew ?_ | refine blk_alloc ?_ _)); exact BK360.out)) : gb365 ≠ gb360)); clear HO364; clear BK360; clear HB; have HO364 := n0_; have BK360 := n1_; have HB := n2_; have BK365 := n3_; have GW365 := n4_; have GE365 := n5_; have NB360_365 := n6_; have NB365_360 := n7_; clear n0_ n1_ n2_ n3_ n4_ n5_ n6_ n7_; clear hb hbox hg; have hnb6 := NB365_360.out; have hnc6 := NB360_365.out; have hcz7_0 : w5.cell? ⟨gb365, 0, none⟩ = some (.bool false) := (blk_cell BK365.out 0).trans rfl; have hcz7_1 : w5.cell? ⟨gb365, 1, none⟩ = some (.slice none 0 0) := (blk_cell BK365.out 1).trans rfl; have hfz7_0 := blk_frozen BK365.out 0; have hfz7_1 := blk_frozen BK365.out 1; obtain ⟨Ao8, co8, eo8⟩ := Kd.R_slice HO364.out; subst eo8))
  go_loopg [0] k (fun kq v0 w' => ∃ (x0_1 : Int) (x366000_1 : Bool) (x366001_1 : List Int) (u366001 : Value), v0 = .int .i64 x0_1 ∧ Aside0 (spec_frontTens.l0 kq x0_1 x366000_1 x366001_1 = some (r1, r2)) ∧ Aside0 (kq ≤ k) ∧ Aside0 (Kd.R (Kd.int .u8) 5 w' w.heap.size (fun _ => True) u366001 x366001_1) ∧ Aside0 (w'.heap[gb360]? = some (.cells #[.bool false, (.slice none 0 0)] 37 (0, 0))) ∧ Aside0 (w'.heap[gb365]? = some (.cells #[.bool x366000_1, u366001] 37 (0, 0))) ∧ Aside0 (Below w.heap.size w w'))
  case atStart => exact ⟨(a0), (t361), (t362), (.slice Ao8 t362.length co8), (by first | rfl | (simp; done) | (simp [*]; done)), H', ⟨Nat.le_refl _⟩, ⟨by (with_reducible repeat (first | apply Kd.R_alloc | apply Kd.R_drewN | apply Kd.R_drew)); exact Kd.R_mono (Kd.R_far (p := ⟨gb365, 1, none⟩) (Kd.R_far (p := ⟨gb365, 0, none⟩) (Kd.R_types HO364.out BK365.out (by decide)) (fun _ hk => hk.2) (.bool t361)) (fun _ hk => hk.2) (.slice Ao8 t362.length co8)) (fun _ hk => trivial)⟩, ⟨by (with_reducible repeat (first | refine blk_drewN ?_ _ | refine blk_drew ?_ | refine blk_alloc ?_ _)); refine blk_far ?_ NB360_365.out _; (with_reducible repeat (first | refine blk_drewN ?_ _ | refine blk_drew ?_ | refine blk_alloc ?_ _)); refine blk_far ?_ NB360_365.out _; (with_reducible repeat (first | refine blk_drewN ?_ _ | refine blk_drew ?_ | refine blk_alloc ?_ _)); exact BK360.out⟩, ⟨by (with_reducible repeat (first | refine blk_drewN ?_ _ | refine blk_drew ?_ | refine blk_alloc ?_ _)); refine blk_put (cs := #[.bool t361, .slice none 0 0]) ?_ 1 _ rfl; (with_reducible repeat (first | refine blk_drewN ?_ _ | refine blk_drew ?_ | refine blk_alloc ?_ _)); refine blk_put (cs := #[.bool false, .slice none 0 0]) ?_ 0 _ rfl; (with_reducible repeat (first | refine blk_drewN ?_ _ | refine blk_drew ?_ | refine blk_alloc ?_ _)); exact BK365.out⟩, ⟨by repeat (first | (with_reducible first | exact HB.out | apply below_alloc | apply pw_below_drewN | apply below_drew1 | refine below_set ?_ GE360.out | refine below_set ?_ GE365.out) | exact HB.out)⟩⟩
  case round =>
    clear H'
    try clear c1
    try clear c2
    try clear p2
    try clear c6
    try clear hcz7_0
    try clear hcz7_1
    try clear hfz7_0
    try clear hfz7_1
    obtain ⟨x0_1, x366000_1, x366001_1, u366001, rfl, HA, HK1, HO_366001, BK360, BK365, HB⟩ := hrel
    cases gk with
    | zero => exact absurd HA.out (by simp [spec_frontTens.l0])
    | succ k1 =>
      have H := HA.out
      clear HA
      simp only [spec_frontTens.l0] at H
      by_cases c9 : x0_1 ≥ 15
      · rw [if_pos c9] at H
        have c9b0 : decide (15 ≤ x0_1) = true := decide_eq_true c9
        clear c9
        replace H := Option.bind_eq_some_iff.mp H
        obtain ⟨⟨t366, t367⟩, A100, H⟩ := H
        replace H : ((spec_Int_Mul.f k1 x366000_1 x366001_1 t366 t367).bind fun bt370 => (spec_frontTens.l0 k1 (wrap64 (x0_1 - 15)) bt370.1 bt370.2)) = some (r1, r2) := H
        have A10 := Aside0.mk A100
        clear A100
        replace H := Option.bind_eq_some_iff.mp H
        obtain ⟨⟨t370, t371⟩, A110, H⟩ := H
        replace H : (spec_frontTens.l0 k1 (wrap64 (x0_1 - 15)) t370 t371) = some (r1, r2) := H
        have A11 := Aside0.mk A110
        clear A110
        have H' := Aside0.mk H
        clear H
        try go_wp2
        have n0_ := Aside0.mk (Kd.R_drew HO_366001.out)
        have n1_ := Aside0.mk (blk_drew BK360.out)
        have n2_ := Aside0.mk (blk_drew BK365.out)
        have n3_ := Aside0.mk (below_drew1 HB.out)
        clear HO_366001
        clear BK360
        clear BK365
        clear HB
        have HO_366001 := n0_
        have BK360 := n1_
        have BK365 := n2_
        have HB := n3_
        clear n0_ n1_ n2_ n3_
        refine start_ (n := 4) (S := fun w' => w'.cell? ⟨gb365, 0, none⟩ = some (.bool x366000_1) ∧ w'.cell? ⟨gb365, 1, none⟩ = some (u366001)) (ds := [3]) #[false, false, false, false] (by kernel_rfl) rfl rfl ⟨(blk_cell BK365.out 0).trans rfl, (blk_cell BK365.out 1).trans rfl⟩ (fun hHeld => ?_)
        generalize wr.drew = w12 at HO_366001 BK360 BK365 HB hHeld ⊢
        refine take_ (i := 0) (N := some 9) (v := ?_) (a' := ?_) #[true, false, false, false] rfl rfl (by kernel_rfl) (fun _ _ _ h => h) (Or.inl ⟨by rfl, ?_⟩) hHeld ?_ ?_
        rotate_left
        · rintro w' ⟨s0, s1⟩
          go_simp
          with_reducible rfl
        rotate_left
        · simp only [Act.put, List.setIfInBounds_toArray, List.set_cons_zero, List.set_cons_succ, i64_w, i32_w]
          rfl
        refine one_ (i := 1) (N := some 10) #[true, true, false, false] rfl rfl (by kernel_rfl) (by decide) (fun K hK => ?_)
        refine goes_ Tryz.func17 (by kernel_rfl) rfl #[.int .i64 1000000000000000] (by rfl) rfl rfl (by (try simp only [List.map_toArray, List.map_cons, List.map_nil]); first | done | rfl | (simp only [List.length_drop, List.length_take]; rfl)) ?_
        with_reducible refine (spec_Small.calls k1 1000000000000000 t366 t367 _ A10.out).mono ?_
        rintro e w13 ⟨v368, rfl, ho0, hb⟩
        refine ⟨_, rfl, ?_⟩
        have n0_ := Aside0.mk (Kd.R_elder' (by (with_reducible repeat (first | apply Kd.R_alloc | apply Kd.R_drewN | apply Kd.R_drew)); exact HO_366001.out) (Kd.R_base ho0) hb)
        have n1_ := Aside0.mk (Kd.R_lower (Kd.R_new' ho0 (Kd.R_lt (by (with_reducible repeat (first | apply Kd.R_alloc | apply Kd.R_drewN | apply Kd.R_drew)); exact HO_366001.out))) (below_size (by repeat (first | (with_reducible first | exact HB.out | apply below_alloc | apply pw_below_drewN | apply below_drew1 | refine below_set ?_ GE360.out | refine below_set ?_ GE365.out) | exact HB.out))))
        have n2_ := Aside0.mk (blk_below (g := gb360) (o := .cells #[.bool false, .slice none 0 0] 37 (0, 0)) (by (with_reducible repeat (first | refine blk_drewN ?_ _ | refine blk_drew ?_ | refine blk_alloc ?_ _)); exact BK360.out) hb)
        have n3_ := Aside0.mk (blk_below (g := gb365) (o := .cells #[.bool x366000_1, u366001] 37 (0, 0)) (by (with_reducible repeat (first | refine blk_drewN ?_ _ | refine blk_drew ?_ | refine blk_alloc ?_ _)); exact BK365.out) hb)
        have n4_ := Aside0.mk (below_step (by repeat (first | (with_reducible first | exact HB.out | apply below_alloc | apply pw_below_drewN | apply below_drew1 | refine below_set ?_ GE360.out | refine below_set ?_ GE365.out) | exact HB.out)) hb)
        clear HO_366001
        clear BK360
        clear BK365
        clear HB
        have HO_366001 := n0_
        have HO369 := n1_
        have BK360 := n2_
        have BK365 := n3_
        have HB := n4_
        clear n0_ n1_ n2_ n3_ n4_
        (try clear hb)
        (try clear hb2)
        (try clear hk)
        (try clear hi)
        (try clear ho0)
        obtain ⟨Ao14, co14, eo14⟩ := Kd.R_slice HO_366001.out
        (first | subst eo14 | (injection eo14 with f1_ f2_ f3_; have f4_ := f1_.symm; have f5_ := f3_.symm; clear f1_ f2_ f3_; subst f4_; subst f5_))
        obtain ⟨Ao15, co15, eo15⟩ := Kd.R_slice HO369.out
        (first | subst eo15 | (injection eo15 with f1_ f2_ f3_; have f4_ := f1_.symm; have f5_ := f3_.symm; clear f1_ f2_ f3_; subst f4_; subst f5_))
        refine hK.out _ _ ⟨(blk_cell BK365.out 0).trans rfl, (blk_cell BK365.out 1).trans rfl⟩ (fun hHeld => ?_)
        clear hK K
        refine norm_ (a' := ?_) ?_ ?_
        rotate_left
        · show Act.put _ (some 10) _ = _
          simp only [Act.put, List.setIfInBounds_toArray, List.set_cons_zero, List.set_cons_succ, i64_w, i32_w]
          rfl
        refine one_ (i := 2) (N := some 11) #[true, true, true, false] rfl rfl (by kernel_rfl) (by decide) (fun K hK => ?_)
        refine goes_ Tryz.func26 (by kernel_rfl) rfl #[.agg #[.bool x366000_1, .slice Ao14 x366001_1.length co14], .agg #[.bool t366, .slice Ao15 t367.length co15]] (by rfl) rfl rfl (by (try simp only [List.map_toArray, List.map_cons, List.map_nil]); first | done | rfl | (simp only [List.length_drop, List.length_take]; rfl)) ?_
        with_reducible refine (spec_Int_Mul.calls k1 x366000_1 _ _ x366001_1 t366 _ _ t367 t370 t371 _ ?side1 ?side2 ?side3 ?side4 A11.out).mono ?_
        (case side1 => repeat (first | exact (Kd.R_reads' HO_366001.out).2.2 | (with_reducible refine Kd.C_alloc ?_ _) | (with_reducible refine Kd.C_drewN ?_ _) | (with_reducible refine Kd.C_drew ?_)))
        (case side2 => exact (Kd.R_reads' HO_366001.out).2.1)
        (case side3 => repeat (first | exact (Kd.R_reads' HO369.out).2.2 | (with_reducible refine Kd.C_alloc ?_ _) | (with_reducible refine Kd.C_drewN ?_ _) | (with_reducible refine Kd.C_drew ?_)))
        (case side4 => exact (Kd.R_reads' HO369.out).2.1)
        rintro e w16 ⟨v372, rfl, ho0, hb⟩
        refine ⟨_, rfl, ?_⟩
        have n0_ := Aside0.mk (Kd.R_elder' (by (with_reducible repeat (first | apply Kd.R_alloc | apply Kd.R_drewN | apply Kd.R_drew)); exact HO_366001.out) (Kd.R_base ho0) hb)
        have n1_ := Aside0.mk (Kd.R_elder' (by (with_reducible repeat (first | apply Kd.R_alloc | apply Kd.R_drewN | apply Kd.R_drew)); exact HO369.out) (Kd.R_base ho0) hb)
        have n2_ := Aside0.mk (Kd.R_lower (Kd.R_new' (Kd.R_new' ho0 (Kd.R_lt (by (with_reducible repeat (first | apply Kd.R_alloc | apply Kd.R_drewN | apply Kd.R_drew)); exact HO_366001.out))) (Kd.R_lt (by (with_reducible repeat (first | apply Kd.R_alloc | apply Kd.R_drewN | apply Kd.R_drew)); exact HO369.out))) (below_size (by repeat (first | (with_reducible first | exact HB.out | apply below_alloc | apply pw_below_drewN | apply below_drew1 | refine below_set ?_ GE360.out | refine below_set ?_ GE365.out) | exact HB.out))))
        have n3_ := Aside0.mk (blk_below (g := gb360) (o := .cells #[.bool false, .slice none 0 0] 37 (0, 0)) (by (with_reducible repeat (first | refine blk_drewN ?_ _ | refine blk_drew ?_ | refine blk_alloc ?_ _)); exact BK360.out) hb)
        have n4_ := Aside0.mk (blk_below (g := gb365) (o := .cells #[.bool x366000_1, .slice Ao14 x366001_1.length co14] 37 (0, 0)) (by (with_reducible repeat (first | refine blk_drewN ?_ _ | refine blk_drew ?_ | refine blk_alloc ?_ _)); exact BK365.out) hb)
        have n5_ := Aside0.mk (below_step (by repeat (first | (with_reducible first | exact HB.out | apply below_alloc | apply pw_below_drewN | apply below_drew1 | refine below_set ?_ GE360.out | refine below_set ?_ GE365.out) | exact HB.out)) hb)
        clear HO_366001
        clear HO369
        clear BK360
        clear BK365
        clear HB
        have HO_366001 := n0_
        have HO369 := n1_
        have HO373 := n2_
        have BK360 := n3_
        have BK365 := n4_
        have HB := n5_
        clear n0_ n1_ n2_ n3_ n4_ n5_
        (try clear hb)
        (try clear hb2)
        (try clear hk)
        (try clear hi)
        (try clear ho0)
        obtain ⟨Ao18, co18, eo18⟩ := Kd.R_slice HO373.out
        (first | subst eo18 | (injection eo18 with f1_ f2_ f3_; have f4_ := f1_.symm; have f5_ := f3_.symm; clear f1_ f2_ f3_; subst f4_; subst f5_))
        refine hK.out _ _ ⟨(blk_cell BK365.out 0).trans rfl, (blk_cell BK365.out 1).trans rfl⟩ (fun hHeld => ?_)
        clear hK K
        refine norm_ (a' := ?_) ?_ ?_
        rotate_left
        · show Act.put _ (some 11) _ = _
          simp only [Act.put, List.setIfInBounds_toArray, List.set_cons_zero, List.set_cons_succ, i64_w, i32_w]
          rfl
        refine last_ (i := 3) (N := none) #[true, true, true, true] rfl rfl (by kernel_rfl) (by decide) (fun K hK => ?_)
        have hs17 : w16.cell? ⟨gb365, 0, none⟩ = some (.bool x366000_1) := (blk_cell BK365.out 0).trans rfl
        have hfs17 := blk_frozen BK365.out 0
        have hns17_0 := NB360_365.out
        have hms17_0 := NB365_360.out
        have hs19 : w16.cell? ⟨gb365, 1, none⟩ = some (.slice Ao14 x366001_1.length co14) := (blk_cell BK365.out 1).trans rfl
        have hfs19 := blk_frozen BK365.out 1
        have hns19_0 := NB360_365.out
        have hms19_0 := NB365_360.out
        refine skip_ (w1 := ?_) (by rfl) rfl ?_ ?_
        rotate_left
        · go_simp
          rfl
        refine hK.out _ _ ?_
        clear hK K
        refine done_ (by kernel_rfl) ?_
        try go_wp2
        go_roundg k1
        case measure => have := HK1.out; omega
        case rel => exact ⟨(wrap64 (x0_1 - 15)), (t370), (t371), (.slice Ao18 t371.length co18), (by first | rfl | (simp; done) | (simp [*]; done)), H', ⟨by have := HK1.out; omega⟩, ⟨by (with_reducible repeat (first | apply Kd.R_alloc | apply Kd.R_drewN | apply Kd.R_drew)); exact Kd.R_mono (Kd.R_far (p := ⟨gb365, 1, none⟩) (Kd.R_far (p := ⟨gb365, 0, none⟩) (Kd.R_types HO373.out BK365.out (by decide)) (fun _ hk => hk.2) (.bool t370)) (fun _ hk => hk.2) (.slice Ao18 t371.length co18)) (fun _ hk => trivial)⟩, ⟨by (with_reducible repeat (first | refine blk_drewN ?_ _ | refine blk_drew ?_ | refine blk_alloc ?_ _)); refine blk_far ?_ NB360_365.out _; (with_reducible repeat (first | refine blk_drewN ?_ _ | refine blk_drew ?_ | refine blk_alloc ?_ _)); refine blk_far ?_ NB360_365.out _; (with_reducible repeat (first | refine blk_drewN ?_ _ | refine blk_drew ?_ | refine blk_alloc ?_ _)); exact BK360.out⟩, ⟨by (with_reducible repeat (first | refine blk_drewN ?_ _ | refine blk_drew ?_ | refine blk_alloc ?_ _)); refine blk_put (cs := #[.bool t370, .slice Ao14 x366001_1.length co14]) ?_ 1 _ rfl; (with_reducible repeat (first | refine blk_drewN ?_ _ | refine blk_drew ?_ | refine blk_alloc ?_ _)); refine blk_put (cs := #[.bool x366000_1, .slice Ao14 x366001_1.length co14]) ?_ 0 _ rfl; (with_reducible repeat (first | refine blk_drewN ?_ _ | refine blk_drew ?_ | refine blk_alloc ?_ _)); exact BK365.out⟩, ⟨by repeat (first | (with_reducible first | exact HB.out | apply below_alloc | apply pw_below_drewN | apply below_drew1 | refine below_set ?_ GE360.out | refine below_set ?_ GE365.out) | exact HB.out)⟩⟩
      · rw [if_neg c9] at H
        have c9b0 : decide (15 ≤ x0_1) = false := decide_eq_false c9
        clear c9
        have H' := Aside0.mk H
        clear H
        go_wp2
        go_loopg [0] k1 (fun kq v0 w' => ∃ (x0_2 : Int) (x366000_2 : Bool) (x366001_2 : List Int) (u366001 : Value), v0 = .int .i64 x0_2 ∧ Aside0 (spec_frontTens.l1 kq x0_2 x366000_2 x366001_2 = some (r1, r2)) ∧ Aside0 (kq ≤ k1) ∧ Aside0 (Kd.R (Kd.int .u8) 5 w' w.heap.size (fun _ => True) u366001 x366001_2) ∧ Aside0 (w'.heap[gb360]? = some (.cells #[.bool false, (.slice none 0 0)] 37 (0, 0))) ∧ Aside0 (w'.heap[gb365]? = some (.cells #[.bool x366000_2, u366001] 37 (0, 0))) ∧ Aside0 (Below w.heap.size w w'))
        case atStart => exact ⟨(x0_1), (x366000_1), (x366001_1), (u366001), (by first | rfl | (simp; done) | (simp [*]; done)), H', ⟨Nat.le_refl _⟩, ⟨by (with_reducible repeat (first | apply Kd.R_alloc | apply Kd.R_drewN | apply Kd.R_drew)); exact HO_366001.out⟩, ⟨by (with_reducible repeat (first | refine blk_drewN ?_ _ | refine blk_drew ?_ | refine blk_alloc ?_ _)); exact BK360.out⟩, ⟨by (with_reducible repeat (first | refine blk_drewN ?_ _ | refine blk_drew ?_ | refine blk_alloc ?_ _)); exact BK365.out⟩, ⟨by repeat (first | (with_reducible first | exact HB.out | apply below_alloc | apply pw_below_drewN | apply below_drew1 | refine below_set ?_ GE360.out | refine below_set ?_ GE365.out) | exact HB.out)⟩⟩
        case round =>
          clear H'
          try clear c1
          try clear c2
          try clear p2
          try clear c6
          try clear p6
          try clear c9
          try clear c9b0
          try clear c17
          try clear hcz7_0
          try clear hcz7_1
          try clear hfz7_0
          try clear hfz7_1
          try clear p2
          obtain ⟨x0_2, x366000_2, x366001_2, u366001, rfl, HA, HK2, HO_366001, BK360, BK365, HB⟩ := hrel
          cases gk with
          | zero => exact absurd HA.out (by simp [spec_frontTens.l1])
          | succ k2 =>
            have H := HA.out
            clear HA
            simp only [spec_frontTens.l1] at H
            by_cases c20 : x0_2 > 0
            · rw [if_pos c20] at H
              have c20b0 : decide (0 < x0_2) = true := decide_eq_true c20
              clear c20
              replace H := Option.bind_eq_some_iff.mp H
              obtain ⟨⟨t374, t375⟩, A210, H⟩ := H
              replace H : ((spec_Int_Mul.f k2 x366000_2 x366001_2 t374 t375).bind fun bt378 => (spec_frontTens.l1 k2 (wrap64 (x0_2 - 1)) bt378.1 bt378.2)) = some (r1, r2) := H
              have A21 := Aside0.mk A210
              clear A210
              replace H := Option.bind_eq_some_iff.mp H
              obtain ⟨⟨t378, t379⟩, A220, H⟩ := H
              replace H : (spec_frontTens.l1 k2 (wrap64 (x0_2 - 1)) t378 t379) = some (r1, r2) := H
              have A22 := Aside0.mk A220
              clear A220
              have H' := Aside0.mk H
              clear H
              try go_wp2
              have n0_ := Aside0.mk (Kd.R_drew HO_366001.out)
              have n1_ := Aside0.mk (blk_drew BK360.out)
              have n2_ := Aside0.mk (blk_drew BK365.out)
              have n3_ := Aside0.mk (below_drew1 HB.out)
              clear HO_366001
              clear BK360
              clear BK365
              clear HB
              have HO_366001 := n0_
              have BK360 := n1_
              have BK365 := n2_
              have HB := n3_
              clear n0_ n1_ n2_ n3_
              refine start_ (n := 4) (S := fun w' => w'.cell? ⟨gb365, 0, none⟩ = some (.bool x366000_2) ∧ w'.cell? ⟨gb365, 1, none⟩ = some (u366001)) (ds := [3]) #[false, false, false, false] (by kernel_rfl) rfl rfl ⟨(blk_cell BK365.out 0).trans rfl, (blk_cell BK365.out 1).trans rfl⟩ (fun hHeld => ?_)
              generalize wr.drew = w23 at HO_366001 BK360 BK365 HB hHeld ⊢
              refine take_ (i := 0) (N := some 16) (v := ?_) (a' := ?_) #[true, false, false, false] rfl rfl (by kernel_rfl) (fun _ _ _ h => h) (Or.inl ⟨by rfl, ?_⟩) hHeld ?_ ?_
              rotate_left
              · rintro w' ⟨s0, s1⟩
                go_simp
                with_reducible rfl
              rotate_left
              · simp only [Act.put, List.setIfInBounds_toArray, List.set_cons_zero, List.set_cons_succ, i64_w, i32_w]
                rfl
              refine one_ (i := 1) (N := some 17) #[true, true, false, false] rfl rfl (by kernel_rfl) (by decide) (fun K hK => ?_)
              refine goes_ Tryz.func17 (by kernel_rfl) rfl #[.int .i64 10] (by rfl) rfl rfl (by (try simp only [List.map_toArray, List.map_cons, List.map_nil]); first | done | rfl | (simp only [List.length_drop, List.length_take]; rfl)) ?_
              with_reducible refine (spec_Small.calls k2 10 t374 t375 _ A21.out).mono ?_
              rintro e w24 ⟨v376, rfl, ho0, hb⟩
              refine ⟨_, rfl, ?_⟩
              have n0_ := Aside0.mk (Kd.R_elder' (by (with_reducible repeat (first | apply Kd.R_alloc | apply Kd.R_drewN | apply Kd.R_drew)); exact HO_366001.out) (Kd.R_base ho0) hb)
              have n1_ := Aside0.mk (Kd.R_lower (Kd.R_new' ho0 (Kd.R_lt (by (with_reducible repeat (first | apply Kd.R_alloc | apply Kd.R_drewN | apply Kd.R_drew)); exact HO_366001.out))) (below_size (by repeat (first | (with_reducible first | exact HB.out | apply below_alloc | apply pw_below_drewN | apply below_drew1 | refine below_set ?_ GE360.out | refine below_set ?_ GE365.out) | exact HB.out))))
              have n2_ := Aside0.mk (blk_below (g := gb360) (o := .cells #[.bool false, .slice none 0 0] 37 (0, 0)) (by (with_reducible repeat (first | refine blk_drewN ?_ _ | refine blk_drew ?_ | refine blk_alloc ?_ _)); exact BK360.out) hb)
              have n3_ := Aside0.mk (blk_below (g := gb365) (o := .cells #[.bool x366000_2, u366001] 37 (0, 0)) (by (with_reducible repeat (first | refine blk_drewN ?_ _ | refine blk_drew ?_ | refine blk_alloc ?_ _)); exact BK365.out) hb)
              have n4_ := Aside0.mk (below_step (by repeat (first | (with_reducible first | exact HB.out | apply below_alloc | apply pw_below_drewN | apply below_drew1 | refine below_set ?_ GE360.out | refine below_set ?_ GE365.out) | exact HB.out)) hb)
              clear HO_366001
              clear BK360
              clear BK365
              clear HB
              have HO_366001 := n0_
              have HO377 := n1_
              have BK360 := n2_
              have BK365 := n3_
              have HB := n4_
              clear n0_ n1_ n2_ n3_ n4_
              (try clear hb)
              (try clear hb2)
              (try clear hk)
              (try clear hi)
              (try clear ho0)
              obtain ⟨Ao25, co25, eo25⟩ := Kd.R_slice HO_366001.out
              (first | subst eo25 | (injection eo25 with f1_ f2_ f3_; have f4_ := f1_.symm; have f5_ := f3_.symm; clear f1_ f2_ f3_; subst f4_; subst f5_))
              obtain ⟨Ao26, co26, eo26⟩ := Kd.R_slice HO377.out
              (first | subst eo26 | (injection eo26 with f1_ f2_ f3_; have f4_ := f1_.symm; have f5_ := f3_.symm; clear f1_ f2_ f3_; subst f4_; subst f5_))
              refine hK.out _ _ ⟨(blk_cell BK365.out 0).trans rfl, (blk_cell BK365.out 1).trans rfl⟩ (fun hHeld => ?_)
              clear hK K
              refine norm_ (a' := ?_) ?_ ?_
              rotate_left
              · show Act.put _ (some 17) _ = _
                simp only [Act.put, List.setIfInBounds_toArray, List.set_cons_zero, List.set_cons_succ, i64_w, i32_w]
                rfl
              refine one_ (i := 2) (N := some 18) #[true, true, true, false] rfl rfl (by kernel_rfl) (by decide) (fun K hK => ?_)
              refine goes_ Tryz.func26 (by kernel_rfl) rfl #[.agg #[.bool x366000_2, .slice Ao25 x366001_2.length co25], .agg #[.bool t374, .slice Ao26 t375.length co26]] (by rfl) rfl rfl (by (try simp only [List.map_toArray, List.map_cons, List.map_nil]); first | done | rfl | (simp only [List.length_drop, List.length_take]; rfl)) ?_
              with_reducible refine (spec_Int_Mul.calls k2 x366000_2 _ _ x366001_2 t374 _ _ t375 t378 t379 _ ?side1 ?side2 ?side3 ?side4 A22.out).mono ?_
              (case side1 => repeat (first | exact (Kd.R_reads' HO_366001.out).2.2 | (with_reducible refine Kd.C_alloc ?_ _) | (with_reducible refine Kd.C_drewN ?_ _) | (with_reducible refine Kd.C_drew ?_)))
              (case side2 => exact (Kd.R_reads' HO_366001.out).2.1)
              (case side3 => repeat (first | exact (Kd.R_reads' HO377.out).2.2 | (with_reducible refine Kd.C_alloc ?_ _) | (with_reducible refine Kd.C_drewN ?_ _) | (with_reducible refine Kd.C_drew ?_)))
              (case side4 => exact (Kd.R_reads' HO377.out).2.1)
              rintro e w27 ⟨v380, rfl, ho0, hb⟩
              refine ⟨_, rfl, ?_⟩
              have n0_ := Aside0.mk (Kd.R_elder' (by (with_reducible repeat (first | apply Kd.R_alloc | apply Kd.R_drewN | apply Kd.R_drew)); exact HO_366001.out) (Kd.R_base ho0) hb)
              have n1_ := Aside0.mk (Kd.R_elder' (by (with_reducible repeat (first | apply Kd.R_alloc | apply Kd.R_drewN | apply Kd.R_drew)); exact HO377.out) (Kd.R_base ho0) hb)
              have n2_ := Aside0.mk (Kd.R_lower (Kd.R_new' (Kd.R_new' ho0 (Kd.R_lt (by (with_reducible repeat (first | apply Kd.R_alloc | apply Kd.R_drewN | apply Kd.R_drew)); exact HO_366001.out))) (Kd.R_lt (by (with_reducible repeat (first | apply Kd.R_alloc | apply Kd.R_drewN | apply Kd.R_drew)); exact HO377.out))) (below_size (by repeat (first | (with_reducible first | exact HB.out | apply below_alloc | apply pw_below_drewN | apply below_drew1 | refine below_set ?_ GE360.out | refine below_set ?_ GE365.out) | exact HB.out))))
              have n3_ := Aside0.mk (blk_below (g := gb360) (o := .cells #[.bool false, .slice none 0 0] 37 (0, 0)) (by (with_reducible repeat (first | refine blk_drewN ?_ _ | refine blk_drew ?_ | refine blk_alloc ?_ _)); exact BK360.out) hb)
              have n4_ := Aside0.mk (blk_below (g := gb365) (o := .cells #[.bool x366000_2, .slice Ao25 x366001_2.length co25] 37 (0, 0)) (by (with_reducible repeat (first | refine blk_drewN ?_ _ | refine blk_drew ?_ | refine blk_alloc ?_ _)); exact BK365.out) hb)
              have n5_ := Aside0.mk (below_step (by repeat (first | (with_reducible first | exact HB.out | apply below_alloc | apply pw_below_drewN | apply below_drew1 | refine below_set ?_ GE360.out | refine below_set ?_ GE365.out) | exact HB.out)) hb)
              clear HO_366001
              clear HO377
              clear BK360
              clear BK365
              clear HB
              have HO_366001 := n0_
              have HO377 := n1_
              have HO381 := n2_
              have BK360 := n3_
              have BK365 := n4_
              have HB := n5_
              clear n0_ n1_ n2_ n3_ n4_ n5_
              (try clear hb)
              (try clear hb2)
              (try clear hk)
              (try clear hi)
              (try clear ho0)
              obtain ⟨Ao29, co29, eo29⟩ := Kd.R_slice HO381.out
              (first | subst eo29 | (injection eo29 with f1_ f2_ f3_; have f4_ := f1_.symm; have f5_ := f3_.symm; clear f1_ f2_ f3_; subst f4_; subst f5_))
              refine hK.out _ _ ⟨(blk_cell BK365.out 0).trans rfl, (blk_cell BK365.out 1).trans rfl⟩ (fun hHeld => ?_)
              clear hK K
              refine norm_ (a' := ?_) ?_ ?_
              rotate_left
              · show Act.put _ (some 18) _ = _
                simp only [Act.put, List.setIfInBounds_toArray, List.set_cons_zero, List.set_cons_succ, i64_w, i32_w]
                rfl
              refine last_ (i := 3) (N := none) #[true, true, true, true] rfl rfl (by kernel_rfl) (by decide) (fun K hK => ?_)
              have hs28 : w27.cell? ⟨gb365, 0, none⟩ = some (.bool x366000_2) := (blk_cell BK365.out 0).trans rfl
              have hfs28 := blk_frozen BK365.out 0
              have hns28_0 := NB360_365.out
              have hms28_0 := NB365_360.out
              have hs30 : w27.cell? ⟨gb365, 1, none⟩ = some (.slice Ao25 x366001_2.length co25) := (blk_cell BK365.out 1).trans rfl
              have hfs30 := blk_frozen BK365.out 1
              have hns30_0 := NB360_365.out
              have hms30_0 := NB365_360.out
              refine skip_ (w1 := ?_) (by rfl) rfl ?_ ?_
              rotate_left
              · go_simp
                rfl
              refine hK.out _ _ ?_
              clear hK K
              refine done_ (by kernel_rfl) ?_
              try go_wp2
              go_roundg k2
              case measure => have := HK1.out; have := HK2.out; omega
              case rel => exact ⟨(wrap64 (x0_2 - 1)), (t378), (t379), (.slice Ao29 t379.length co29), (by first | rfl | (simp; done) | (simp [*]; done)), H', ⟨by have := HK1.out; have := HK2.out; omega⟩, ⟨by (with_reducible repeat (first | apply Kd.R_alloc | apply Kd.R_drewN | apply Kd.R_drew)); exact Kd.R_mono (Kd.R_far (p := ⟨gb365, 1, none⟩) (Kd.R_far (p := ⟨gb365, 0, none⟩) (Kd.R_types HO381.out BK365.out (by decide)) (fun _ hk => hk.2) (.bool t378)) (fun _ hk => hk.2) (.slice Ao29 t379.length co29)) (fun _ hk => trivial)⟩, ⟨by (with_reducible repeat (first | refine blk_drewN ?_ _ | refine blk_drew ?_ | refine blk_alloc ?_ _)); refine blk_far ?_ NB360_365.out _; (with_reducible repeat (first | refine blk_drewN ?_ _ | refine blk_drew ?_ | refine blk_alloc ?_ _)); refine blk_far ?_ NB360_365.out _; (with_reducible repeat (first | refine blk_drewN ?_ _ | refine blk_drew ?_ | refine blk_alloc ?_ _)); exact BK360.out⟩, ⟨by (with_reducible repeat (first | refine blk_drewN ?_ _ | refine blk_drew ?_ | refine blk_alloc ?_ _)); refine blk_put (cs := #[.bool t378, .slice Ao25 x366001_2.length co25]) ?_ 1 _ rfl; (with_reducible repeat (first | refine blk_drewN ?_ _ | refine blk_drew ?_ | refine blk_alloc ?_ _)); refine blk_put (cs := #[.bool x366000_2, .slice Ao25 x366001_2.length co25]) ?_ 0 _ rfl; (with_reducible repeat (first | refine blk_drewN ?_ _ | refine blk_drew ?_ | refine blk_alloc ?_ _)); exact BK365.out⟩, ⟨by repeat (first | (with_reducible first | exact HB.out | apply below_alloc | apply pw_below_drewN | apply below_drew1 | refine below_set ?_ GE360.out | refine below_set ?_ GE365.out) | exact HB.out)⟩⟩
            · rw [if_neg c20] at H
              have c20b0 : decide (0 < x0_2) = false := decide_eq_false c20
              clear c20
              simp only [Option.some.injEq, Prod.mk.injEq] at H
              obtain ⟨rfl, rfl⟩ := H
              have hnb31 := NB365_360.out
              have hnc31 := NB360_365.out
              have hcz32_0 : wr.cell? ⟨gb365, 0, none⟩ = some (.bool x366000_2) := (blk_cell BK365.out 0).trans rfl
              have hcz32_1 : wr.cell? ⟨gb365, 1, none⟩ = some (u366001) := (blk_cell BK365.out 1).trans rfl
              have hfz32_0 := blk_frozen BK365.out 0
              have hfz32_1 := blk_frozen BK365.out 1
              have hcz33_0 : wr.cell? ⟨gb360, 0, none⟩ = some (.bool false) := (blk_cell BK360.out 0).trans rfl
              have hcz33_1 : wr.cell? ⟨gb360, 1, none⟩ = some (.slice none 0 0) := (blk_cell BK360.out 1).trans rfl
              have hfz33_0 := blk_frozen BK360.out 0
              have hfz33_1 := blk_frozen BK360.out 1
              obtain ⟨Ao34, co34, eo34⟩ := Kd.R_slice HO_366001.out
              subst eo34
              go_wp2
              refine bodyPost_ret (results_cell_row rfl _ _ gb360 37 #[.bool x366000_2, .slice Ao34 x366001_2.length co34] (0, 0) _ rfl (by (with_reducible repeat (first | refine blk_drewN ?_ _ | refine blk_drew ?_ | refine blk_alloc ?_ _)); refine blk_put (cs := #[.bool x366000_2, .slice none 0 0]) ?_ 1 _ rfl; (with_reducible repeat (first | refine blk_drewN ?_ _ | refine blk_drew ?_ | refine blk_alloc ?_ _)); refine blk_put (cs := #[.bool false, .slice none 0 0]) ?_ 0 _ rfl; (with_reducible repeat (first | refine blk_drewN ?_ _ | refine blk_drew ?_ | refine blk_alloc ?_ _)); exact BK360.out) Tryz.underlying37 rfl (by kernel_rfl)) rfl ?_
              exact ⟨_, by first | rfl | (simp [errW_none, errW_some] <;> rfl) | (simp [*, errW_none, errW_some] <;> rfl), by (with_reducible repeat (first | apply Kd.R_alloc | apply Kd.R_drewN | apply Kd.R_drew)); exact Kd.R_mono (Kd.R_far (p := ⟨gb360, 1, none⟩) (Kd.R_far (p := ⟨gb360, 0, none⟩) (Kd.R_types HO_366001.out BK360.out (by decide)) (fun _ hk => hk.2) (.bool x366000_2)) (fun _ hk => hk.2) (.slice Ao34 x366001_2.length co34)) (fun _ hk => trivial), by repeat (first | (with_reducible first | exact HB.out | apply below_alloc | apply pw_below_drewN | apply below_drew1 | refine below_set ?_ GE360.out | refine below_set ?_ GE365.out) | exact HB.out)⟩


/-! ### spec_Int_Sign: function 40 -/
set_option maxHeartbeats 8000000 in
set_option maxRecDepth 100000 in
theorem spec_Int_Sign.calls (a0_0 : Bool) (A0_1 : Option Addr) (c0_1 : Nat) (l0_1 : List Int) (r : Int) (w : World) (hr0_1 : Kd.C (Kd.int .u8) w A0_1 l0_1.length l0_1) (hc0_1 : l0_1.length ≤ c0_1) (h : spec_Int_Sign.f a0_0 l0_1 = some r) :
    Calls Tryz.prog 40 #[.agg #[.bool a0_0, .slice A0_1 l0_1.length c0_1]] w fun e w' => e = .returned (.int .i64 r) ∧ Below w.heap.size w w' := by
  have hu37 := Tryz.underlying37
  have HR0_1 := Aside0.mk hr0_1
  have HC0_1 := Aside0.mk hc0_1
  clear hr0_1 hc0_1
  have HB := Aside0.mk (Below.refl w.heap.size w)
  have H : ((spec_Int_Zero.f a0_0 l0_1).bind fun t383 => (if t383 = true then (some 0) else (if a0_0 = true then (some (-1)) else (some 1)))) = some r := h
  clear h
  replace H := Option.bind_eq_some_iff.mp H
  obtain ⟨t383, A20, H⟩ := H
  replace H : (if t383 = true then (some 0) else (if a0_0 = true then (some (-1)) else (some 1))) = some r := H
  have A2 := Aside0.mk A20
  clear A20
  by_cases c3 : t383 = true
  · subst c3
    have H1 : (some 0) = some r := by rw [if_pos rfl] at H; exact H
    clear H
    have H := H1
    clear H1
    obtain rfl := Option.some.inj H
    go_enter Tryz.func40, Tryz.ntmps40
    go_wp2_with (first | ((with_reducible refine gate_dst (N := 1) rfl ?_); refine box_event ?hg (N := 1) ?hd (cs := #[.bool a0_0, .slice A0_1 l0_1.length c0_1]) (t := 37) ?hr ?_; (case hd => rfl); (case hg => rfl); (case hr => first | (go_simp; done) | (go_simp; rfl)); intro gb382 hg w4 hbox hb; have n0_ := Aside0.mk (below_step (by repeat (first | (with_reducible first | exact HB.out | apply below_alloc | apply pw_below_drewN | apply below_drew1) | exact HB.out)) hb); have n1_ := Aside0.mk (hbox); have n2_ := Aside0.mk ((by rw [hg]; exact (below_size (by repeat (first | (with_reducible first | exact HB.out | apply below_alloc | apply pw_below_drewN | apply below_drew1) | exact HB.out))) : w.heap.size ≤ gb382)); have n3_ := Aside0.mk ((by rw [hg]; exact (below_size (by repeat (first | (with_reducible first | exact HB.out | apply below_alloc | apply pw_below_drewN | apply below_drew1) | exact HB.out))) : w.heap.size ≤ gb382)); clear HB; have HB := n0_; have BK382 := n1_; have GW382 := n2_; have GE382 := n3_; clear n0_ n1_ n2_ n3_; clear hb hbox hg; have hcz5_0 : w4.cell? ⟨gb382, 0, none⟩ = some (.bool a0_0) := (blk_cell BK382.out 0).trans rfl; have hcz5_1 : w4.cell? ⟨gb382, 1, none⟩ = some (.slice A0_1 l0_1.length c0_1) := (blk_cell BK382.out 1).trans rfl; have hfz5_0 := blk_frozen BK382.out 0; have hfz5_1 := blk_frozen BK382.out 1) | ((with_reducible refine gate_callee (f := 37) rfl ?_); refine goesL_ (some 4) rfl rfl Tryz.func37 (by kernel_rfl) rfl #[.agg #[.bool a0_0, .slice A0_1 l0_1.length c0_1]] rfl (by (try simp only [List.map_toArray, List.map_cons, List.map_nil]); first | done | rfl | (simp only [List.length_drop, List.length_take]; rfl)) ?_; (with_reducible refine (spec_Int_Zero.calls a0_0 _ _ l0_1 true _ ?side1 ?side2 A2.out).mono ?_); (case side1 => repeat (first | exact (Kd.C_below HR0_1.out HB.out) | (with_reducible refine Kd.C_alloc ?_ _) | (with_reducible refine Kd.C_drewN ?_ _) | (with_reducible refine Kd.C_drew ?_))); (case side2 => exact HC0_1.out); rintro e w6 ⟨rfl, hb⟩; refine ⟨_, rfl, ?_⟩; have n0_ := Aside0.mk (blk_below (g := gb382) (o := .cells #[.bool a0_0, .slice A0_1 l0_1.length c0_1] 37 (0, 0)) (by (with_reducible repeat (first | refine blk_drewN ?_ _ | refine blk_drew ?_ | refine blk_alloc ?_ _)); exact BK382.out) hb); have n1_ := Aside0.mk (below_step (by repeat (first | (with_reducible first | exact HB.out | apply below_alloc | apply pw_below_drewN | apply below_drew1 | refine below_set ?_ GE382.out) | exact HB.out)) hb); clear BK382; clear HB; have BK382 := n0_; have HB := n1_; clear n0_ n1_; (try clear hb); (try clear hb2); (try clear hk); (try clear hi)))
    go_ret
    exact ⟨by first | rfl | (simp [errW_none, errW_some] <;> rfl) | (simp [*, errW_none, errW_some] <;> rfl), by repeat (first | (with_reducible first | exact HB.out | apply below_alloc | apply pw_below_drewN | apply below_drew1 | refine below_set ?_ GE382.out) | exact HB.out)⟩
  · replace c3 := Bool.eq_false_iff.mpr c3
    subst c3
    have H1 : (if a0_0 = true then (some (-1)) else (some 1)) = some r := by rw [if_neg (show ¬ (false = true) by decide)] at H; exact H
    clear H
    have H := H1
    clear H1
    by_cases c7 : a0_0 = true
    · subst c7
      have H1 : (some (-1)) = some r := by rw [if_pos rfl] at H; exact H
      clear H
      have H := H1
      clear H1
      obtain rfl := Option.some.inj H
      go_enter Tryz.func40, Tryz.ntmps40
      go_wp2_with (first | ((with_reducible refine gate_dst (N := 1) rfl ?_); refine box_event ?hg (N := 1) ?hd (cs := #[.bool true, .slice A0_1 l0_1.length c0_1]) (t := 37) ?hr ?_; (case hd => rfl); (case hg => rfl); (case hr => first | (go_simp; done) | (go_simp; rfl)); intro gb382 hg w8 hbox hb; have n0_ := Aside0.mk (below_step (by repeat (first | (with_reducible first | exact HB.out | apply below_alloc | apply pw_below_drewN | apply below_drew1) | exact HB.out)) hb); have n1_ := Aside0.mk (hbox); have n2_ := Aside0.mk ((by rw [hg]; exact (below_size (by repeat (first | (with_reducible first | exact HB.out | apply below_alloc | apply pw_below_drewN | apply below_drew1) | exact HB.out))) : w.heap.size ≤ gb382)); have n3_ := Aside0.mk ((by rw [hg]; exact (below_size (by repeat (first | (with_reducible first | exact HB.out | apply below_alloc | apply pw_below_drewN | apply below_drew1) | exact HB.out))) : w.heap.size ≤ gb382)); clear HB; have HB := n0_; have BK382 := n1_; have GW382 := n2_; have GE382 := n3_; clear n0_ n1_ n2_ n3_; clear hb hbox hg; have hcz9_0 : w8.cell? ⟨gb382, 0, none⟩ = some (.bool true) := (blk_cell BK382.out 0).trans rfl; have hcz9_1 : w8.cell? ⟨gb382, 1, none⟩ = some (.slice A0_1 l0_1.length c0_1) := (blk_cell BK382.out 1).trans rfl; have hfz9_0 := blk_frozen BK382.out 0; have hfz9_1 := blk_frozen BK382.out 1) | ((with_reducible refine gate_callee (f := 37) rfl ?_); refine goesL_ (some 4) rfl rfl Tryz.func37 (by kernel_rfl) rfl #[.agg #[.bool true, .slice A0_1 l0_1.length c0_1]] rfl (by (try simp only [List.map_toArray, List.map_cons, List.map_nil]); first | done | rfl | (simp only [List.length_drop, List.length_take]; rfl)) ?_; (with_reducible refine (spec_Int_Zero.calls true _ _ l0_1 false _ ?side1 ?side2 A2.out).mono ?_); (case side1 => repeat (first | exact (Kd.C_below HR0_1.out HB.out) | (with_reducible refine Kd.C_alloc ?_ _) | (with_reducible refine Kd.C_drewN ?_ _) | (with_reducible refine Kd.C_drew ?_))); (case side2 => exact HC0_1.out); rintro e w10 ⟨rfl, hb⟩; refine ⟨_, rfl, ?_⟩; have n0_ := Aside0.mk (blk_below (g := gb382) (o := .cells #[.bool true, .slice A0_1 l0_1.length c0_1] 37 (0, 0)) (by (with_reducible repeat (first | refine blk_drewN ?_ _ | refine blk_drew ?_ | refine blk_alloc ?_ _)); exact BK382.out) hb); have n1_ := Aside0.mk (below_step (by repeat (first | (with_reducible first | exact HB.out | apply below_alloc | apply pw_below_drewN | apply below_drew1 | refine below_set ?_ GE382.out) | exact HB.out)) hb); clear BK382; clear HB; have BK382 := n0_; have HB := n1_; clear n0_ n1_; (try clear hb); (try clear hb2); (try clear hk); (try clear hi); have hcz11_0 : w10.cell? ⟨gb382, 0, none⟩ = some (.bool true) := (blk_cell BK382.out 0).trans rfl; have hcz11_1 : w10.cell? ⟨gb382, 1, none⟩ = some (.slice A0_1 l0_1.length c0_1) := (blk_cell BK382.out 1).trans rfl; have hfz11_0 := blk_frozen BK382.out 0; have hfz11_1 := blk_frozen BK382.out 1))
      go_ret
      exact ⟨by first | rfl | (simp [errW_none, errW_some] <;> rfl) | (simp [*, errW_none, errW_some] <;> rfl), by repeat (first | (with_reducible first | exact HB.out | apply below_alloc | apply pw_below_drewN | apply below_drew1 | refine below_set ?_ GE382.out) | exact HB.out)⟩
    · replace c7 := Bool.eq_false_iff.mpr c7
      subst c7
      have H1 : (some 1) = some r := by rw [if_neg (show ¬ (false = true) by decide)] at H; exact H
      clear H
      have H := H1
      clear H1
      obtain rfl := Option.some.inj H
      go_enter Tryz.func40, Tryz.ntmps40
      go_wp2_with (first | ((with_reducible refine gate_dst (N := 1) rfl ?_); refine box_event ?hg (N := 1) ?hd (cs := #[.bool false, .slice A0_1 l0_1.length c0_1]) (t := 37) ?hr ?_; (case hd => rfl); (case hg => rfl); (case hr => first | (go_simp; done) | (go_simp; rfl)); intro gb382 hg w12 hbox hb; have n0_ := Aside0.mk (below_step (by repeat (first | (with_reducible first | exact HB.out | apply below_alloc | apply pw_below_drewN | apply below_drew1) | exact HB.out)) hb); have n1_ := Aside0.mk (hbox); have n2_ := Aside0.mk ((by rw [hg]; exact (below_size (by repeat (first | (with_reducible first | exact HB.out | apply below_alloc | apply pw_below_drewN | apply below_drew1) | exact HB.out))) : w.heap.size ≤ gb382)); have n3_ := Aside0.mk ((by rw [hg]; exact (below_size (by repeat (first | (with_reducible first | exact HB.out | apply below_alloc | apply pw_below_drewN | apply below_drew1) | exact HB.out))) : w.heap.size ≤ gb382)); clear HB; have HB := n0_; have BK382 := n1_; have GW382 := n2_; have GE382 := n3_; clear n0_ n1_ n2_ n3_; clear hb hbox hg; have hcz13_0 : w12.cell? ⟨gb382, 0, none⟩ = some (.bool false) := (blk_cell BK382.out 0).trans rfl; have hcz13_1 : w12.cell? ⟨gb382, 1, none⟩ = some (.slice A0_1 l0_1.length c0_1) := (blk_cell BK382.out 1).trans rfl; have hfz13_0 := blk_frozen BK382.out 0; have hfz13_1 := blk_frozen BK382.out 1) | ((with_reducible refine gate_callee (f := 37) rfl ?_); refine goesL_ (some 4) rfl rfl Tryz.func37 (by kernel_rfl) rfl #[.agg #[.bool false, .slice A0_1 l0_1.length c0_1]] rfl (by (try simp only [List.map_toArray, List.map_cons, List.map_nil]); first | done | rfl | (simp only [List.length_drop, List.length_take]; rfl)) ?_; (with_reducible refine (spec_Int_Zero.calls false _ _ l0_1 false _ ?side1 ?side2 A2.out).mono ?_); (case side1 => repeat (first | exact (Kd.C_below HR0_1.out HB.out) | (with_reducible refine Kd.C_alloc ?_ _) | (with_reducible refine Kd.C_drewN ?_ _) | (with_reducible refine Kd.C_drew ?_))); (case side2 => exact HC0_1.out); rintro e w14 ⟨rfl, hb⟩; refine ⟨_, rfl, ?_⟩; have n0_ := Aside0.mk (blk_below (g := gb382) (o := .cells #[.bool false, .slice A0_1 l0_1.length c0_1] 37 (0, 0)) (by (with_reducible repeat (first | refine blk_drewN ?_ _ | refine blk_drew ?_ | refine blk_alloc ?_ _)); exact BK382.out) hb); have n1_ := Aside0.mk (below_step (by repeat (first | (with_reducible first | exact HB.out | apply below_alloc | apply pw_below_drewN | apply below_drew1 | refine below_set ?_ GE382.out) | exact HB.out)) hb); clear BK382; clear HB; have BK382 := n0_; have HB := n1_; clear n0_ n1_; (try clear hb); (try clear hb2); (try clear hk); (try clear hi); have hcz15_0 : w14.cell? ⟨gb382, 0, none⟩ = some (.bool false) := (blk_cell BK382.out 0).trans rfl; have hcz15_1 : w14.cell? ⟨gb382, 1, none⟩ = some (.slice A0_1 l0_1.length c0_1) := (blk_cell BK382.out 1).trans rfl; have hfz15_0 := blk_frozen BK382.out 0; have hfz15_1 := blk_frozen BK382.out 1))
      go_ret
      exact ⟨by first | rfl | (simp [errW_none, errW_some] <;> rfl) | (simp [*, errW_none, errW_some] <;> rfl), by repeat (first | (with_reducible first | exact HB.out | apply below_alloc | apply pw_below_drewN | apply below_drew1 | refine below_set ?_ GE382.out) | exact HB.out)⟩


/-! ### spec_order: function 41 -/
theorem spec_order.mono_l : ∀ k, (∀ y0 y1 y2, LeO (spec_order.l0 k y0 y1 y2) (spec_order.l0 (k + 1) y0 y1 y2))
  | 0 => fun _ _ _ r h => by simp [spec_order.l0] at h
  | k + 1 => by
    have ih0 := spec_order.mono_l k
    · intro y0 y1 y2
      unfold spec_order.l0
      repeat' first
      | (with_reducible exact ih0 _ _ _)
      | (with_reducible exact LeO.refl _)
      | (with_reducible exact LeO.none _)
      | (with_reducible refine LeO.ite ?_ ?_)
      | (with_reducible refine LeO.bind ?_ (fun _ => ?_))
      | exact ih0 _ _ _
      | exact LeO.none _
      | refine LeO.ite ?_ ?_
      | refine LeO.bind ?_ (fun _ => ?_)
theorem spec_order.mono : ∀ a0 a1 k, LeO (spec_order.f k a0 a1) (spec_order.f (k + 1) a0 a1) := by
  intro a0 a1 k
  have ih0 := spec_order.mono_l k
  unfold spec_order.f
  repeat' first
      | (with_reducible exact ih0 _ _ _)
      | (with_reducible exact LeO.refl _)
      | (with_reducible exact LeO.none _)
      | (with_reducible refine LeO.ite ?_ ?_)
      | (with_reducible refine LeO.bind ?_ (fun _ => ?_))
      | exact ih0 _ _ _
      | exact LeO.none _
      | refine LeO.ite ?_ ?_
      | refine LeO.bind ?_ (fun _ => ?_)
set_option maxHeartbeats 8000000 in
set_option maxRecDepth 100000 in
theorem spec_order.calls (k : Nat) (A0 : Option Addr) (c0 : Nat) (l0 : List Int) (A1 : Option Addr) (c1 : Nat) (l1 : List Int) (r : Int) (w : World) (hr0 : Kd.C (Kd.int .u8) w A0 l0.length l0) (hc0 : l0.length ≤ c0) (hr1 : Kd.C (Kd.int .u8) w A1 l1.length l1) (hc1 : l1.length ≤ c1) (h : spec_order.f k l0 l1 = some r) :
    Calls Tryz.prog 41 #[.slice A0 l0.length c0, .slice A1 l1.length c1] w fun e w' => e = .returned (.int .i64 r) ∧ Drawn0 w w' := by
  have HR0 := Aside0.mk hr0
  have HC0 := Aside0.mk hc0
  clear hr0 hc0
  have HR1 := Aside0.mk hr1
  have HC1 := Aside0.mk hc1
  clear hr1 hc1
  have H : (if (l0.length : Int) = (l1.length : Int) then (spec_order.l0 k l0 l1 0) else (if (l0.length : Int) < (l1.length : Int) then (some (-1)) else (some 1))) = some r := h
  clear h
  by_cases c3 : (l0.length : Int) = (l1.length : Int)
  · rw [if_pos c3] at H
    have c3b0 : ((l0.length : Int) == (l1.length : Int)) = true := beq_iff_eq.mpr c3
    have c3b1 : ((l0.length : Int) != (l1.length : Int)) = false := bne_eq_false_iff_eq.mpr c3
    have c3b2 : (l0.length == l1.length) = true := by first | simpa using c3 | (simp at c3 ⊢; omega)
    clear c3
    have H' := Aside0.mk H
    clear H
    go_enter Tryz.func41, Tryz.ntmps41
    go_wp2
    go_loopg [5] k (fun kq v5 w' => ∃ (x5_1 : Int), v5 = .int .i64 x5_1 ∧ Aside0 (spec_order.l0 kq l0 l1 x5_1 = some r) ∧ Aside0 (kq ≤ k) ∧ Drawn0 w w')
    case atStart => exact ⟨(0), (by first | rfl | (simp; done) | (simp [*]; done)), H', ⟨Nat.le_refl _⟩, by repeat (first | exact Drawn0.refl _ | apply Drawn0.step)⟩
    case round =>
      clear H'
      try clear c1
      try clear p2
      try clear c3
      try clear c3b0
      try clear c3b1
      try clear c3b2
      obtain ⟨x5_1, rfl, HA, HK1, ⟨m1, rfl⟩⟩ := hrel
      cases gk with
      | zero => exact absurd HA.out (by simp [spec_order.l0])
      | succ k1 =>
        have H := HA.out
        clear HA
        simp only [spec_order.l0] at H
        by_cases c4 : x5_1 < (l0.length : Int)
        · rw [if_pos c4] at H
          have c4b0 : decide (x5_1 < (l0.length : Int)) = true := decide_eq_true c4
          clear c4
          by_cases c5 : 0 ≤ x5_1
          · rw [if_pos c5] at H
            have c5b0 : decide (0 ≤ x5_1) = true := decide_eq_true c5
            clear c5
            by_cases c6 : x5_1 < (l1.length : Int)
            · rw [if_pos c6] at H
              have c6b0 : decide (x5_1 < (l1.length : Int)) = true := decide_eq_true c6
              clear c6
              by_cases c7 : (rd l0 x5_1) = (rd l1 x5_1)
              · rw [if_pos c7] at H
                have c7b0 : ((rd l0 x5_1) == (rd l1 x5_1)) = true := beq_iff_eq.mpr c7
                have c7b1 : ((rd l0 x5_1) != (rd l1 x5_1)) = false := bne_eq_false_iff_eq.mpr c7
                clear c7
                have H' := Aside0.mk H
                clear H
                have p384 : 0 ≤ (x5_1 : Int) := of_decide_eq_true (by first | (with_reducible assumption) | assumption)
                have q384 : x5_1 < (l0.length : Int) := of_decide_eq_true (by first | (with_reducible assumption) | assumption)
                obtain ⟨ad384, e384, hx384_0⟩ := Kd.at_int HR0.out x5_1 p384 q384
                cases e384
                replace p384 := eq_true p384
                replace q384 := eq_true q384
                have p385 : 0 ≤ (x5_1 : Int) := of_decide_eq_true (by first | (with_reducible assumption) | assumption)
                have q385 : x5_1 < (l1.length : Int) := of_decide_eq_true (by first | (with_reducible assumption) | assumption)
                obtain ⟨ad385, e385, hx385_0⟩ := Kd.at_int HR1.out x5_1 p385 q385
                cases e385
                replace p385 := eq_true p385
                replace q385 := eq_true q385
                go_wp2
                repeat (go_quiet (fail); try go_wp2)
                go_roundg k1
                case measure => have := HK1.out; omega
                case rel => exact ⟨(wrap64 (x5_1 + 1)), (by first | rfl | (simp; done) | (simp [*]; done)), H', ⟨by have := HK1.out; omega⟩, by repeat (first | exact Drawn0.refl _ | apply Drawn0.step)⟩
              · rw [if_neg c7] at H
                have c7b0 : ((rd l0 x5_1) == (rd l1 x5_1)) = false := beq_eq_false_iff_ne.mpr c7
                have c7b1 : ((rd l0 x5_1) != (rd l1 x5_1)) = true := bne_iff_ne.mpr c7
                by_cases c8 : (rd l0 x5_1) < (rd l1 x5_1)
                · rw [if_pos c8] at H
                  have c8b0 : decide ((rd l0 x5_1) < (rd l1 x5_1)) = true := decide_eq_true c8
                  clear c8
                  obtain rfl := Option.some.inj H
                  have p384 : 0 ≤ (x5_1 : Int) := of_decide_eq_true (by first | (with_reducible assumption) | assumption)
                  have q384 : x5_1 < (l0.length : Int) := of_decide_eq_true (by first | (with_reducible assumption) | assumption)
                  obtain ⟨ad384, e384, hx384_0⟩ := Kd.at_int HR0.out x5_1 p384 q384
                  cases e384
                  replace p384 := eq_true p384
                  replace q384 := eq_true q384
                  have p385 : 0 ≤ (x5_1 : Int) := of_decide_eq_true (by first | (with_reducible assumption) | assumption)
                  have q385 : x5_1 < (l1.length : Int) := of_decide_eq_true (by first | (with_reducible assumption) | assumption)
                  obtain ⟨ad385, e385, hx385_0⟩ := Kd.at_int HR1.out x5_1 p385 q385
                  cases e385
                  replace p385 := eq_true p385
                  replace q385 := eq_true q385
                  have p386 : 0 ≤ (x5_1 : Int) := of_decide_eq_true (by first | (with_reducible assumption) | assumption)
                  have q386 : x5_1 < (l0.length : Int) := of_decide_eq_true (by first | (with_reducible assumption) | assumption)
                  obtain ⟨ad386, e386, hx386_0⟩ := Kd.at_int HR0.out x5_1 p386 q386
                  obtain rfl : ad384 = ad386 := (by injection e386)
                  replace p386 := eq_true p386
                  replace q386 := eq_true q386
                  have p387 : 0 ≤ (x5_1 : Int) := of_decide_eq_true (by first | (with_reducible assumption) | assumption)
                  have q387 : x5_1 < (l1.length : Int) := of_decide_eq_true (by first | (with_reducible assumption) | assumption)
                  obtain ⟨ad387, e387, hx387_0⟩ := Kd.at_int HR1.out x5_1 p387 q387
                  obtain rfl : ad385 = ad387 := (by injection e387)
                  replace p387 := eq_true p387
                  replace q387 := eq_true q387
                  go_wp2
                  repeat (go_quiet (fail); try go_wp2)
                  go_ret
                  exact ⟨by first | rfl | (simp; done) | (simp [*]; done), by repeat (first | exact Drawn0.refl _ | apply Drawn0.step)⟩
                · rw [if_neg c8] at H
                  have c8b0 : decide ((rd l0 x5_1) < (rd l1 x5_1)) = false := decide_eq_false c8
                  clear c8
                  obtain rfl := Option.some.inj H
                  have p384 : 0 ≤ (x5_1 : Int) := of_decide_eq_true (by first | (with_reducible assumption) | assumption)
                  have q384 : x5_1 < (l0.length : Int) := of_decide_eq_true (by first | (with_reducible assumption) | assumption)
                  obtain ⟨ad384, e384, hx384_0⟩ := Kd.at_int HR0.out x5_1 p384 q384
                  cases e384
                  replace p384 := eq_true p384
                  replace q384 := eq_true q384
                  have p385 : 0 ≤ (x5_1 : Int) := of_decide_eq_true (by first | (with_reducible assumption) | assumption)
                  have q385 : x5_1 < (l1.length : Int) := of_decide_eq_true (by first | (with_reducible assumption) | assumption)
                  obtain ⟨ad385, e385, hx385_0⟩ := Kd.at_int HR1.out x5_1 p385 q385
                  cases e385
                  replace p385 := eq_true p385
                  replace q385 := eq_true q385
                  have p386 : 0 ≤ (x5_1 : Int) := of_decide_eq_true (by first | (with_reducible assumption) | assumption)
                  have q386 : x5_1 < (l0.length : Int) := of_decide_eq_true (by first | (with_reducible assumption) | assumption)
                  obtain ⟨ad386, e386, hx386_0⟩ := Kd.at_int HR0.out x5_1 p386 q386
                  obtain rfl : ad384 = ad386 := (by injection e386)
                  replace p386 := eq_true p386
                  replace q386 := eq_true q386
                  have p387 : 0 ≤ (x5_1 : Int) := of_decide_eq_true (by first | (with_reducible assumption) | assumption)
                  have q387 : x5_1 < (l1.length : Int) := of_decide_eq_true (by first | (with_reducible assumption) | assumption)
                  obtain ⟨ad387, e387, hx387_0⟩ := Kd.at_int HR1.out x5_1 p387 q387
                  obtain rfl : ad385 = ad387 := (by injection e387)
                  replace p387 := eq_true p387
                  replace q387 := eq_true q387
                  go_wp2
                  repeat (go_quiet (fail); try go_wp2)
                  go_ret
                  exact ⟨by first | rfl | (simp; done) | (simp [*]; done), by repeat (first | exact Drawn0.refl _ | apply Drawn0.step)⟩
            · rw [if_neg c6] at H
              exact absurd H (by simp)
          · rw [if_neg c5] at H
            exact absurd H (by simp)
        · rw [if_neg c4] at H
          have c4b0 : decide (x5_1 < (l0.length : Int)) = false := decide_eq_false c4
          clear c4
          obtain rfl := Option.some.inj H
          go_wp2
          go_ret
          exact ⟨by first | rfl | (simp; done) | (simp [*]; done), by repeat (first | exact Drawn0.refl _ | apply Drawn0.step)⟩
  · rw [if_neg c3] at H
    have c3b0 : ((l0.length : Int) == (l1.length : Int)) = false := beq_eq_false_iff_ne.mpr c3
    have c3b1 : ((l0.length : Int) != (l1.length : Int)) = true := bne_iff_ne.mpr c3
    have c3b2 : (l0.length == l1.length) = false := by first | simpa using c3 | (simp at c3 ⊢; omega)
    by_cases c9 : (l0.length : Int) < (l1.length : Int)
    · rw [if_pos c9] at H
      have c9b0 : decide ((l0.length : Int) < (l1.length : Int)) = true := decide_eq_true c9
      have c9b1 : decide (l0.length < l1.length) = true := decide_eq_true (Int.ofNat_lt.mp c9)
      clear c9
      obtain rfl := Option.some.inj H
      go_enter Tryz.func41, Tryz.ntmps41
      go_wp2
      go_ret
      exact ⟨by first | rfl | (simp; done) | (simp [*]; done), by repeat (first | exact Drawn0.refl _ | apply Drawn0.step)⟩
    · rw [if_neg c9] at H
      have c9b0 : decide ((l0.length : Int) < (l1.length : Int)) = false := decide_eq_false c9
      have c9b1 : decide (l0.length < l1.length) = false := decide_eq_false (fun h => c9 (Int.ofNat_lt.mpr h))
      clear c9
      obtain rfl := Option.some.inj H
      go_enter Tryz.func41, Tryz.ntmps41
      go_wp2
      go_ret
      exact ⟨by first | rfl | (simp; done) | (simp [*]; done), by repeat (first | exact Drawn0.refl _ | apply Drawn0.step)⟩


end Go.Proofs.YtgjfjbghdpcllaaGreatDoor.I
