/- Contracts of this claim's functions: each call gives what the plain mirror (in the text D) gives; the proofs are the kit's print, over D's definitions. -/
import Derived.Test.YtodipcgilgigbaaGreatDoorC7
import Derived.Test.YtodipcgilgigbaaGreatDoorC8
import Derived.Test.YtodipcgilgigbaaGreatDoorD2
namespace Go.Proofs.YtodipcgilgigbaaGreatDoor.I
open Go.RowKit Go.Proofs.YtodipcgilgigbaaGreatDoorW.PrintWords Go.Proofs.YtodipcgilgigbaaGreatDoorW.PrintLast Go.Proofs.YtodipcgilgigbaaGreatDoorW.PrintMore
attribute [local go_sem] max2_int min2_int max_two min_two max_three min_three max_four min_four
set_option linter.unusedVariables false
set_option linter.unusedSimpArgs false

/-! ### spec_Int_Minus: function 35 -/
theorem spec_Int_Minus.mono : ∀ a0 a1 k, LeO (spec_Int_Minus.f k a0 a1) (spec_Int_Minus.f (k + 1) a0 a1) := by
  intro a0 a1 k
  unfold spec_Int_Minus.f
  repeat' first
      | (with_reducible exact spec_Of.mono _ _ _)
      | (with_reducible exact LeO.refl _)
      | (with_reducible exact LeO.none _)
      | (with_reducible refine LeO.ite ?_ ?_)
      | (with_reducible refine LeO.bind ?_ (fun _ => ?_))
      | exact spec_Of.mono _ _ _
      | exact LeO.none _
      | refine LeO.ite ?_ ?_
      | refine LeO.bind ?_ (fun _ => ?_)
set_option maxHeartbeats 8000000 in
set_option maxRecDepth 100000 in
theorem spec_Int_Minus.calls (k : Nat) (a0_0 : Bool) (A0_1 : Option Addr) (c0_1 : Nat) (l0_1 : List Int) (r1 : Bool) (r2 : List Int) (w : World) (hr0_1 : Kd.C (Kd.int .u8) w A0_1 l0_1.length l0_1) (hc0_1 : l0_1.length ≤ c0_1) (h : spec_Int_Minus.f k a0_0 l0_1 = some (r1, r2)) :
    Calls Tryz.prog 35 #[.agg #[.bool a0_0, .slice A0_1 l0_1.length c0_1]] w fun e w' => ∃ v1_ : Value, e = .returned (.agg #[.bool r1, v1_]) ∧ Kd.R (Kd.int .u8) 5 w' w.heap.size (fun _ => True) v1_ r2 ∧ Below w.heap.size w w' := by
  have hu24 := Tryz.underlying24
  have HR0_1 := Aside0.mk hr0_1
  have HC0_1 := Aside0.mk hc0_1
  clear hr0_1 hc0_1
  have HB := Aside0.mk (Below.refl w.heap.size w)
  have H : ((spec_Of.f k (!a0_0) l0_1).bind fun bt312 => (some (bt312.1, bt312.2))) = some (r1, r2) := h
  clear h
  replace H := Option.bind_eq_some_iff.mp H
  obtain ⟨⟨t312, t313⟩, A20, H⟩ := H
  replace H : (some (t312, t313)) = some (r1, r2) := H
  have A2 := Aside0.mk A20
  clear A20
  simp only [Option.some.injEq, Prod.mk.injEq] at H
  obtain ⟨rfl, rfl⟩ := H
  go_enter Tryz.func35, Tryz.ntmps35
  go_wp2_with (first | ((with_reducible refine gate_dst (N := 1) rfl ?_); refine box_event ?hg (N := 1) ?hd (cs := #[.bool a0_0, .slice A0_1 l0_1.length c0_1]) (t := 24) ?hr ?_; (case hd => rfl); (case hg => rfl); (case hr => first | (go_simp; done) | (go_simp; rfl)); intro gb310 hg w3 hbox hb; have n0_ := Aside0.mk (below_step HB.out hb); have n1_ := Aside0.mk (hbox); have n2_ := Aside0.mk ((by rw [hg]; exact (below_size HB.out) : w.heap.size ≤ gb310)); have n3_ := Aside0.mk ((by rw [hg]; exact (below_size HB.out) : w.heap.size ≤ gb310)); clear HB; have HB := n0_; have BK310 := n1_; have GW310 := n2_; have GE310 := n3_; clear n0_ n1_ n2_ n3_; clear hb hbox hg) | ((with_reducible refine gate_dst (N := 2) rfl ?_); refine box_event ?hg (N := 2) ?hd (cs := #[.bool false, .slice none 0 0]) (t := 24) ?hr ?_; (case hd => rfl); (case hg => rfl); (case hr => first | (go_simp; done) | (go_simp; rfl)); intro gb311 hg w4 hbox hb; have n0_ := Aside0.mk (blk_below BK310.out hb); have n1_ := Aside0.mk (below_step HB.out hb); have n2_ := Aside0.mk (hbox); have n3_ := Aside0.mk ((by rw [hg]; exact (below_size HB.out) : w.heap.size ≤ gb311)); have n4_ := Aside0.mk ((by rw [hg]; exact (below_size HB.out) : w.heap.size ≤ gb311)); have n5_ := Aside0.mk ((by rw [hg]; exact Nat.ne_of_lt (blk_lt BK310.out) : gb310 ≠ gb311)); have n6_ := Aside0.mk ((by rw [hg]; exact Nat.ne_of_gt (blk_lt BK310.out) : gb311 ≠ gb310)); clear BK310; clear HB; have BK310 := n0_; have HB := n1_; have BK311 := n2_; have GW311 := n3_; have GE311 := n4_; have NB310_311 := n5_; have NB311_310 := n6_; clear n0_ n1_ n2_ n3_ n4_ n5_ n6_; clear hb hbox hg; have hnb5 := NB310_311.out; have hnc5 := NB311_310.out; have hcz6_0 : w4.cell? ⟨gb310, 0, none⟩ = some (.bool a0_0) := (blk_cell BK310.out 0).trans rfl; have hcz6_1 : w4.cell? ⟨gb310, 1, none⟩ = some (.slice A0_1 l0_1.length c0_1) := (blk_cell BK310.out 1).trans rfl; have hfz6_0 := blk_frozen BK310.out 0; have hfz6_1 := blk_frozen BK310.out 1) | ((with_reducible refine gate_callee (f := 15) rfl ?_); refine goesL_ (some 8) rfl rfl Tryz.func15 (by kernel_rfl) rfl #[.bool (!a0_0), .slice A0_1 l0_1.length c0_1] rfl (by (try simp only [List.map_toArray, List.map_cons, List.map_nil]); first | done | rfl | (simp only [List.length_drop, List.length_take]; rfl)) ?_; (with_reducible refine (spec_Of.calls k (!a0_0) _ _ l0_1 t312 t313 _ ?side1 ?side2 A2.out).mono ?_); (case side1 => repeat (first | exact (Kd.C_below HR0_1.out HB.out) | (with_reducible refine Kd.C_alloc ?_ _) | (with_reducible refine Kd.C_drewN ?_ _) | (with_reducible refine Kd.C_drew ?_))); (case side2 => exact HC0_1.out); rintro e w7 ⟨v314, rfl, ho0, hb⟩; refine ⟨_, rfl, ?_⟩; have n0_ := Aside0.mk (Kd.R_lower ho0 (below_size HB.out)); have n1_ := Aside0.mk (blk_below BK310.out hb); have n2_ := Aside0.mk (blk_below BK311.out hb); have n3_ := Aside0.mk (below_step HB.out hb); clear BK310; clear BK311; clear HB; have HO315 := n0_; have BK310 := n1_; have BK311 := n2_; have HB := n3_; clear n0_ n1_ n2_ n3_; (try clear hb); (try clear hb2); (try clear hk); (try clear hi); (try clear ho0); have hcz8_0 : w7.cell? ⟨gb311, 0, none⟩ = some (.bool false) := (blk_cell BK311.out 0).trans rfl; have hcz8_1 : w7.cell? ⟨gb311, 1, none⟩ = some (.slice none 0 0) := (blk_cell BK311.out 1).trans rfl; have hfz8_0 := blk_frozen BK311.out 0; have hfz8_1 := blk_frozen BK311.out 1; obtain ⟨Ao9, co9, eo9⟩ := Kd.R_slice HO315.out; subst eo9))
  refine bodyPost_ret (results_cell_row rfl _ _ gb311 24 #[.bool t312, .slice Ao9 t313.length co9] (0, 0) _ rfl (by (with_reducible repeat (first | refine blk_drewN ?_ _ | refine blk_drew ?_ | refine blk_alloc ?_ _)); refine blk_put (cs := #[.bool t312, .slice none 0 0]) ?_ 1 _ rfl; (with_reducible repeat (first | refine blk_drewN ?_ _ | refine blk_drew ?_ | refine blk_alloc ?_ _)); refine blk_put (cs := #[.bool false, .slice none 0 0]) ?_ 0 _ rfl; (with_reducible repeat (first | refine blk_drewN ?_ _ | refine blk_drew ?_ | refine blk_alloc ?_ _)); exact BK311.out) Tryz.underlying24 rfl (by kernel_rfl)) rfl ?_
  exact ⟨_, by first | rfl | (simp [errW_none, errW_some] <;> rfl) | (simp [*, errW_none, errW_some] <;> rfl), by (with_reducible repeat (first | apply Kd.R_alloc | apply Kd.R_drewN | apply Kd.R_drew)); exact Kd.R_mono (Kd.R_far (p := ⟨gb311, 1, none⟩) (Kd.R_far (p := ⟨gb311, 0, none⟩) (Kd.R_types HO315.out BK311.out (by decide)) (fun _ hk => hk.2) (.bool t312)) (fun _ hk => hk.2) (.slice Ao9 t313.length co9)) (fun _ hk => trivial), by repeat (first | (with_reducible first | exact HB.out | apply below_alloc | apply pw_below_drewN | apply below_drew1 | refine below_set ?_ GE310.out | refine below_set ?_ GE311.out) | exact HB.out)⟩


/-! ### spec_Int_Sub: function 18 -/
theorem spec_Int_Sub.mono : ∀ a0 a1 a2 a3 k, LeO (spec_Int_Sub.f k a0 a1 a2 a3) (spec_Int_Sub.f (k + 1) a0 a1 a2 a3) := by
  intro a0 a1 a2 a3 k
  unfold spec_Int_Sub.f
  repeat' first
      | (with_reducible exact spec_Int_Add.mono _ _ _ _ _)
      | (with_reducible exact spec_Int_Minus.mono _ _ _)
      | (with_reducible exact LeO.refl _)
      | (with_reducible exact LeO.none _)
      | (with_reducible refine LeO.ite ?_ ?_)
      | (with_reducible refine LeO.bind ?_ (fun _ => ?_))
      | exact spec_Int_Add.mono _ _ _ _ _
      | exact spec_Int_Minus.mono _ _ _
      | exact LeO.none _
      | refine LeO.ite ?_ ?_
      | refine LeO.bind ?_ (fun _ => ?_)
set_option maxHeartbeats 8000000 in
set_option maxRecDepth 100000 in
theorem spec_Int_Sub.calls (k : Nat) (a0_0 : Bool) (A0_1 : Option Addr) (c0_1 : Nat) (l0_1 : List Int) (a1_0 : Bool) (A1_1 : Option Addr) (c1_1 : Nat) (l1_1 : List Int) (r1 : Bool) (r2 : List Int) (w : World) (hr0_1 : Kd.C (Kd.int .u8) w A0_1 l0_1.length l0_1) (hc0_1 : l0_1.length ≤ c0_1) (hr1_1 : Kd.C (Kd.int .u8) w A1_1 l1_1.length l1_1) (hc1_1 : l1_1.length ≤ c1_1) (h : spec_Int_Sub.f k a0_0 l0_1 a1_0 l1_1 = some (r1, r2)) :
    Calls Tryz.prog 18 #[.agg #[.bool a0_0, .slice A0_1 l0_1.length c0_1], .agg #[.bool a1_0, .slice A1_1 l1_1.length c1_1]] w fun e w' => ∃ v1_ : Value, e = .returned (.agg #[.bool r1, v1_]) ∧ Kd.R (Kd.int .u8) 5 w' w.heap.size (fun _ => True) v1_ r2 ∧ Below w.heap.size w w' := by
  have hu24 := Tryz.underlying24
  have HR0_1 := Aside0.mk hr0_1
  have HC0_1 := Aside0.mk hc0_1
  clear hr0_1 hc0_1
  have HR1_1 := Aside0.mk hr1_1
  have HC1_1 := Aside0.mk hc1_1
  clear hr1_1 hc1_1
  have HB := Aside0.mk (Below.refl w.heap.size w)
  have H : ((spec_Int_Minus.f k a1_0 l1_1).bind fun bt319 => ((spec_Int_Add.f k a0_0 l0_1 bt319.1 bt319.2).bind fun bt323 => (some (bt323.1, bt323.2)))) = some (r1, r2) := h
  clear h
  replace H := Option.bind_eq_some_iff.mp H
  obtain ⟨⟨t319, t320⟩, A30, H⟩ := H
  replace H : ((spec_Int_Add.f k a0_0 l0_1 t319 t320).bind fun bt323 => (some (bt323.1, bt323.2))) = some (r1, r2) := H
  have A3 := Aside0.mk A30
  clear A30
  replace H := Option.bind_eq_some_iff.mp H
  obtain ⟨⟨t323, t324⟩, A40, H⟩ := H
  replace H : (some (t323, t324)) = some (r1, r2) := H
  have A4 := Aside0.mk A40
  clear A40
  simp only [Option.some.injEq, Prod.mk.injEq] at H
  obtain ⟨rfl, rfl⟩ := H
  go_enter Tryz.func18, Tryz.ntmps18
  try go_wp2_with (first | ((with_reducible refine gate_dst (N := 2) rfl ?_); refine box_event ?hg (N := 2) ?hd (cs := #[.bool a0_0, .slice A0_1 l0_1.length c0_1]) (t := 24) ?hr ?_; (case hd => rfl); (case hg => rfl); (case hr => first | (go_simp; done) | (go_simp; rfl)); intro gb316 hg w5 hbox hb; have n0_ := Aside0.mk (below_step HB.out hb); have n1_ := Aside0.mk (hbox); have n2_ := Aside0.mk ((by rw [hg]; exact (below_size HB.out) : w.heap.size ≤ gb316)); have n3_ := Aside0.mk ((by rw [hg]; exact (below_size HB.out) : w.heap.size ≤ gb316)); clear HB; have HB := n0_; have BK316 := n1_; have GW316 := n2_; have GE316 := n3_; clear n0_ n1_ n2_ n3_; clear hb hbox hg) | ((with_reducible refine gate_dst (N := 3) rfl ?_); refine box_event ?hg (N := 3) ?hd (cs := #[.bool a1_0, .slice A1_1 l1_1.length c1_1]) (t := 24) ?hr ?_; (case hd => rfl); (case hg => rfl); (case hr => first | (go_simp; done) | (go_simp; rfl)); intro gb317 hg w6 hbox hb; have n0_ := Aside0.mk (blk_below BK316.out hb); have n1_ := Aside0.mk (below_step HB.out hb); have n2_ := Aside0.mk (hbox); have n3_ := Aside0.mk ((by rw [hg]; exact (below_size HB.out) : w.heap.size ≤ gb317)); have n4_ := Aside0.mk ((by rw [hg]; exact (below_size HB.out) : w.heap.size ≤ gb317)); have n5_ := Aside0.mk ((by rw [hg]; exact Nat.ne_of_lt (blk_lt BK316.out) : gb316 ≠ gb317)); have n6_ := Aside0.mk ((by rw [hg]; exact Nat.ne_of_gt (blk_lt BK316.out) : gb317 ≠ gb316)); clear BK316; clear HB; have BK316 := n0_; have HB := n1_; have BK317 := n2_; have GW317 := n3_; have GE317 := n4_; have NB316_317 := n5_; have NB317_316 := n6_; clear n0_ n1_ n2_ n3_ n4_ n5_ n6_; clear hb hbox hg) | ((with_reducible refine gate_dst (N := 4) rfl ?_); refine box_event ?hg (N := 4) ?hd (cs := #[.bool false, .slice none 0 0]) (t := 24) ?hr ?_; (case hd => rfl); (case hg => rfl); (case hr => first | (go_simp; done) | (go_simp; rfl)); intro gb318 hg w7 hbox hb; have n0_ := Aside0.mk (blk_below BK316.out hb); have n1_ := Aside0.mk (blk_below BK317.out hb); have n2_ := Aside0.mk (below_step HB.out hb); have n3_ := Aside0.mk (hbox); have n4_ := Aside0.mk ((by rw [hg]; exact (below_size HB.out) : w.heap.size ≤ gb318)); have n5_ := Aside0.mk ((by rw [hg]; exact (below_size HB.out) : w.heap.size ≤ gb318)); have n6_ := Aside0.mk ((by rw [hg]; exact Nat.ne_of_lt (blk_lt BK316.out) : gb316 ≠ gb318)); have n7_ := Aside0.mk ((by rw [hg]; exact Nat.ne_of_gt (blk_lt BK316.out) : gb318 ≠ gb316)); have n8_ := Aside0.mk ((by rw [hg]; exact Nat.ne_of_lt (blk_lt BK317.out) : gb317 ≠ gb318)); have n9_ := Aside0.mk ((by rw [hg]; exact Nat.ne_of_gt (blk_lt BK317.out) : gb318 ≠ gb317)); clear BK316; clear BK317; clear HB; have BK316 := n0_; have BK317 := n1_; have HB := n2_; have BK318 := n3_; have GW318 := n4_; have GE318 := n5_; have NB316_318 := n6_; have NB318_316 := n7_; have NB317_318 := n8_; have NB318_317 := n9_; clear n0_ n1_ n2_ n3_ n4_ n5_ n6_ n7_ n8_ n9_; clear hb hbox hg))
  have n0_ := Aside0.mk (blk_drew BK316.out)
  have n1_ := Aside0.mk (blk_drew BK317.out)
  have n2_ := Aside0.mk (blk_drew BK318.out)
  have n3_ := Aside0.mk (below_drew1 HB.out)
  clear BK316
  clear BK317
  clear BK318
  clear HB
  have BK316 := n0_
  have BK317 := n1_
  have BK318 := n2_
  have HB := n3_
  clear n0_ n1_ n2_ n3_
  refine start_ (n := 5) (S := fun w' => w'.cell? ⟨gb316, 0, none⟩ = some (.bool a0_0) ∧ w'.cell? ⟨gb316, 1, none⟩ = some (.slice A0_1 l0_1.length c0_1) ∧ w'.cell? ⟨gb317, 0, none⟩ = some (.bool a1_0) ∧ w'.cell? ⟨gb317, 1, none⟩ = some (.slice A1_1 l1_1.length c1_1)) (ds := []) #[false, false, false, false, false] (by kernel_rfl) rfl rfl ⟨(blk_cell BK316.out 0).trans rfl, (blk_cell BK316.out 1).trans rfl, (blk_cell BK317.out 0).trans rfl, (blk_cell BK317.out 1).trans rfl⟩ (fun hHeld => ?_)
  generalize w7.drew = w8 at BK316 BK317 BK318 HB hHeld ⊢
  refine take_ (i := 0) (N := some 5) (v := ?_) (a' := ?_) #[true, false, false, false, false] rfl rfl (by kernel_rfl) (fun _ _ _ h => h) (Or.inl ⟨by rfl, ?_⟩) hHeld ?_ ?_
  rotate_left
  · rintro w' ⟨s0, s1, s2, s3⟩
    go_simp
    with_reducible rfl
  rotate_left
  · simp only [Act.put, List.setIfInBounds_toArray, List.set_cons_zero, List.set_cons_succ, i64_w, i32_w]
    rfl
  refine take_ (i := 1) (N := some 6) (v := ?_) (a' := ?_) #[true, true, false, false, false] rfl rfl (by kernel_rfl) (fun _ _ _ h => h) (Or.inl ⟨by rfl, ?_⟩) hHeld ?_ ?_
  rotate_left
  · rintro w' ⟨s0, s1, s2, s3⟩
    go_simp
    with_reducible rfl
  rotate_left
  · simp only [Act.put, List.setIfInBounds_toArray, List.set_cons_zero, List.set_cons_succ, i64_w, i32_w]
    rfl
  refine one_ (i := 2) (N := some 7) #[true, true, true, false, false] rfl rfl (by kernel_rfl) (by decide) (fun K hK => ?_)
  refine goes_ Tryz.func35 (by kernel_rfl) rfl #[.agg #[.bool a1_0, .slice A1_1 l1_1.length c1_1]] (by rfl) rfl rfl (by (try simp only [List.map_toArray, List.map_cons, List.map_nil]); first | done | rfl | (simp only [List.length_drop, List.length_take]; rfl)) ?_
  with_reducible refine (spec_Int_Minus.calls k a1_0 _ _ l1_1 t319 t320 _ ?side1 ?side2 A3.out).mono ?_
  (case side1 => repeat (first | exact (Kd.C_below HR1_1.out HB.out) | (with_reducible refine Kd.C_alloc ?_ _) | (with_reducible refine Kd.C_drewN ?_ _) | (with_reducible refine Kd.C_drew ?_)))
  (case side2 => exact HC1_1.out)
  rintro e w9 ⟨v321, rfl, ho0, hb⟩
  refine ⟨_, rfl, ?_⟩
  have n0_ := Aside0.mk (Kd.R_lower ho0 (below_size HB.out))
  have n1_ := Aside0.mk (blk_below BK316.out hb)
  have n2_ := Aside0.mk (blk_below BK317.out hb)
  have n3_ := Aside0.mk (blk_below BK318.out hb)
  have n4_ := Aside0.mk (below_step HB.out hb)
  clear BK316
  clear BK317
  clear BK318
  clear HB
  have HO322 := n0_
  have BK316 := n1_
  have BK317 := n2_
  have BK318 := n3_
  have HB := n4_
  clear n0_ n1_ n2_ n3_ n4_
  (try clear hb)
  (try clear hb2)
  (try clear hk)
  (try clear hi)
  (try clear ho0)
  obtain ⟨Ao10, co10, eo10⟩ := Kd.R_slice HO322.out
  (first | subst eo10 | (injection eo10 with f1_ f2_ f3_; have f4_ := f1_.symm; have f5_ := f3_.symm; clear f1_ f2_ f3_; subst f4_; subst f5_))
  refine hK.out _ _ ⟨(blk_cell BK316.out 0).trans rfl, (blk_cell BK316.out 1).trans rfl, (blk_cell BK317.out 0).trans rfl, (blk_cell BK317.out 1).trans rfl⟩ (fun hHeld => ?_)
  clear hK K
  refine norm_ (a' := ?_) ?_ ?_
  rotate_left
  · show Act.put _ (some 7) _ = _
    simp only [Act.put, List.setIfInBounds_toArray, List.set_cons_zero, List.set_cons_succ, i64_w, i32_w]
    rfl
  refine one_ (i := 3) (N := some 8) #[true, true, true, true, false] rfl rfl (by kernel_rfl) (by decide) (fun K hK => ?_)
  refine goes_ Tryz.func23 (by kernel_rfl) rfl #[.agg #[.bool a0_0, .slice A0_1 l0_1.length c0_1], .agg #[.bool t319, .slice Ao10 t320.length co10]] (by rfl) rfl rfl (by (try simp only [List.map_toArray, List.map_cons, List.map_nil]); first | done | rfl | (simp only [List.length_drop, List.length_take]; rfl)) ?_
  with_reducible refine (spec_Int_Add.calls k a0_0 _ _ l0_1 t319 _ _ t320 t323 t324 _ ?side1 ?side2 ?side3 ?side4 A4.out).mono ?_
  (case side1 => repeat (first | exact (Kd.C_below HR0_1.out HB.out) | (with_reducible refine Kd.C_alloc ?_ _) | (with_reducible refine Kd.C_drewN ?_ _) | (with_reducible refine Kd.C_drew ?_)))
  (case side2 => exact HC0_1.out)
  (case side3 => repeat (first | exact (Kd.R_reads' HO322.out).2.2 | (with_reducible refine Kd.C_alloc ?_ _) | (with_reducible refine Kd.C_drewN ?_ _) | (with_reducible refine Kd.C_drew ?_)))
  (case side4 => exact (Kd.R_reads' HO322.out).2.1)
  rintro e w11 ⟨v325, rfl, ho0, hb⟩
  refine ⟨_, rfl, ?_⟩
  have n0_ := Aside0.mk (Kd.R_elder' HO322.out (Kd.R_base ho0) hb)
  have n1_ := Aside0.mk (Kd.R_lower (Kd.R_new' ho0 (Kd.R_lt HO322.out)) (below_size HB.out))
  have n2_ := Aside0.mk (blk_below BK316.out hb)
  have n3_ := Aside0.mk (blk_below BK317.out hb)
  have n4_ := Aside0.mk (blk_below BK318.out hb)
  have n5_ := Aside0.mk (below_step HB.out hb)
  clear HO322
  clear BK316
  clear BK317
  clear BK318
  clear HB
  have HO322 := n0_
  have HO326 := n1_
  have BK316 := n2_
  have BK317 := n3_
  have BK318 := n4_
  have HB := n5_
  clear n0_ n1_ n2_ n3_ n4_ n5_
  (try clear hb)
  (try clear hb2)
  (try clear hk)
  (try clear hi)
  (try clear ho0)
  obtain ⟨Ao13, co13, eo13⟩ := Kd.R_slice HO326.out
  (first | subst eo13 | (injection eo13 with f1_ f2_ f3_; have f4_ := f1_.symm; have f5_ := f3_.symm; clear f1_ f2_ f3_; subst f4_; subst f5_))
  refine hK.out _ _ ⟨(blk_cell BK316.out 0).trans rfl, (blk_cell BK316.out 1).trans rfl, (blk_cell BK317.out 0).trans rfl, (blk_cell BK317.out 1).trans rfl⟩ (fun hHeld => ?_)
  clear hK K
  refine norm_ (a' := ?_) ?_ ?_
  rotate_left
  · show Act.put _ (some 8) _ = _
    simp only [Act.put, List.setIfInBounds_toArray, List.set_cons_zero, List.set_cons_succ, i64_w, i32_w]
    rfl
  refine one_ (i := 4) (N := none) #[true, true, true, true, true] rfl rfl (by kernel_rfl) (by decide) (fun K hK => ?_)
  have hs12 : w11.cell? ⟨gb318, 0, none⟩ = some (.bool false) := (blk_cell BK318.out 0).trans rfl
  have hfs12 := blk_frozen BK318.out 0
  have hns12_0 := NB316_318.out
  have hns12_1 := NB317_318.out
  have hms12_0 := NB318_316.out
  have hms12_1 := NB318_317.out
  have hs14 : w11.cell? ⟨gb318, 1, none⟩ = some (.slice none 0 0) := (blk_cell BK318.out 1).trans rfl
  have hfs14 := blk_frozen BK318.out 1
  have hns14_0 := NB316_318.out
  have hns14_1 := NB317_318.out
  have hms14_0 := NB318_316.out
  have hms14_1 := NB318_317.out
  refine skip_ (w1 := ?_) (by rfl) rfl ?_ ?_
  rotate_left
  · go_simp
    rfl
  refine hK.out _ _ ⟨((cell_far (p := ⟨gb318, _, none⟩) NB316_318.out _).trans (((cell_far (p := ⟨gb318, _, none⟩) NB316_318.out _).trans (hHeld.1)))), ((cell_far (p := ⟨gb318, _, none⟩) NB316_318.out _).trans (((cell_far (p := ⟨gb318, _, none⟩) NB316_318.out _).trans (hHeld.2.1)))), ((cell_far (p := ⟨gb318, _, none⟩) NB317_318.out _).trans (((cell_far (p := ⟨gb318, _, none⟩) NB317_318.out _).trans (hHeld.2.2.1)))), ((cell_far (p := ⟨gb318, _, none⟩) NB317_318.out _).trans (((cell_far (p := ⟨gb318, _, none⟩) NB317_318.out _).trans (hHeld.2.2.2))))⟩ (fun hHeld => ?_)
  clear hK K
  refine done_ (by kernel_rfl) ?_
  try go_wp2
  refine bodyPost_ret (results_cell_row rfl _ _ gb318 24 #[.bool t323, .slice Ao13 t324.length co13] (0, 0) _ rfl (by (with_reducible repeat (first | refine blk_drewN ?_ _ | refine blk_drew ?_ | refine blk_alloc ?_ _)); refine blk_put (cs := #[.bool t323, .slice none 0 0]) ?_ 1 _ rfl; (with_reducible repeat (first | refine blk_drewN ?_ _ | refine blk_drew ?_ | refine blk_alloc ?_ _)); refine blk_put (cs := #[.bool false, .slice none 0 0]) ?_ 0 _ rfl; (with_reducible repeat (first | refine blk_drewN ?_ _ | refine blk_drew ?_ | refine blk_alloc ?_ _)); exact BK318.out) Tryz.underlying24 rfl (by kernel_rfl)) rfl ?_
  exact ⟨_, by first | rfl | (simp [errW_none, errW_some] <;> rfl) | (simp [*, errW_none, errW_some] <;> rfl), by (with_reducible repeat (first | apply Kd.R_alloc | apply Kd.R_drewN | apply Kd.R_drew)); exact Kd.R_mono (Kd.R_far (p := ⟨gb318, 1, none⟩) (Kd.R_far (p := ⟨gb318, 0, none⟩) (Kd.R_types HO326.out BK318.out (by decide)) (fun _ hk => hk.2) (.bool t323)) (fun _ hk => hk.2) (.slice Ao13 t324.length co13)) (fun _ hk => trivial), by repeat (first | (with_reducible first | exact HB.out | apply below_alloc | apply pw_below_drewN | apply below_drew1 | refine below_set ?_ GE316.out | refine below_set ?_ GE317.out | refine below_set ?_ GE318.out) | exact HB.out)⟩



end Go.Proofs.YtodipcgilgigbaaGreatDoor.I
