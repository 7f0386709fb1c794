/- Contracts of this claim's functions: each call gives what the plain mirror (in the text D) gives; the proofs are the kit's print, over D's definitions. -/
import Derived.Test.YtodipcgilgigbaaGreatDoorC7
import Derived.Test.YtodipcgilgigbaaGreatDoorC8
import Derived.Test.YtodipcgilgigbaaGreatDoorD2
namespace Go.Proofs.YtodipcgilgigbaaGreatDoor.I
open Go.RowKit Go.Proofs.YtodipcgilgigbaaGreatDoorW.PrintWords Go.Proofs.YtodipcgilgigbaaGreatDoorW.PrintLast Go.Proofs.YtodipcgilgigbaaGreatDoorW.PrintMore
attribute [local go_sem] max2_int min2_int max_two min_two max_three min_three max_four min_four
set_option linter.unusedVariables false
set_option linter.unusedSimpArgs false

/-! ### spec_Int_Rsh: function 17 -/
theorem spec_Int_Rsh.mono : ∀ a0 a1 a2 k, LeO (spec_Int_Rsh.f k a0 a1 a2) (spec_Int_Rsh.f (k + 1) a0 a1 a2) := by
  intro a0 a1 a2 k
  unfold spec_Int_Rsh.f
  repeat' first
      | (with_reducible exact spec_Int_Floor.mono _ _ _ _ _)
      | (with_reducible exact spec_Power.mono _ _)
      | (with_reducible exact spec_Small.mono _ _)
      | (with_reducible exact LeO.refl _)
      | (with_reducible exact LeO.none _)
      | (with_reducible refine LeO.ite ?_ ?_)
      | (with_reducible refine LeO.bind ?_ (fun _ => ?_))
      | exact spec_Int_Floor.mono _ _ _ _ _
      | exact spec_Power.mono _ _
      | exact spec_Small.mono _ _
      | exact LeO.none _
      | refine LeO.ite ?_ ?_
      | refine LeO.bind ?_ (fun _ => ?_)
def spec_Int_Rsh.T5 : Bool × List (List Nat × List Nat) := (true, [([], []), ([], []), ([1], [1]), ([0, 2, 2], [0, 2]), ([3], [3]), ([4], [4]), ([4], [4]), ([], []), ([], []), ([7, 5, 3, 0, 1, 2, 3, 4, 5, 7, 8], [5, 7]), ([8, 6, 9, 0, 1, 2, 3, 4, 5, 6, 7, 8, 9], [6, 8])])
def spec_Int_Rsh.B5 : List Nat := [0, 0, 2, 7, 15, 31, 31, 0, 0, 447, 1023]
theorem spec_Int_Rsh.tab5 : rtab .any (opsOf Tryz.f17 5) = spec_Int_Rsh.T5 := by kernel_rfl
theorem spec_Int_Rsh.bits5 : waitsOk spec_Int_Rsh.T5.2 spec_Int_Rsh.B5 = true := by kernel_rfl
set_option maxHeartbeats 8000000 in
set_option maxRecDepth 100000 in
theorem spec_Int_Rsh.calls (k : Nat) (a0_0 : Bool) (A0_1 : Option Addr) (c0_1 : Nat) (l0_1 : List Int) (a1 : Int) (r1 : Bool) (r2 : List Int) (w : World) (hr0_1 : Kd.C (Kd.int .u8) w A0_1 l0_1.length l0_1) (hc0_1 : l0_1.length ≤ c0_1) (h : spec_Int_Rsh.f k a0_0 l0_1 a1 = some (r1, r2)) :
    Calls Tryz.prog 17 #[.agg #[.bool a0_0, .slice A0_1 l0_1.length c0_1], .int .i64 a1] w fun e w' => ∃ v1_ : Value, e = .returned (.agg #[.bool r1, v1_]) ∧ Kd.R (Kd.int .u8) 5 w' w.heap.size (fun _ => True) v1_ r2 ∧ Below w.heap.size w w' := by
  have hu24 := Tryz.underlying24
  have HR0_1 := Aside0.mk hr0_1
  have HC0_1 := Aside0.mk hc0_1
  clear hr0_1 hc0_1
  have HB := Aside0.mk (Below.refl w.heap.size w)
  have H : (if a1 > (wrap64 (8 * (l0_1.length : Int))) then (if a0_0 = true then ((spec_Small.f k (-1)).bind fun bt267 => (some (bt267.1, bt267.2))) else (some (false, ([] : List Int)))) else ((spec_Power.f k a1).bind fun bt271 => ((spec_Int_Floor.f k a0_0 l0_1 bt271.1 bt271.2).bind fun bt275 => (some (bt275.1, bt275.2.1))))) = some (r1, r2) := h
  clear h
  by_cases c3 : a1 > (wrap64 (8 * (l0_1.length : Int)))
  · rw [if_pos c3] at H
    have c3b0 : decide ((wrap64 (8 * (l0_1.length : Int))) < a1) = true := decide_eq_true c3
    clear c3
    by_cases c4 : a0_0 = true
    · subst c4
      have H1 : ((spec_Small.f k (-1)).bind fun bt267 => (some (bt267.1, bt267.2))) = some (r1, r2) := by rw [if_pos rfl] at H; exact H
      clear H
      have H := H1
      clear H1
      replace H := Option.bind_eq_some_iff.mp H
      obtain ⟨⟨t267, t268⟩, A50, H⟩ := H
      replace H : (some (t267, t268)) = some (r1, r2) := H
      have A5 := Aside0.mk A50
      clear A50
      simp only [Option.some.injEq, Prod.mk.injEq] at H
      obtain ⟨rfl, rfl⟩ := H
      go_enter Tryz.func17, Tryz.ntmps17
      go_wp2_with (first | ((with_reducible refine gate_dst (N := 2) rfl ?_); refine box_event ?hg (N := 2) ?hd (cs := #[.bool true, .slice A0_1 l0_1.length c0_1]) (t := 24) ?hr ?_; (case hd => rfl); (case hg => rfl); (case hr => first | (go_simp; done) | (go_simp; rfl)); intro gb265 hg w6 hbox hb; have n0_ := Aside0.mk (below_step HB.out hb); have n1_ := Aside0.mk (hbox); have n2_ := Aside0.mk ((by rw [hg]; exact (below_size HB.out) : w.heap.size ≤ gb265)); have n3_ := Aside0.mk ((by rw [hg]; exact (below_size HB.out) : w.heap.size ≤ gb265)); clear HB; have HB := n0_; have BK265 := n1_; have GW265 := n2_; have GE265 := n3_; clear n0_ n1_ n2_ n3_; clear hb hbox hg) | ((with_reducible refine gate_dst (N := 4) rfl ?_); refine box_event ?hg (N := 4) ?hd (cs := #[.bool false, .slice none 0 0]) (t := 24) ?hr ?_; (case hd => rfl); (case hg => rfl); (case hr => first | (go_simp; done) | (go_simp; rfl)); intro gb266 hg w7 hbox hb; have n0_ := Aside0.mk (blk_below BK265.out hb); have n1_ := Aside0.mk (below_step HB.out hb); have n2_ := Aside0.mk (hbox); have n3_ := Aside0.mk ((by rw [hg]; exact (below_size HB.out) : w.heap.size ≤ gb266)); have n4_ := Aside0.mk ((by rw [hg]; exact (below_size HB.out) : w.heap.size ≤ gb266)); have n5_ := Aside0.mk ((by rw [hg]; exact Nat.ne_of_lt (blk_lt BK265.out) : gb265 ≠ gb266)); have n6_ := Aside0.mk ((by rw [hg]; exact Nat.ne_of_gt (blk_lt BK265.out) : gb266 ≠ gb265)); clear BK265; clear HB; have BK265 := n0_; have HB := n1_; have BK266 := n2_; have GW266 := n3_; have GE266 := n4_; have NB265_266 := n5_; have NB266_265 := n6_; clear n0_ n1_ n2_ n3_ n4_ n5_ n6_; clear hb hbox hg; have hnb8 := NB265_266.out; have hnc8 := NB266_265.out; have hcz9_0 : w7.cell? ⟨gb265, 0, none⟩ = some (.bool true) := (blk_cell BK265.out 0).trans rfl; have hcz9_1 : w7.cell? ⟨gb265, 1, none⟩ = some (.slice A0_1 l0_1.length c0_1) := (blk_cell BK265.out 1).trans rfl; have hfz9_0 := blk_frozen BK265.out 0; have hfz9_1 := blk_frozen BK265.out 1) | ((with_reducible refine gate_callee (f := 24) rfl ?_); refine goesL_ (some 15) rfl rfl Tryz.func24 (by kernel_rfl) rfl #[.int .i64 (-1)] rfl (by (try simp only [List.map_toArray, List.map_cons, List.map_nil]); first | done | rfl | (simp only [List.length_drop, List.length_take]; rfl)) ?_; (with_reducible refine (spec_Small.calls k (-1) t267 t268 _ A5.out).mono ?_); rintro e w10 ⟨v269, rfl, ho0, hb⟩; refine ⟨_, rfl, ?_⟩; have n0_ := Aside0.mk (Kd.R_lower ho0 (below_size HB.out)); have n1_ := Aside0.mk (blk_below BK265.out hb); have n2_ := Aside0.mk (blk_below BK266.out hb); have n3_ := Aside0.mk (below_step HB.out hb); clear BK265; clear BK266; clear HB; have HO270 := n0_; have BK265 := n1_; have BK266 := n2_; have HB := n3_; clear n0_ n1_ n2_ n3_; (try clear hb); (try clear hb2); (try clear hk); (try clear hi); (try clear ho0); have hcz11_0 : w10.cell? ⟨gb266, 0, none⟩ = some (.bool false) := (blk_cell BK266.out 0).trans rfl; have hcz11_1 : w10.cell? ⟨gb266, 1, none⟩ = some (.slice none 0 0) := (blk_cell BK266.out 1).trans rfl; have hfz11_0 := blk_frozen BK266.out 0; have hfz11_1 := blk_frozen BK266.out 1; obtain ⟨Ao12, co12, eo12⟩ := Kd.R_slice HO270.out; subst eo12))
      refine bodyPost_ret (results_cell_row rfl _ _ gb266 24 #[.bool t267, .slice Ao12 t268.length co12] (0, 0) _ rfl (by (with_reducible repeat (first | refine blk_drewN ?_ _ | refine blk_drew ?_ | refine blk_alloc ?_ _)); refine blk_put (cs := #[.bool t267, .slice none 0 0]) ?_ 1 _ rfl; (with_reducible repeat (first | refine blk_drewN ?_ _ | refine blk_drew ?_ | refine blk_alloc ?_ _)); refine blk_put (cs := #[.bool false, .slice none 0 0]) ?_ 0 _ rfl; (with_reducible repeat (first | refine blk_drewN ?_ _ | refine blk_drew ?_ | refine blk_alloc ?_ _)); exact BK266.out) Tryz.underlying24 rfl (by kernel_rfl)) rfl ?_
      exact ⟨_, by first | rfl | (simp [errW_none, errW_some] <;> rfl) | (simp [*, errW_none, errW_some] <;> rfl), by (with_reducible repeat (first | apply Kd.R_alloc | apply Kd.R_drewN | apply Kd.R_drew)); exact Kd.R_mono (Kd.R_far (p := ⟨gb266, 1, none⟩) (Kd.R_far (p := ⟨gb266, 0, none⟩) (Kd.R_types HO270.out BK266.out (by decide)) (fun _ hk => hk.2) (.bool t267)) (fun _ hk => hk.2) (.slice Ao12 t268.length co12)) (fun _ hk => trivial), by repeat (first | (with_reducible first | exact HB.out | apply below_alloc | apply pw_below_drewN | apply below_drew1 | refine below_set ?_ GE265.out | refine below_set ?_ GE266.out) | exact HB.out)⟩
    · replace c4 := Bool.eq_false_iff.mpr c4
      subst c4
      have H1 : (some (false, ([] : List Int))) = some (r1, r2) := by rw [if_neg (show ¬ (false = true) by decide)] at H; exact H
      clear H
      have H := H1
      clear H1
      simp only [Option.some.injEq, Prod.mk.injEq] at H
      obtain ⟨rfl, rfl⟩ := H
      go_enter Tryz.func17, Tryz.ntmps17
      go_wp2_with (first | ((with_reducible refine gate_dst (N := 2) rfl ?_); refine box_event ?hg (N := 2) ?hd (cs := #[.bool false, .slice A0_1 l0_1.length c0_1]) (t := 24) ?hr ?_; (case hd => rfl); (case hg => rfl); (case hr => first | (go_simp; done) | (go_simp; rfl)); intro gb265 hg w13 hbox hb; have n0_ := Aside0.mk (below_step HB.out hb); have n1_ := Aside0.mk (hbox); have n2_ := Aside0.mk ((by rw [hg]; exact (below_size HB.out) : w.heap.size ≤ gb265)); have n3_ := Aside0.mk ((by rw [hg]; exact (below_size HB.out) : w.heap.size ≤ gb265)); clear HB; have HB := n0_; have BK265 := n1_; have GW265 := n2_; have GE265 := n3_; clear n0_ n1_ n2_ n3_; clear hb hbox hg) | ((with_reducible refine gate_dst (N := 4) rfl ?_); refine box_event ?hg (N := 4) ?hd (cs := #[.bool false, .slice none 0 0]) (t := 24) ?hr ?_; (case hd => rfl); (case hg => rfl); (case hr => first | (go_simp; done) | (go_simp; rfl)); intro gb266 hg w14 hbox hb; have n0_ := Aside0.mk (blk_below BK265.out hb); have n1_ := Aside0.mk (below_step HB.out hb); have n2_ := Aside0.mk (hbox); have n3_ := Aside0.mk ((by rw [hg]; exact (below_size HB.out) : w.heap.size ≤ gb266)); have n4_ := Aside0.mk ((by rw [hg]; exact (below_size HB.out) : w.heap.size ≤ gb266)); have n5_ := Aside0.mk ((by rw [hg]; exact Nat.ne_of_lt (blk_lt BK265.out) : gb265 ≠ gb266)); have n6_ := Aside0.mk ((by rw [hg]; exact Nat.ne_of_gt (blk_lt BK265.out) : gb266 ≠ gb265)); clear BK265; clear HB; have BK265 := n0_; have HB := n1_; have BK266 := n2_; have GW266 := n3_; have GE266 := n4_; have NB265_266 := n5_; have NB266_265 := n6_; clear n0_ n1_ n2_ n3_ n4_ n5_ n6_; clear hb hbox hg; have hnb15 := NB265_266.out; have hnc15 := NB266_265.out; have hcz16_0 : w14.cell? ⟨gb265, 0, none⟩ = some (.bool false) := (blk_cell BK265.out 0).trans rfl; have hcz16_1 : w14.cell? ⟨gb265, 1, none⟩ = some (.slice A0_1 l0_1.length c0_1) := (blk_cell BK265.out 1).trans rfl; have hfz16_0 := blk_frozen BK265.out 0; have hfz16_1 := blk_frozen BK265.out 1; have hcz17_0 : w14.cell? ⟨gb266, 0, none⟩ = some (.bool false) := (blk_cell BK266.out 0).trans rfl; have hcz17_1 : w14.cell? ⟨gb266, 1, none⟩ = some (.slice none 0 0) := (blk_cell BK266.out 1).trans rfl; have hfz17_0 := blk_frozen BK266.out 0; have hfz17_1 := blk_frozen BK266.out 1))
      refine bodyPost_ret (results_cell_row rfl _ _ gb266 24 #[.bool false, .slice none 0 0] (0, 0) _ rfl (by (with_reducible repeat (first | refine blk_drewN ?_ _ | refine blk_drew ?_ | refine blk_alloc ?_ _)); refine blk_put (cs := #[.bool false, .slice none 0 0]) ?_ 1 _ rfl; (with_reducible repeat (first | refine blk_drewN ?_ _ | refine blk_drew ?_ | refine blk_alloc ?_ _)); refine blk_put (cs := #[.bool false, .slice none 0 0]) ?_ 0 _ rfl; (with_reducible repeat (first | refine blk_drewN ?_ _ | refine blk_drew ?_ | refine blk_alloc ?_ _)); exact BK266.out) Tryz.underlying24 rfl (by kernel_rfl)) rfl ?_
      exact ⟨_, by first | rfl | (simp [errW_none, errW_some] <;> rfl) | (simp [*, errW_none, errW_some] <;> rfl), by first | exact Kd.R_nil _ _ _ _ _ | exact Kd.N_nil _ _ _ _ _ | exact Kd.V_nil _ _ _ _ _ | exact Kd.Q_nil _ _ _ _ _ | exact Kd.S_nil _ _ _ _ _, by repeat (first | (with_reducible first | exact HB.out | apply below_alloc | apply pw_below_drewN | apply below_drew1 | refine below_set ?_ GE265.out | refine below_set ?_ GE266.out) | exact HB.out)⟩
  · rw [if_neg c3] at H
    have c3b0 : decide ((wrap64 (8 * (l0_1.length : Int))) < a1) = false := decide_eq_false c3
    clear c3
    replace H := Option.bind_eq_some_iff.mp H
    obtain ⟨⟨t271, t272⟩, A180, H⟩ := H
    replace H : ((spec_Int_Floor.f k a0_0 l0_1 t271 t272).bind fun bt275 => (some (bt275.1, bt275.2.1))) = some (r1, r2) := H
    have A18 := Aside0.mk A180
    clear A180
    replace H := Option.bind_eq_some_iff.mp H
    obtain ⟨⟨t275, t276, t279, t280⟩, A190, H⟩ := H
    replace H : (some (t275, t276)) = some (r1, r2) := H
    have A19 := Aside0.mk A190
    clear A190
    simp only [Option.some.injEq, Prod.mk.injEq] at H
    obtain ⟨rfl, rfl⟩ := H
    go_enter Tryz.func17, Tryz.ntmps17
    try go_wp2_with (first | ((with_reducible refine gate_dst (N := 2) rfl ?_); refine box_event ?hg (N := 2) ?hd (cs := #[.bool a0_0, .slice A0_1 l0_1.length c0_1]) (t := 24) ?hr ?_; (case hd => rfl); (case hg => rfl); (case hr => first | (go_simp; done) | (go_simp; rfl)); intro gb265 hg w20 hbox hb; have n0_ := Aside0.mk (below_step HB.out hb); have n1_ := Aside0.mk (hbox); have n2_ := Aside0.mk ((by rw [hg]; exact (below_size HB.out) : w.heap.size ≤ gb265)); have n3_ := Aside0.mk ((by rw [hg]; exact (below_size HB.out) : w.heap.size ≤ gb265)); clear HB; have HB := n0_; have BK265 := n1_; have GW265 := n2_; have GE265 := n3_; clear n0_ n1_ n2_ n3_; clear hb hbox hg) | ((with_reducible refine gate_dst (N := 4) rfl ?_); refine box_event ?hg (N := 4) ?hd (cs := #[.bool false, .slice none 0 0]) (t := 24) ?hr ?_; (case hd => rfl); (case hg => rfl); (case hr => first | (go_simp; done) | (go_simp; rfl)); intro gb266 hg w21 hbox hb; have n0_ := Aside0.mk (blk_below BK265.out hb); have n1_ := Aside0.mk (below_step HB.out hb); have n2_ := Aside0.mk (hbox); have n3_ := Aside0.mk ((by rw [hg]; exact (below_size HB.out) : w.heap.size ≤ gb266)); have n4_ := Aside0.mk ((by rw [hg]; exact (below_size HB.out) : w.heap.size ≤ gb266)); have n5_ := Aside0.mk ((by rw [hg]; exact Nat.ne_of_lt (blk_lt BK265.out) : gb265 ≠ gb266)); have n6_ := Aside0.mk ((by rw [hg]; exact Nat.ne_of_gt (blk_lt BK265.out) : gb266 ≠ gb265)); clear BK265; clear HB; have BK265 := n0_; have HB := n1_; have BK266 := n2_; have GW266 := n3_; have GE266 := n4_; have NB265_266 := n5_; have NB266_265 := n6_; clear n0_ n1_ n2_ n3_ n4_ n5_ n6_; clear hb hbox hg; have hnb22 := NB265_266.out; have hnc22 := NB266_265.out; have hcz23_0 : w21.cell? ⟨gb265, 0, none⟩ = some (.bool a0_0) := (blk_cell BK265.out 0).trans rfl; have hcz23_1 : w21.cell? ⟨gb265, 1, none⟩ = some (.slice A0_1 l0_1.length c0_1) := (blk_cell BK265.out 1).trans rfl; have hfz23_0 := blk_frozen BK265.out 0; have hfz23_1 := blk_frozen BK265.out 1))
    have n0_ := Aside0.mk (blk_drew BK265.out)
    have n1_ := Aside0.mk (blk_drew BK266.out)
    have n2_ := Aside0.mk (below_drew1 HB.out)
    clear BK265
    clear BK266
    clear HB
    have BK265 := n0_
    have BK266 := n1_
    have HB := n2_
    clear n0_ n1_ n2_
    refine start_ (n := 11) (S := fun w' => w'.cell? ⟨gb265, 0, none⟩ = some (.bool a0_0) ∧ w'.cell? ⟨gb265, 1, none⟩ = some (.slice A0_1 l0_1.length c0_1)) (ds := []) #[false, false, false, false, false, false, false, false, false, false, false] (by kernel_rfl) rfl rfl ⟨(blk_cell BK265.out 0).trans rfl, (blk_cell BK265.out 1).trans rfl⟩ (fun hHeld => ?_); refine with_tabW spec_Int_Rsh.tab5 spec_Int_Rsh.bits5 (fun HT_ HW_ => ?_)
    generalize w21.drew = w24 at BK265 BK266 HB hHeld ⊢
    refine pure_ (i := 1) (N := some 19) (v := ?_) (a' := ?_) #[false, true, false, false, false, false, false, false, false, false, false] rfl rfl (any_of HT_.out (by kernel_rfl)) (fun _ _ _ h => h) (Or.inl ⟨by rfl, ?_⟩) ?_ ?_
    rotate_left
    · intro w'
      go_simp
      with_reducible rfl
    rotate_left
    · simp only [Act.put, List.setIfInBounds_toArray, List.set_cons_zero, List.set_cons_succ, i64_w, i32_w]
      rfl
    refine take_ (i := 0) (N := some 18) (v := ?_) (a' := ?_) #[true, true, false, false, false, false, false, false, false, false, false] rfl rfl (take_ofW HT_.out HW_.out (by kernel_rfl)) (fun _ _ _ h => h) (Or.inl ⟨by rfl, ?_⟩) hHeld ?_ ?_
    rotate_left
    · rintro w' ⟨s0, s1⟩
      go_simp
      with_reducible rfl
    rotate_left
    · simp only [Act.put, List.setIfInBounds_toArray, List.set_cons_zero, List.set_cons_succ, i64_w, i32_w]
      rfl
    refine join_ (σ := Value × Value × Value × Nat × Nat) 2 #[true, true, true, true, true, true, true, true, true, false, false] (fun s_ => [(20, .agg #[.bool t271, s_.1]), (21, .tuple #[.agg #[.bool t275, s_.2.1], .agg #[.bool t279, s_.2.2.1]]), (5, .pointer (some ⟨s_.2.2.2.1, 0, none⟩)), (6, .pointer (some ⟨s_.2.2.2.2, 0, none⟩)), (17, .tuple #[.agg #[.bool t275, s_.2.1], .agg #[.bool t279, s_.2.2.1]]), (22, .agg #[.bool t275, s_.2.1]), (23, .agg #[.bool t279, s_.2.2.1])]) (fun s_ w' => (w'.cell? ⟨gb265, 0, none⟩ = some (.bool a0_0) ∧ w'.cell? ⟨gb265, 1, none⟩ = some (.slice A0_1 l0_1.length c0_1)) ∧ (Kd.R (Kd.int .u8) 5 w' w.heap.size (fun k_ => some k_ ≠ (s_.2.1 : Value).ownBlock ∧ some k_ ≠ (s_.2.2.1 : Value).ownBlock) s_.1 t272) ∧ (Kd.R (Kd.int .u8) 5 w' w.heap.size (fun k_ => some k_ ≠ (s_.1 : Value).ownBlock ∧ some k_ ≠ (s_.2.2.1 : Value).ownBlock) s_.2.1 t276) ∧ (Kd.R (Kd.int .u8) 5 w' w.heap.size (fun k_ => some k_ ≠ (s_.1 : Value).ownBlock ∧ some k_ ≠ (s_.2.1 : Value).ownBlock) s_.2.2.1 t280) ∧ (w'.heap[gb265]? = some (.cells #[.bool a0_0, .slice A0_1 l0_1.length c0_1] 24 (0, 0))) ∧ (w'.heap[gb266]? = some (.cells #[.bool false, .slice none 0 0] 24 (0, 0))) ∧ (w'.heap[s_.2.2.2.1]? = some (.cells #[.bool false, .slice none 0 0] 24 (0, 0))) ∧ (w'.heap[s_.2.2.2.2]? = some (.cells #[.bool false, .slice none 0 0] 24 (0, 0))) ∧ (w.heap.size ≤ s_.2.2.2.1) ∧ (w.heap.size ≤ s_.2.2.2.1) ∧ (gb265 ≠ s_.2.2.2.1) ∧ (s_.2.2.2.1 ≠ gb265) ∧ (gb266 ≠ s_.2.2.2.1) ∧ (s_.2.2.2.1 ≠ gb266) ∧ (s_.2.2.2.2 ≠ s_.2.2.2.1) ∧ (s_.2.2.2.1 ≠ s_.2.2.2.2) ∧ (w.heap.size ≤ s_.2.2.2.2) ∧ (w.heap.size ≤ s_.2.2.2.2) ∧ (gb265 ≠ s_.2.2.2.2) ∧ (s_.2.2.2.2 ≠ gb265) ∧ (gb266 ≠ s_.2.2.2.2) ∧ (s_.2.2.2.2 ≠ gb266) ∧ (Below w.heap.size w w')) ?_ ?_
    rotate_left
    · intro hJ2_3_7_8
      refine join_ (σ := Value × Value × Value × Nat) 3 #[true, true, true, true, true, true, true, true, false, false, false] (fun s_ => [(20, .agg #[.bool t271, s_.1]), (21, .tuple #[.agg #[.bool t275, s_.2.1], .agg #[.bool t279, s_.2.2.1]]), (5, .pointer (some ⟨s_.2.2.2, 0, none⟩)), (17, .tuple #[.agg #[.bool t275, s_.2.1], .agg #[.bool t279, s_.2.2.1]]), (22, .agg #[.bool t275, s_.2.1]), (23, .agg #[.bool t279, s_.2.2.1])]) (fun s_ w' => (w'.cell? ⟨gb265, 0, none⟩ = some (.bool a0_0) ∧ w'.cell? ⟨gb265, 1, none⟩ = some (.slice A0_1 l0_1.length c0_1)) ∧ (Kd.R (Kd.int .u8) 5 w' w.heap.size (fun k_ => some k_ ≠ (s_.2.1 : Value).ownBlock ∧ some k_ ≠ (s_.2.2.1 : Value).ownBlock) s_.1 t272) ∧ (Kd.R (Kd.int .u8) 5 w' w.heap.size (fun k_ => some k_ ≠ (s_.1 : Value).ownBlock ∧ some k_ ≠ (s_.2.2.1 : Value).ownBlock) s_.2.1 t276) ∧ (Kd.R (Kd.int .u8) 5 w' w.heap.size (fun k_ => some k_ ≠ (s_.1 : Value).ownBlock ∧ some k_ ≠ (s_.2.1 : Value).ownBlock) s_.2.2.1 t280) ∧ (w'.heap[gb265]? = some (.cells #[.bool a0_0, .slice A0_1 l0_1.length c0_1] 24 (0, 0))) ∧ (w'.heap[gb266]? = some (.cells #[.bool false, .slice none 0 0] 24 (0, 0))) ∧ (w'.heap[s_.2.2.2]? = some (.cells #[.bool false, .slice none 0 0] 24 (0, 0))) ∧ (w.heap.size ≤ s_.2.2.2) ∧ (w.heap.size ≤ s_.2.2.2) ∧ (gb265 ≠ s_.2.2.2) ∧ (s_.2.2.2 ≠ gb265) ∧ (gb266 ≠ s_.2.2.2) ∧ (s_.2.2.2 ≠ gb266) ∧ (Below w.heap.size w w')) ?_ ?_
      rotate_left
      · intro hJ2_3_7
        refine join_ (σ := Value × Value × Value × Nat) 3 #[true, true, true, true, true, true, true, false, true, false, false] (fun s_ => [(20, .agg #[.bool t271, s_.1]), (21, .tuple #[.agg #[.bool t275, s_.2.1], .agg #[.bool t279, s_.2.2.1]]), (6, .pointer (some ⟨s_.2.2.2, 0, none⟩)), (17, .tuple #[.agg #[.bool t275, s_.2.1], .agg #[.bool t279, s_.2.2.1]]), (22, .agg #[.bool t275, s_.2.1]), (23, .agg #[.bool t279, s_.2.2.1])]) (fun s_ w' => (w'.cell? ⟨gb265, 0, none⟩ = some (.bool a0_0) ∧ w'.cell? ⟨gb265, 1, none⟩ = some (.slice A0_1 l0_1.length c0_1)) ∧ (Kd.R (Kd.int .u8) 5 w' w.heap.size (fun k_ => some k_ ≠ (s_.2.1 : Value).ownBlock ∧ some k_ ≠ (s_.2.2.1 : Value).ownBlock) s_.1 t272) ∧ (Kd.R (Kd.int .u8) 5 w' w.heap.size (fun k_ => some k_ ≠ (s_.1 : Value).ownBlock ∧ some k_ ≠ (s_.2.2.1 : Value).ownBlock) s_.2.1 t276) ∧ (Kd.R (Kd.int .u8) 5 w' w.heap.size (fun k_ => some k_ ≠ (s_.1 : Value).ownBlock ∧ some k_ ≠ (s_.2.1 : Value).ownBlock) s_.2.2.1 t280) ∧ (w'.heap[gb265]? = some (.cells #[.bool a0_0, .slice A0_1 l0_1.length c0_1] 24 (0, 0))) ∧ (w'.heap[gb266]? = some (.cells #[.bool false, .slice none 0 0] 24 (0, 0))) ∧ (w'.heap[s_.2.2.2]? = some (.cells #[.bool false, .slice none 0 0] 24 (0, 0))) ∧ (w.heap.size ≤ s_.2.2.2) ∧ (w.heap.size ≤ s_.2.2.2) ∧ (gb265 ≠ s_.2.2.2) ∧ (s_.2.2.2 ≠ gb265) ∧ (gb266 ≠ s_.2.2.2) ∧ (s_.2.2.2 ≠ gb266) ∧ (Below w.heap.size w w')) ?_ ?_
        rotate_left
        · intro hJ2_3_8
          refine join_ (σ := Value × Nat × Nat) 6 #[true, true, true, false, false, false, false, true, true, false, false] (fun s_ => [(20, .agg #[.bool t271, s_.1]), (5, .pointer (some ⟨s_.2.1, 0, none⟩)), (6, .pointer (some ⟨s_.2.2, 0, none⟩))]) (fun s_ w' => (w'.cell? ⟨gb265, 0, none⟩ = some (.bool a0_0) ∧ w'.cell? ⟨gb265, 1, none⟩ = some (.slice A0_1 l0_1.length c0_1)) ∧ (Kd.R (Kd.int .u8) 5 w' w.heap.size (fun _ => True) s_.1 t272) ∧ (w'.heap[gb265]? = some (.cells #[.bool a0_0, .slice A0_1 l0_1.length c0_1] 24 (0, 0))) ∧ (w'.heap[gb266]? = some (.cells #[.bool false, .slice none 0 0] 24 (0, 0))) ∧ (w'.heap[s_.2.1]? = some (.cells #[.bool false, .slice none 0 0] 24 (0, 0))) ∧ (w'.heap[s_.2.2]? = some (.cells #[.bool false, .slice none 0 0] 24 (0, 0))) ∧ (w.heap.size ≤ s_.2.1) ∧ (w.heap.size ≤ s_.2.1) ∧ (gb265 ≠ s_.2.1) ∧ (s_.2.1 ≠ gb265) ∧ (gb266 ≠ s_.2.1) ∧ (s_.2.1 ≠ gb266) ∧ (s_.2.2 ≠ s_.2.1) ∧ (s_.2.1 ≠ s_.2.2) ∧ (w.heap.size ≤ s_.2.2) ∧ (w.heap.size ≤ s_.2.2) ∧ (gb265 ≠ s_.2.2) ∧ (s_.2.2 ≠ gb265) ∧ (gb266 ≠ s_.2.2) ∧ (s_.2.2 ≠ gb266) ∧ (Below w.heap.size w w')) ?_ ?_
          rotate_left
          · intro hJ2_7_8
            refine join_ (σ := Value × Value × Value) 4 #[true, true, true, true, true, true, true, false, false, false, false] (fun s_ => [(20, .agg #[.bool t271, s_.1]), (21, .tuple #[.agg #[.bool t275, s_.2.1], .agg #[.bool t279, s_.2.2]]), (17, .tuple #[.agg #[.bool t275, s_.2.1], .agg #[.bool t279, s_.2.2]]), (22, .agg #[.bool t275, s_.2.1]), (23, .agg #[.bool t279, s_.2.2])]) (fun s_ w' => (w'.cell? ⟨gb265, 0, none⟩ = some (.bool a0_0) ∧ w'.cell? ⟨gb265, 1, none⟩ = some (.slice A0_1 l0_1.length c0_1)) ∧ (Kd.R (Kd.int .u8) 5 w' w.heap.size (fun k_ => some k_ ≠ (s_.2.1 : Value).ownBlock ∧ some k_ ≠ (s_.2.2 : Value).ownBlock) s_.1 t272) ∧ (Kd.R (Kd.int .u8) 5 w' w.heap.size (fun k_ => some k_ ≠ (s_.1 : Value).ownBlock ∧ some k_ ≠ (s_.2.2 : Value).ownBlock) s_.2.1 t276) ∧ (Kd.R (Kd.int .u8) 5 w' w.heap.size (fun k_ => some k_ ≠ (s_.1 : Value).ownBlock ∧ some k_ ≠ (s_.2.1 : Value).ownBlock) s_.2.2 t280) ∧ (w'.heap[gb265]? = some (.cells #[.bool a0_0, .slice A0_1 l0_1.length c0_1] 24 (0, 0))) ∧ (w'.heap[gb266]? = some (.cells #[.bool false, .slice none 0 0] 24 (0, 0))) ∧ (Below w.heap.size w w')) ?_ ?_
            rotate_left
            · intro hJ2_3
              refine join_ (σ := Value × Nat) 7 #[true, true, true, false, false, false, false, true, false, false, false] (fun s_ => [(20, .agg #[.bool t271, s_.1]), (5, .pointer (some ⟨s_.2, 0, none⟩))]) (fun s_ w' => (w'.cell? ⟨gb265, 0, none⟩ = some (.bool a0_0) ∧ w'.cell? ⟨gb265, 1, none⟩ = some (.slice A0_1 l0_1.length c0_1)) ∧ (Kd.R (Kd.int .u8) 5 w' w.heap.size (fun _ => True) s_.1 t272) ∧ (w'.heap[gb265]? = some (.cells #[.bool a0_0, .slice A0_1 l0_1.length c0_1] 24 (0, 0))) ∧ (w'.heap[gb266]? = some (.cells #[.bool false, .slice none 0 0] 24 (0, 0))) ∧ (w'.heap[s_.2]? = some (.cells #[.bool false, .slice none 0 0] 24 (0, 0))) ∧ (w.heap.size ≤ s_.2) ∧ (w.heap.size ≤ s_.2) ∧ (gb265 ≠ s_.2) ∧ (s_.2 ≠ gb265) ∧ (gb266 ≠ s_.2) ∧ (s_.2 ≠ gb266) ∧ (Below w.heap.size w w')) ?_ ?_
              rotate_left
              · intro hJ2_7
                refine join_ (σ := Value × Nat) 7 #[true, true, true, false, false, false, false, false, true, false, false] (fun s_ => [(20, .agg #[.bool t271, s_.1]), (6, .pointer (some ⟨s_.2, 0, none⟩))]) (fun s_ w' => (w'.cell? ⟨gb265, 0, none⟩ = some (.bool a0_0) ∧ w'.cell? ⟨gb265, 1, none⟩ = some (.slice A0_1 l0_1.length c0_1)) ∧ (Kd.R (Kd.int .u8) 5 w' w.heap.size (fun _ => True) s_.1 t272) ∧ (w'.heap[gb265]? = some (.cells #[.bool a0_0, .slice A0_1 l0_1.length c0_1] 24 (0, 0))) ∧ (w'.heap[gb266]? = some (.cells #[.bool false, .slice none 0 0] 24 (0, 0))) ∧ (w'.heap[s_.2]? = some (.cells #[.bool false, .slice none 0 0] 24 (0, 0))) ∧ (w.heap.size ≤ s_.2) ∧ (w.heap.size ≤ s_.2) ∧ (gb265 ≠ s_.2) ∧ (s_.2 ≠ gb265) ∧ (gb266 ≠ s_.2) ∧ (s_.2 ≠ gb266) ∧ (Below w.heap.size w w')) ?_ ?_
                rotate_left
                · intro hJ2_8
                  refine join_ (σ := Nat × Nat) 7 #[true, true, false, false, false, false, false, true, true, false, false] (fun s_ => [(5, .pointer (some ⟨s_.1, 0, none⟩)), (6, .pointer (some ⟨s_.2, 0, none⟩))]) (fun s_ w' => (w'.cell? ⟨gb265, 0, none⟩ = some (.bool a0_0) ∧ w'.cell? ⟨gb265, 1, none⟩ = some (.slice A0_1 l0_1.length c0_1)) ∧ (w'.heap[gb265]? = some (.cells #[.bool a0_0, .slice A0_1 l0_1.length c0_1] 24 (0, 0))) ∧ (w'.heap[gb266]? = some (.cells #[.bool false, .slice none 0 0] 24 (0, 0))) ∧ (w'.heap[s_.1]? = some (.cells #[.bool false, .slice none 0 0] 24 (0, 0))) ∧ (w'.heap[s_.2]? = some (.cells #[.bool false, .slice none 0 0] 24 (0, 0))) ∧ (w.heap.size ≤ s_.1) ∧ (w.heap.size ≤ s_.1) ∧ (gb265 ≠ s_.1) ∧ (s_.1 ≠ gb265) ∧ (gb266 ≠ s_.1) ∧ (s_.1 ≠ gb266) ∧ (s_.2 ≠ s_.1) ∧ (s_.1 ≠ s_.2) ∧ (w.heap.size ≤ s_.2) ∧ (w.heap.size ≤ s_.2) ∧ (gb265 ≠ s_.2) ∧ (s_.2 ≠ gb265) ∧ (gb266 ≠ s_.2) ∧ (s_.2 ≠ gb266) ∧ (Below w.heap.size w w')) ?_ ?_
                  rotate_left
                  · intro hJ7_8
                    refine join_ (σ := Value) 8 #[true, true, true, false, false, false, false, false, false, false, false] (fun s_ => [(20, .agg #[.bool t271, s_])]) (fun s_ w' => (w'.cell? ⟨gb265, 0, none⟩ = some (.bool a0_0) ∧ w'.cell? ⟨gb265, 1, none⟩ = some (.slice A0_1 l0_1.length c0_1)) ∧ (Kd.R (Kd.int .u8) 5 w' w.heap.size (fun _ => True) s_ t272) ∧ (w'.heap[gb265]? = some (.cells #[.bool a0_0, .slice A0_1 l0_1.length c0_1] 24 (0, 0))) ∧ (w'.heap[gb266]? = some (.cells #[.bool false, .slice none 0 0] 24 (0, 0))) ∧ (Below w.heap.size w w')) ?_ ?_
                    rotate_left
                    · intro hJ2
                      refine join_ (σ := Nat) 8 #[true, true, false, false, false, false, false, true, false, false, false] (fun s_ => [(5, .pointer (some ⟨s_, 0, none⟩))]) (fun s_ w' => (w'.cell? ⟨gb265, 0, none⟩ = some (.bool a0_0) ∧ w'.cell? ⟨gb265, 1, none⟩ = some (.slice A0_1 l0_1.length c0_1)) ∧ (w'.heap[gb265]? = some (.cells #[.bool a0_0, .slice A0_1 l0_1.length c0_1] 24 (0, 0))) ∧ (w'.heap[gb266]? = some (.cells #[.bool false, .slice none 0 0] 24 (0, 0))) ∧ (w'.heap[s_]? = some (.cells #[.bool false, .slice none 0 0] 24 (0, 0))) ∧ (w.heap.size ≤ s_) ∧ (w.heap.size ≤ s_) ∧ (gb265 ≠ s_) ∧ (s_ ≠ gb265) ∧ (gb266 ≠ s_) ∧ (s_ ≠ gb266) ∧ (Below w.heap.size w w')) ?_ ?_
                      rotate_left
                      · intro hJ7
                        refine join_ (σ := Nat) 8 #[true, true, false, false, false, false, false, false, true, false, false] (fun s_ => [(6, .pointer (some ⟨s_, 0, none⟩))]) (fun s_ w' => (w'.cell? ⟨gb265, 0, none⟩ = some (.bool a0_0) ∧ w'.cell? ⟨gb265, 1, none⟩ = some (.slice A0_1 l0_1.length c0_1)) ∧ (w'.heap[gb265]? = some (.cells #[.bool a0_0, .slice A0_1 l0_1.length c0_1] 24 (0, 0))) ∧ (w'.heap[gb266]? = some (.cells #[.bool false, .slice none 0 0] 24 (0, 0))) ∧ (w'.heap[s_]? = some (.cells #[.bool false, .slice none 0 0] 24 (0, 0))) ∧ (w.heap.size ≤ s_) ∧ (w.heap.size ≤ s_) ∧ (gb265 ≠ s_) ∧ (s_ ≠ gb265) ∧ (gb266 ≠ s_) ∧ (s_ ≠ gb266) ∧ (Below w.heap.size w w')) ?_ ?_
                        rotate_left
                        · intro hJ8
                          refine three_ (i := 2) (j := 7) (k := 8) (Ni := some 20) (Nj := some 5) (Nk := some 6) #[true, true, true, false, false, false, false, false, false, false, false] #[true, true, false, false, false, false, false, true, false, false, false] #[true, true, false, false, false, false, false, false, true, false, false] rfl rfl rfl rfl rfl rfl (three_of HT_.out (by kernel_rfl)) (by decide) (by decide) (by decide) (fun K hK => ?_) (fun K hK => ?_) (fun K hK => ?_)
                          · skip
                            refine goes_ Tryz.func21 (by kernel_rfl) rfl #[.int .i64 a1] (by rfl) rfl rfl (by (try simp only [List.map_toArray, List.map_cons, List.map_nil]); first | done | rfl | (simp only [List.length_drop, List.length_take]; rfl)) ?_
                            with_reducible refine (spec_Power.calls k a1 t271 t272 _ A18.out).mono ?_
                            rintro e w25 ⟨v273, rfl, ho0, hb⟩
                            refine ⟨_, rfl, ?_⟩
                            have n0_ := Aside0.mk (Kd.R_lower ho0 (below_size HB.out))
                            have n1_ := Aside0.mk (blk_below BK265.out hb)
                            have n2_ := Aside0.mk (blk_below BK266.out hb)
                            have n3_ := Aside0.mk (below_step HB.out hb)
                            clear BK265
                            clear BK266
                            clear HB
                            have HO274 := n0_
                            have BK265 := n1_
                            have BK266 := n2_
                            have HB := n3_
                            clear n0_ n1_ n2_ n3_
                            (try clear hb)
                            (try clear hb2)
                            (try clear hk)
                            (try clear hi)
                            (try clear ho0)
                            refine hK.out _ _ ⟨(blk_cell BK265.out 0).trans rfl, (blk_cell BK265.out 1).trans rfl⟩ (fun hHeld => ?_)
                            clear hK K
                            refine norm_ (a' := ?_) ?_ ?_
                            rotate_left
                            · show Act.put _ (some 20) _ = _
                              simp only [Act.put, List.setIfInBounds_toArray, List.set_cons_zero, List.set_cons_succ, i64_w, i32_w]
                              rfl
                            exact norm_ (by simp only [putAll, Act.put, List.setIfInBounds_toArray, List.set_cons_zero, List.set_cons_succ] <;> rfl) (hJ2 (v273) _ ⟨hHeld, HO274.out, BK265.out, BK266.out, HB.out⟩)
                          · skip
                            refine box_step ?hg (N := 5) ?hd (cs := #[.bool false, .slice none 0 0]) (t := 24) ?hr ?_; (case hd => rfl); (case hg => rfl); (case hr => first | (go_simp; done) | (go_simp; rfl))
                            intro gb283 hg w25 hbox hb
                            have n0_ := Aside0.mk (blk_below BK265.out hb)
                            have n1_ := Aside0.mk (blk_below BK266.out hb)
                            have n2_ := Aside0.mk (below_step HB.out hb)
                            have n3_ := Aside0.mk (hbox)
                            have n4_ := Aside0.mk ((by rw [hg]; exact (below_size HB.out) : w.heap.size ≤ gb283))
                            have n5_ := Aside0.mk ((by rw [hg]; exact (below_size HB.out) : w.heap.size ≤ gb283))
                            have n6_ := Aside0.mk ((by rw [hg]; exact Nat.ne_of_lt (blk_lt BK265.out) : gb265 ≠ gb283))
                            have n7_ := Aside0.mk ((by rw [hg]; exact Nat.ne_of_gt (blk_lt BK265.out) : gb283 ≠ gb265))
                            have n8_ := Aside0.mk ((by rw [hg]; exact Nat.ne_of_lt (blk_lt BK266.out) : gb266 ≠ gb283))
                            have n9_ := Aside0.mk ((by rw [hg]; exact Nat.ne_of_gt (blk_lt BK266.out) : gb283 ≠ gb266))
                            clear BK265
                            clear BK266
                            clear HB
                            have BK265 := n0_
                            have BK266 := n1_
                            have HB := n2_
                            have BK283 := n3_
                            have GW283 := n4_
                            have GE283 := n5_
                            have NB265_283 := n6_
                            have NB283_265 := n7_
                            have NB266_283 := n8_
                            have NB283_266 := n9_
                            clear n0_ n1_ n2_ n3_ n4_ n5_ n6_ n7_ n8_ n9_
                            clear hb hbox hg
                            refine hK.out _ _ ⟨(blk_cell BK265.out 0).trans rfl, (blk_cell BK265.out 1).trans rfl⟩ (fun hHeld => ?_)
                            clear hK K
                            refine norm_ (a' := ?_) ?_ ?_
                            rotate_left
                            · show Act.put _ (some 5) _ = _
                              simp only [Act.put, List.setIfInBounds_toArray, List.set_cons_zero, List.set_cons_succ, i64_w, i32_w]
                              rfl
                            exact norm_ (by simp only [putAll, Act.put, List.setIfInBounds_toArray, List.set_cons_zero, List.set_cons_succ] <;> rfl) (hJ7 (gb283) _ ⟨hHeld, BK265.out, BK266.out, BK283.out, GW283.out, GE283.out, NB265_283.out, NB283_265.out, NB266_283.out, NB283_266.out, HB.out⟩)
                          · skip
                            refine box_step ?hg (N := 6) ?hd (cs := #[.bool false, .slice none 0 0]) (t := 24) ?hr ?_; (case hd => rfl); (case hg => rfl); (case hr => first | (go_simp; done) | (go_simp; rfl))
                            intro gb284 hg w25 hbox hb
                            have n0_ := Aside0.mk (blk_below BK265.out hb)
                            have n1_ := Aside0.mk (blk_below BK266.out hb)
                            have n2_ := Aside0.mk (below_step HB.out hb)
                            have n3_ := Aside0.mk (hbox)
                            have n4_ := Aside0.mk ((by rw [hg]; exact (below_size HB.out) : w.heap.size ≤ gb284))
                            have n5_ := Aside0.mk ((by rw [hg]; exact (below_size HB.out) : w.heap.size ≤ gb284))
                            have n6_ := Aside0.mk ((by rw [hg]; exact Nat.ne_of_lt (blk_lt BK265.out) : gb265 ≠ gb284))
                            have n7_ := Aside0.mk ((by rw [hg]; exact Nat.ne_of_gt (blk_lt BK265.out) : gb284 ≠ gb265))
                            have n8_ := Aside0.mk ((by rw [hg]; exact Nat.ne_of_lt (blk_lt BK266.out) : gb266 ≠ gb284))
                            have n9_ := Aside0.mk ((by rw [hg]; exact Nat.ne_of_gt (blk_lt BK266.out) : gb284 ≠ gb266))
                            clear BK265
                            clear BK266
                            clear HB
                            have BK265 := n0_
                            have BK266 := n1_
                            have HB := n2_
                            have BK284 := n3_
                            have GW284 := n4_
                            have GE284 := n5_
                            have NB265_284 := n6_
                            have NB284_265 := n7_
                            have NB266_284 := n8_
                            have NB284_266 := n9_
                            clear n0_ n1_ n2_ n3_ n4_ n5_ n6_ n7_ n8_ n9_
                            clear hb hbox hg
                            refine hK.out _ _ ⟨(blk_cell BK265.out 0).trans rfl, (blk_cell BK265.out 1).trans rfl⟩ (fun hHeld => ?_)
                            clear hK K
                            refine norm_ (a' := ?_) ?_ ?_
                            rotate_left
                            · show Act.put _ (some 6) _ = _
                              simp only [Act.put, List.setIfInBounds_toArray, List.set_cons_zero, List.set_cons_succ, i64_w, i32_w]
                              rfl
                            exact norm_ (by simp only [putAll, Act.put, List.setIfInBounds_toArray, List.set_cons_zero, List.set_cons_succ] <;> rfl) (hJ8 (gb284) _ ⟨hHeld, BK265.out, BK266.out, BK284.out, GW284.out, GE284.out, NB265_284.out, NB284_265.out, NB266_284.out, NB284_266.out, HB.out⟩)
                        · skip
                          rintro gb284 w26 ⟨hS_, h0_, h1_, h2_, h3_, h4_, h5_, h6_, h7_, h8_, h9_⟩
                          have n0_ : Aside0 (w26.heap[gb265]? = some (.cells #[.bool a0_0, .slice A0_1 l0_1.length c0_1] 24 (0, 0))) := ⟨h0_⟩
                          have n1_ : Aside0 (w26.heap[gb266]? = some (.cells #[.bool false, .slice none 0 0] 24 (0, 0))) := ⟨h1_⟩
                          have n2_ : Aside0 (w26.heap[gb284]? = some (.cells #[.bool false, .slice none 0 0] 24 (0, 0))) := ⟨h2_⟩
                          have n3_ : Aside0 (w.heap.size ≤ gb284) := ⟨h3_⟩
                          have n4_ : Aside0 (w.heap.size ≤ gb284) := ⟨h4_⟩
                          have n5_ : Aside0 (gb265 ≠ gb284) := ⟨h5_⟩
                          have n6_ : Aside0 (gb284 ≠ gb265) := ⟨h6_⟩
                          have n7_ : Aside0 (gb266 ≠ gb284) := ⟨h7_⟩
                          have n8_ : Aside0 (gb284 ≠ gb266) := ⟨h8_⟩
                          have n9_ : Aside0 (Below w.heap.size w w26) := ⟨h9_⟩
                          clear BK265
                          clear BK266
                          clear HB
                          clear h0_ h1_ h2_ h3_ h4_ h5_ h6_ h7_ h8_ h9_
                          have BK265 := n0_
                          have BK266 := n1_
                          have BK284 := n2_
                          have GW284 := n3_
                          have GE284 := n4_
                          have NB265_284 := n5_
                          have NB284_265 := n6_
                          have NB266_284 := n7_
                          have NB284_266 := n8_
                          have HB := n9_
                          clear n0_ n1_ n2_ n3_ n4_ n5_ n6_ n7_ n8_ n9_
                          have hHeld : w26.cell? ⟨gb265, 0, none⟩ = some (.bool a0_0) ∧ w26.cell? ⟨gb265, 1, none⟩ = some (.slice A0_1 l0_1.length c0_1) := hS_
                          refine norm_ (a' := ?_) ?_ ?_
                          rotate_left
                          · simp only [putAll, Act.put, List.setIfInBounds_toArray, List.set_cons_zero, List.set_cons_succ]
                            rfl
                          refine two_ (i := 2) (j := 7) (Ni := some 20) (Nj := some 5) #[true, true, true, false, false, false, false, false, true, false, false] #[true, true, false, false, false, false, false, true, true, false, false] rfl rfl rfl rfl (two_of HT_.out (by kernel_rfl)) (by decide) (by decide) (fun K hK => ?_) (fun K hK => ?_)
                          · skip
                            refine goes_ Tryz.func21 (by kernel_rfl) rfl #[.int .i64 a1] (by rfl) rfl rfl (by (try simp only [List.map_toArray, List.map_cons, List.map_nil]); first | done | rfl | (simp only [List.length_drop, List.length_take]; rfl)) ?_
                            with_reducible refine (spec_Power.calls k a1 t271 t272 _ A18.out).mono ?_
                            rintro e w27 ⟨v273, rfl, ho0, hb⟩
                            refine ⟨_, rfl, ?_⟩
                            have n0_ := Aside0.mk (Kd.R_lower ho0 (below_size HB.out))
                            have n1_ := Aside0.mk (blk_below BK265.out hb)
                            have n2_ := Aside0.mk (blk_below BK266.out hb)
                            have n3_ := Aside0.mk (blk_below BK284.out hb)
                            have n4_ := Aside0.mk (below_step HB.out hb)
                            clear BK265
                            clear BK266
                            clear BK284
                            clear HB
                            have HO274 := n0_
                            have BK265 := n1_
                            have BK266 := n2_
                            have BK284 := n3_
                            have HB := n4_
                            clear n0_ n1_ n2_ n3_ n4_
                            (try clear hb)
                            (try clear hb2)
                            (try clear hk)
                            (try clear hi)
                            (try clear ho0)
                            refine hK.out _ _ ⟨(blk_cell BK265.out 0).trans rfl, (blk_cell BK265.out 1).trans rfl⟩ (fun hHeld => ?_)
                            clear hK K
                            refine norm_ (a' := ?_) ?_ ?_
                            rotate_left
                            · show Act.put _ (some 20) _ = _
                              simp only [Act.put, List.setIfInBounds_toArray, List.set_cons_zero, List.set_cons_succ, i64_w, i32_w]
                              rfl
                            exact norm_ (by simp only [putAll, Act.put, List.setIfInBounds_toArray, List.set_cons_zero, List.set_cons_succ] <;> rfl) (hJ2_8 (v273, gb284) _ ⟨hHeld, HO274.out, BK265.out, BK266.out, BK284.out, GW284.out, GE284.out, NB265_284.out, NB284_265.out, NB266_284.out, NB284_266.out, HB.out⟩)
                          · skip
                            refine box_step ?hg (N := 5) ?hd (cs := #[.bool false, .slice none 0 0]) (t := 24) ?hr ?_; (case hd => rfl); (case hg => rfl); (case hr => first | (go_simp; done) | (go_simp; rfl))
                            intro gb283 hg w27 hbox hb
                            have n0_ := Aside0.mk (blk_below BK265.out hb)
                            have n1_ := Aside0.mk (blk_below BK266.out hb)
                            have n2_ := Aside0.mk (blk_below BK284.out hb)
                            have n3_ := Aside0.mk (below_step HB.out hb)
                            have n4_ := Aside0.mk (hbox)
                            have n5_ := Aside0.mk ((by rw [hg]; exact (below_size HB.out) : w.heap.size ≤ gb283))
                            have n6_ := Aside0.mk ((by rw [hg]; exact (below_size HB.out) : w.heap.size ≤ gb283))
                            have n7_ := Aside0.mk ((by rw [hg]; exact Nat.ne_of_lt (blk_lt BK265.out) : gb265 ≠ gb283))
                            have n8_ := Aside0.mk ((by rw [hg]; exact Nat.ne_of_gt (blk_lt BK265.out) : gb283 ≠ gb265))
                            have n9_ := Aside0.mk ((by rw [hg]; exact Nat.ne_of_lt (blk_lt BK266.out) : gb266 ≠ gb283))
                            have n10_ := Aside0.mk ((by rw [hg]; exact Nat.ne_of_gt (blk_lt BK266.out) : gb283 ≠ gb266))
                            have n11_ := Aside0.mk ((by rw [hg]; exact Nat.ne_of_lt (blk_lt BK284.out) : gb284 ≠ gb283))
                            have n12_ := Aside0.mk ((by rw [hg]; exact Nat.ne_of_gt (blk_lt BK284.out) : gb283 ≠ gb284))
                            clear BK265
                            clear BK266
                            clear BK284
                            clear HB
                            have BK265 := n0_
                            have BK266 := n1_
                            have BK284 := n2_
                            have HB := n3_
                            have BK283 := n4_
                            have GW283 := n5_
                            have GE283 := n6_
                            have NB265_283 := n7_
                            have NB283_265 := n8_
                            have NB266_283 := n9_
                            have NB283_266 := n10_
                            have NB284_283 := n11_
                            have NB283_284 := n12_
                            clear n0_ n1_ n2_ n3_ n4_ n5_ n6_ n7_ n8_ n9_ n10_ n11_ n12_
                            clear hb hbox hg
                            refine hK.out _ _ ⟨(blk_cell BK265.out 0).trans rfl, (blk_cell BK265.out 1).trans rfl⟩ (fun hHeld => ?_)
                            clear hK K
                            refine norm_ (a' := ?_) ?_ ?_
                            rotate_left
                            · show Act.put _ (some 5) _ = _
                              simp only [Act.put, List.setIfInBounds_toArray, List.set_cons_zero, List.set_cons_succ, i64_w, i32_w]
                              rfl
                            exact norm_ (by simp only [putAll, Act.put, List.setIfInBounds_toArray, List.set_cons_zero, List.set_cons_succ] <;> rfl) (hJ7_8 (gb283, gb284) _ ⟨hHeld, BK265.out, BK266.out, BK283.out, BK284.out, GW283.out, GE283.out, NB265_283.out, NB283_265.out, NB266_283.out, NB283_266.out, NB284_283.out, NB283_284.out, GW284.out, GE284.out, NB265_284.out, NB284_265.out, NB266_284.out, NB284_266.out, HB.out⟩)
                      · skip
                        rintro gb283 w26 ⟨hS_, h0_, h1_, h2_, h3_, h4_, h5_, h6_, h7_, h8_, h9_⟩
                        have n0_ : Aside0 (w26.heap[gb265]? = some (.cells #[.bool a0_0, .slice A0_1 l0_1.length c0_1] 24 (0, 0))) := ⟨h0_⟩
                        have n1_ : Aside0 (w26.heap[gb266]? = some (.cells #[.bool false, .slice none 0 0] 24 (0, 0))) := ⟨h1_⟩
                        have n2_ : Aside0 (w26.heap[gb283]? = some (.cells #[.bool false, .slice none 0 0] 24 (0, 0))) := ⟨h2_⟩
                        have n3_ : Aside0 (w.heap.size ≤ gb283) := ⟨h3_⟩
                        have n4_ : Aside0 (w.heap.size ≤ gb283) := ⟨h4_⟩
                        have n5_ : Aside0 (gb265 ≠ gb283) := ⟨h5_⟩
                        have n6_ : Aside0 (gb283 ≠ gb265) := ⟨h6_⟩
                        have n7_ : Aside0 (gb266 ≠ gb283) := ⟨h7_⟩
                        have n8_ : Aside0 (gb283 ≠ gb266) := ⟨h8_⟩
                        have n9_ : Aside0 (Below w.heap.size w w26) := ⟨h9_⟩
                        clear BK265
                        clear BK266
                        clear HB
                        clear h0_ h1_ h2_ h3_ h4_ h5_ h6_ h7_ h8_ h9_
                        have BK265 := n0_
                        have BK266 := n1_
                        have BK283 := n2_
                        have GW283 := n3_
                        have GE283 := n4_
                        have NB265_283 := n5_
                        have NB283_265 := n6_
                        have NB266_283 := n7_
                        have NB283_266 := n8_
                        have HB := n9_
                        clear n0_ n1_ n2_ n3_ n4_ n5_ n6_ n7_ n8_ n9_
                        have hHeld : w26.cell? ⟨gb265, 0, none⟩ = some (.bool a0_0) ∧ w26.cell? ⟨gb265, 1, none⟩ = some (.slice A0_1 l0_1.length c0_1) := hS_
                        refine norm_ (a' := ?_) ?_ ?_
                        rotate_left
                        · simp only [putAll, Act.put, List.setIfInBounds_toArray, List.set_cons_zero, List.set_cons_succ]
                          rfl
                        refine two_ (i := 2) (j := 8) (Ni := some 20) (Nj := some 6) #[true, true, true, false, false, false, false, true, false, false, false] #[true, true, false, false, false, false, false, true, true, false, false] rfl rfl rfl rfl (two_of HT_.out (by kernel_rfl)) (by decide) (by decide) (fun K hK => ?_) (fun K hK => ?_)
                        · skip
                          refine goes_ Tryz.func21 (by kernel_rfl) rfl #[.int .i64 a1] (by rfl) rfl rfl (by (try simp only [List.map_toArray, List.map_cons, List.map_nil]); first | done | rfl | (simp only [List.length_drop, List.length_take]; rfl)) ?_
                          with_reducible refine (spec_Power.calls k a1 t271 t272 _ A18.out).mono ?_
                          rintro e w27 ⟨v273, rfl, ho0, hb⟩
                          refine ⟨_, rfl, ?_⟩
                          have n0_ := Aside0.mk (Kd.R_lower ho0 (below_size HB.out))
                          have n1_ := Aside0.mk (blk_below BK265.out hb)
                          have n2_ := Aside0.mk (blk_below BK266.out hb)
                          have n3_ := Aside0.mk (blk_below BK283.out hb)
                          have n4_ := Aside0.mk (below_step HB.out hb)
                          clear BK265
                          clear BK266
                          clear BK283
                          clear HB
                          have HO274 := n0_
                          have BK265 := n1_
                          have BK266 := n2_
                          have BK283 := n3_
                          have HB := n4_
                          clear n0_ n1_ n2_ n3_ n4_
                          (try clear hb)
                          (try clear hb2)
                          (try clear hk)
                          (try clear hi)
                          (try clear ho0)
                          refine hK.out _ _ ⟨(blk_cell BK265.out 0).trans rfl, (blk_cell BK265.out 1).trans rfl⟩ (fun hHeld => ?_)
                          clear hK K
                          refine norm_ (a' := ?_) ?_ ?_
                          rotate_left
                          · show Act.put _ (some 20) _ = _
                            simp only [Act.put, List.setIfInBounds_toArray, List.set_cons_zero, List.set_cons_succ, i64_w, i32_w]
                            rfl
                          exact norm_ (by simp only [putAll, Act.put, List.setIfInBounds_toArray, List.set_cons_zero, List.set_cons_succ] <;> rfl) (hJ2_7 (v273, gb283) _ ⟨hHeld, HO274.out, BK265.out, BK266.out, BK283.out, GW283.out, GE283.out, NB265_283.out, NB283_265.out, NB266_283.out, NB283_266.out, HB.out⟩)
                        · skip
                          refine box_step ?hg (N := 6) ?hd (cs := #[.bool false, .slice none 0 0]) (t := 24) ?hr ?_; (case hd => rfl); (case hg => rfl); (case hr => first | (go_simp; done) | (go_simp; rfl))
                          intro gb284 hg w27 hbox hb
                          have n0_ := Aside0.mk (blk_below BK265.out hb)
                          have n1_ := Aside0.mk (blk_below BK266.out hb)
                          have n2_ := Aside0.mk (blk_below BK283.out hb)
                          have n3_ := Aside0.mk (below_step HB.out hb)
                          have n4_ := Aside0.mk (hbox)
                          have n5_ := Aside0.mk ((by rw [hg]; exact (below_size HB.out) : w.heap.size ≤ gb284))
                          have n6_ := Aside0.mk ((by rw [hg]; exact (below_size HB.out) : w.heap.size ≤ gb284))
                          have n7_ := Aside0.mk ((by rw [hg]; exact Nat.ne_of_lt (blk_lt BK265.out) : gb265 ≠ gb284))
                          have n8_ := Aside0.mk ((by rw [hg]; exact Nat.ne_of_gt (blk_lt BK265.out) : gb284 ≠ gb265))
                          have n9_ := Aside0.mk ((by rw [hg]; exact Nat.ne_of_lt (blk_lt BK266.out) : gb266 ≠ gb284))
                          have n10_ := Aside0.mk ((by rw [hg]; exact Nat.ne_of_gt (blk_lt BK266.out) : gb284 ≠ gb266))
                          have n11_ := Aside0.mk ((by rw [hg]; exact Nat.ne_of_lt (blk_lt BK283.out) : gb283 ≠ gb284))
                          have n12_ := Aside0.mk ((by rw [hg]; exact Nat.ne_of_gt (blk_lt BK283.out) : gb284 ≠ gb283))
                          clear BK265
                          clear BK266
                          clear BK283
                          clear HB
                          have BK265 := n0_
                          have BK266 := n1_
                          have BK283 := n2_
                          have HB := n3_
                          have BK284 := n4_
                          have GW284 := n5_
                          have GE284 := n6_
                          have NB265_284 := n7_
                          have NB284_265 := n8_
                          have NB266_284 := n9_
                          have NB284_266 := n10_
                          have NB283_284 := n11_
                          have NB284_283 := n12_
                          clear n0_ n1_ n2_ n3_ n4_ n5_ n6_ n7_ n8_ n9_ n10_ n11_ n12_
                          clear hb hbox hg
                          refine hK.out _ _ ⟨(blk_cell BK265.out 0).trans rfl, (blk_cell BK265.out 1).trans rfl⟩ (fun hHeld => ?_)
                          clear hK K
                          refine norm_ (a' := ?_) ?_ ?_
                          rotate_left
                          · show Act.put _ (some 6) _ = _
                            simp only [Act.put, List.setIfInBounds_toArray, List.set_cons_zero, List.set_cons_succ, i64_w, i32_w]
                            rfl
                          exact norm_ (by simp only [putAll, Act.put, List.setIfInBounds_toArray, List.set_cons_zero, List.set_cons_succ] <;> rfl) (hJ7_8 (gb283, gb284) _ ⟨hHeld, BK265.out, BK266.out, BK283.out, BK284.out, GW283.out, GE283.out, NB265_283.out, NB283_265.out, NB266_283.out, NB283_266.out, NB284_283.out, NB283_284.out, GW284.out, GE284.out, NB265_284.out, NB284_265.out, NB266_284.out, NB284_266.out, HB.out⟩)
                    · skip
                      rintro v273 w26 ⟨hS_, h0_, h1_, h2_, h3_⟩
                      have n0_ : Aside0 (Kd.R (Kd.int .u8) 5 w26 w.heap.size (fun _ => True) v273 t272) := ⟨h0_⟩
                      have n1_ : Aside0 (w26.heap[gb265]? = some (.cells #[.bool a0_0, .slice A0_1 l0_1.length c0_1] 24 (0, 0))) := ⟨h1_⟩
                      have n2_ : Aside0 (w26.heap[gb266]? = some (.cells #[.bool false, .slice none 0 0] 24 (0, 0))) := ⟨h2_⟩
                      have n3_ : Aside0 (Below w.heap.size w w26) := ⟨h3_⟩
                      clear BK265
                      clear BK266
                      clear HB
                      clear h0_ h1_ h2_ h3_
                      have HO274 := n0_
                      have BK265 := n1_
                      have BK266 := n2_
                      have HB := n3_
                      clear n0_ n1_ n2_ n3_
                      have hHeld : w26.cell? ⟨gb265, 0, none⟩ = some (.bool a0_0) ∧ w26.cell? ⟨gb265, 1, none⟩ = some (.slice A0_1 l0_1.length c0_1) := hS_
                      obtain ⟨Ao27, co27, eo27⟩ := Kd.R_slice HO274.out
                      (first | subst eo27 | (injection eo27 with f1_ f2_ f3_; have f4_ := f1_.symm; have f5_ := f3_.symm; clear f1_ f2_ f3_; subst f4_; subst f5_))
                      refine norm_ (a' := ?_) ?_ ?_
                      rotate_left
                      · simp only [putAll, Act.put, List.setIfInBounds_toArray, List.set_cons_zero, List.set_cons_succ]
                        rfl
                      refine three_ (i := 3) (j := 7) (k := 8) (Ni := some 21) (Nj := some 5) (Nk := some 6) #[true, true, true, true, false, false, false, false, false, false, false] #[true, true, true, false, false, false, false, true, false, false, false] #[true, true, true, false, false, false, false, false, true, false, false] rfl rfl rfl rfl rfl rfl (three_of HT_.out (by kernel_rfl)) (by decide) (by decide) (by decide) (fun K hK => ?_) (fun K hK => ?_) (fun K hK => ?_)
                      · skip
                        refine goes_ Tryz.func34 (by kernel_rfl) rfl #[.agg #[.bool a0_0, .slice A0_1 l0_1.length c0_1], .agg #[.bool t271, .slice Ao27 t272.length co27]] (by rfl) rfl rfl (by (try simp only [List.map_toArray, List.map_cons, List.map_nil]); first | done | rfl | (simp only [List.length_drop, List.length_take]; rfl)) ?_
                        with_reducible refine (spec_Int_Floor.calls k a0_0 _ _ l0_1 t271 _ _ t272 t275 t276 t279 t280 _ ?side1 ?side2 ?side3 ?side4 A19.out).mono ?_
                        (case side1 => repeat (first | exact (Kd.C_below HR0_1.out HB.out) | (with_reducible refine Kd.C_alloc ?_ _) | (with_reducible refine Kd.C_drewN ?_ _) | (with_reducible refine Kd.C_drew ?_)))
                        (case side2 => exact HC0_1.out)
                        (case side3 => repeat (first | exact (Kd.R_reads' HO274.out).2.2 | (with_reducible refine Kd.C_alloc ?_ _) | (with_reducible refine Kd.C_drewN ?_ _) | (with_reducible refine Kd.C_drew ?_)))
                        (case side4 => exact (Kd.R_reads' HO274.out).2.1)
                        rintro e w28 ⟨v277, v281, rfl, ho0, ho1, hb⟩
                        refine ⟨_, rfl, ?_⟩
                        have n0_ := Aside0.mk (Kd.R_mono (Kd.R_told (Kd.R_told (Kd.R_old HO274.out hb) (Kd.R_base ho0)) (Kd.R_base ho1)) (fun _ h_ => h_.1))
                        have n1_ := Aside0.mk (Kd.R_lower (Kd.R_new' ho0 (Kd.R_lt HO274.out)) (below_size HB.out))
                        have n2_ := Aside0.mk (Kd.R_lower (Kd.R_new' ho1 (Kd.R_lt HO274.out)) (below_size HB.out))
                        have n3_ := Aside0.mk (blk_below BK265.out hb)
                        have n4_ := Aside0.mk (blk_below BK266.out hb)
                        have n5_ := Aside0.mk (below_step HB.out hb)
                        clear HO274
                        clear BK265
                        clear BK266
                        clear HB
                        have HO274 := n0_
                        have HO278 := n1_
                        have HO282 := n2_
                        have BK265 := n3_
                        have BK266 := n4_
                        have HB := n5_
                        clear n0_ n1_ n2_ n3_ n4_ n5_
                        (try clear hb)
                        (try clear hb2)
                        (try clear hk)
                        (try clear hi)
                        (try clear ho0)
                        (try clear ho1)
                        refine hK.out _ _ ⟨(blk_cell BK265.out 0).trans rfl, (blk_cell BK265.out 1).trans rfl⟩ (fun hHeld => ?_)
                        clear hK K
                        refine norm_ (a' := ?_) ?_ ?_
                        rotate_left
                        · show Act.put _ (some 21) _ = _
                          simp only [Act.put, List.setIfInBounds_toArray, List.set_cons_zero, List.set_cons_succ, i64_w, i32_w]
                          rfl
                        refine pure_ (i := 4) (N := some 17) (v := ?_) (a' := ?_) #[true, true, true, true, true, false, false, false, false, false, false] rfl rfl (any_of HT_.out (by kernel_rfl)) (fun _ _ _ h => h) (Or.inl ⟨by rfl, ?_⟩) ?_ ?_
                        rotate_left
                        · intro w'
                          go_simp
                          with_reducible rfl
                        rotate_left
                        · simp only [Act.put, List.setIfInBounds_toArray, List.set_cons_zero, List.set_cons_succ, i64_w, i32_w]
                          rfl
                        refine pure_ (i := 5) (N := some 22) (v := ?_) (a' := ?_) #[true, true, true, true, true, true, false, false, false, false, false] rfl rfl (any_of HT_.out (by kernel_rfl)) (fun _ _ _ h => h) (Or.inl ⟨by rfl, ?_⟩) ?_ ?_
                        rotate_left
                        · intro w'
                          go_simp
                          with_reducible rfl
                        rotate_left
                        · simp only [Act.put, List.setIfInBounds_toArray, List.set_cons_zero, List.set_cons_succ, i64_w, i32_w]
                          rfl
                        refine pure_ (i := 6) (N := some 23) (v := ?_) (a' := ?_) #[true, true, true, true, true, true, true, false, false, false, false] rfl rfl (any_of HT_.out (by kernel_rfl)) (fun _ _ _ h => h) (Or.inl ⟨by rfl, ?_⟩) ?_ ?_
                        rotate_left
                        · intro w'
                          go_simp
                          with_reducible rfl
                        rotate_left
                        · simp only [Act.put, List.setIfInBounds_toArray, List.set_cons_zero, List.set_cons_succ, i64_w, i32_w]
                          rfl
                        exact norm_ (by simp only [putAll, Act.put, List.setIfInBounds_toArray, List.set_cons_zero, List.set_cons_succ] <;> rfl) (hJ2_3 (.slice Ao27 t272.length co27, v277, v281) _ ⟨hHeld, (by (with_reducible repeat (first | apply Kd.R_alloc | apply Kd.R_drewN | apply Kd.R_drew)); exact Kd.R_mono HO274.out (fun _ hk => ⟨hk.1.2, hk.2⟩)), (by (with_reducible repeat (first | apply Kd.R_alloc | apply Kd.R_drewN | apply Kd.R_drew)); exact Kd.R_mono HO278.out (fun _ hk => ⟨hk.2, hk.1⟩)), (by (with_reducible repeat (first | apply Kd.R_alloc | apply Kd.R_drewN | apply Kd.R_drew)); exact Kd.R_mono HO282.out (fun _ hk => ⟨hk.2, hk.1⟩)), BK265.out, BK266.out, HB.out⟩)
                      · skip
                        refine box_step ?hg (N := 5) ?hd (cs := #[.bool false, .slice none 0 0]) (t := 24) ?hr ?_; (case hd => rfl); (case hg => rfl); (case hr => first | (go_simp; done) | (go_simp; rfl))
                        intro gb283 hg w27 hbox hb
                        have n0_ := Aside0.mk (Kd.R_below HO274.out hb)
                        have n1_ := Aside0.mk (blk_below BK265.out hb)
                        have n2_ := Aside0.mk (blk_below BK266.out hb)
                        have n3_ := Aside0.mk (below_step HB.out hb)
                        have n4_ := Aside0.mk (hbox)
                        have n5_ := Aside0.mk ((by rw [hg]; exact (below_size HB.out) : w.heap.size ≤ gb283))
                        have n6_ := Aside0.mk ((by rw [hg]; exact (below_size HB.out) : w.heap.size ≤ gb283))
                        have n7_ := Aside0.mk ((by rw [hg]; exact Nat.ne_of_lt (blk_lt BK265.out) : gb265 ≠ gb283))
                        have n8_ := Aside0.mk ((by rw [hg]; exact Nat.ne_of_gt (blk_lt BK265.out) : gb283 ≠ gb265))
                        have n9_ := Aside0.mk ((by rw [hg]; exact Nat.ne_of_lt (blk_lt BK266.out) : gb266 ≠ gb283))
                        have n10_ := Aside0.mk ((by rw [hg]; exact Nat.ne_of_gt (blk_lt BK266.out) : gb283 ≠ gb266))
                        clear HO274
                        clear BK265
                        clear BK266
                        clear HB
                        have HO274 := n0_
                        have BK265 := n1_
                        have BK266 := n2_
                        have HB := n3_
                        have BK283 := n4_
                        have GW283 := n5_
                        have GE283 := n6_
                        have NB265_283 := n7_
                        have NB283_265 := n8_
                        have NB266_283 := n9_
                        have NB283_266 := n10_
                        clear n0_ n1_ n2_ n3_ n4_ n5_ n6_ n7_ n8_ n9_ n10_
                        clear hb hbox hg
                        refine hK.out _ _ ⟨(blk_cell BK265.out 0).trans rfl, (blk_cell BK265.out 1).trans rfl⟩ (fun hHeld => ?_)
                        clear hK K
                        refine norm_ (a' := ?_) ?_ ?_
                        rotate_left
                        · show Act.put _ (some 5) _ = _
                          simp only [Act.put, List.setIfInBounds_toArray, List.set_cons_zero, List.set_cons_succ, i64_w, i32_w]
                          rfl
                        exact norm_ (by simp only [putAll, Act.put, List.setIfInBounds_toArray, List.set_cons_zero, List.set_cons_succ] <;> rfl) (hJ2_7 (_, gb283) _ ⟨hHeld, HO274.out, BK265.out, BK266.out, BK283.out, GW283.out, GE283.out, NB265_283.out, NB283_265.out, NB266_283.out, NB283_266.out, HB.out⟩)
                      · skip
                        refine box_step ?hg (N := 6) ?hd (cs := #[.bool false, .slice none 0 0]) (t := 24) ?hr ?_; (case hd => rfl); (case hg => rfl); (case hr => first | (go_simp; done) | (go_simp; rfl))
                        intro gb284 hg w27 hbox hb
                        have n0_ := Aside0.mk (Kd.R_below HO274.out hb)
                        have n1_ := Aside0.mk (blk_below BK265.out hb)
                        have n2_ := Aside0.mk (blk_below BK266.out hb)
                        have n3_ := Aside0.mk (below_step HB.out hb)
                        have n4_ := Aside0.mk (hbox)
                        have n5_ := Aside0.mk ((by rw [hg]; exact (below_size HB.out) : w.heap.size ≤ gb284))
                        have n6_ := Aside0.mk ((by rw [hg]; exact (below_size HB.out) : w.heap.size ≤ gb284))
                        have n7_ := Aside0.mk ((by rw [hg]; exact Nat.ne_of_lt (blk_lt BK265.out) : gb265 ≠ gb284))
                        have n8_ := Aside0.mk ((by rw [hg]; exact Nat.ne_of_gt (blk_lt BK265.out) : gb284 ≠ gb265))
                        have n9_ := Aside0.mk ((by rw [hg]; exact Nat.ne_of_lt (blk_lt BK266.out) : gb266 ≠ gb284))
                        have n10_ := Aside0.mk ((by rw [hg]; exact Nat.ne_of_gt (blk_lt BK266.out) : gb284 ≠ gb266))
                        clear HO274
                        clear BK265
                        clear BK266
                        clear HB
                        have HO274 := n0_
                        have BK265 := n1_
                        have BK266 := n2_
                        have HB := n3_
                        have BK284 := n4_
                        have GW284 := n5_
                        have GE284 := n6_
                        have NB265_284 := n7_
                        have NB284_265 := n8_
                        have NB266_284 := n9_
                        have NB284_266 := n10_
                        clear n0_ n1_ n2_ n3_ n4_ n5_ n6_ n7_ n8_ n9_ n10_
                        clear hb hbox hg
                        refine hK.out _ _ ⟨(blk_cell BK265.out 0).trans rfl, (blk_cell BK265.out 1).trans rfl⟩ (fun hHeld => ?_)
                        clear hK K
                        refine norm_ (a' := ?_) ?_ ?_
                        rotate_left
                        · show Act.put _ (some 6) _ = _
                          simp only [Act.put, List.setIfInBounds_toArray, List.set_cons_zero, List.set_cons_succ, i64_w, i32_w]
                          rfl
                        exact norm_ (by simp only [putAll, Act.put, List.setIfInBounds_toArray, List.set_cons_zero, List.set_cons_succ] <;> rfl) (hJ2_8 (_, gb284) _ ⟨hHeld, HO274.out, BK265.out, BK266.out, BK284.out, GW284.out, GE284.out, NB265_284.out, NB284_265.out, NB266_284.out, NB284_266.out, HB.out⟩)
                  · skip
                    rintro ⟨gb283, gb284⟩ w27 ⟨hS_, h0_, h1_, h2_, h3_, h4_, h5_, h6_, h7_, h8_, h9_, h10_, h11_, h12_, h13_, h14_, h15_, h16_, h17_, h18_⟩
                    have n0_ : Aside0 (w27.heap[gb265]? = some (.cells #[.bool a0_0, .slice A0_1 l0_1.length c0_1] 24 (0, 0))) := ⟨h0_⟩
                    have n1_ : Aside0 (w27.heap[gb266]? = some (.cells #[.bool false, .slice none 0 0] 24 (0, 0))) := ⟨h1_⟩
                    have n2_ : Aside0 (w27.heap[gb283]? = some (.cells #[.bool false, .slice none 0 0] 24 (0, 0))) := ⟨h2_⟩
                    have n3_ : Aside0 (w27.heap[gb284]? = some (.cells #[.bool false, .slice none 0 0] 24 (0, 0))) := ⟨h3_⟩
                    have n4_ : Aside0 (w.heap.size ≤ gb283) := ⟨h4_⟩
                    have n5_ : Aside0 (w.heap.size ≤ gb283) := ⟨h5_⟩
                    have n6_ : Aside0 (gb265 ≠ gb283) := ⟨h6_⟩
                    have n7_ : Aside0 (gb283 ≠ gb265) := ⟨h7_⟩
                    have n8_ : Aside0 (gb266 ≠ gb283) := ⟨h8_⟩
                    have n9_ : Aside0 (gb283 ≠ gb266) := ⟨h9_⟩
                    have n10_ : Aside0 (gb284 ≠ gb283) := ⟨h10_⟩
                    have n11_ : Aside0 (gb283 ≠ gb284) := ⟨h11_⟩
                    have n12_ : Aside0 (w.heap.size ≤ gb284) := ⟨h12_⟩
                    have n13_ : Aside0 (w.heap.size ≤ gb284) := ⟨h13_⟩
                    have n14_ : Aside0 (gb265 ≠ gb284) := ⟨h14_⟩
                    have n15_ : Aside0 (gb284 ≠ gb265) := ⟨h15_⟩
                    have n16_ : Aside0 (gb266 ≠ gb284) := ⟨h16_⟩
                    have n17_ : Aside0 (gb284 ≠ gb266) := ⟨h17_⟩
                    have n18_ : Aside0 (Below w.heap.size w w27) := ⟨h18_⟩
                    clear BK265
                    clear BK266
                    clear HB
                    clear h0_ h1_ h2_ h3_ h4_ h5_ h6_ h7_ h8_ h9_ h10_ h11_ h12_ h13_ h14_ h15_ h16_ h17_ h18_
                    have BK265 := n0_
                    have BK266 := n1_
                    have BK283 := n2_
                    have BK284 := n3_
                    have GW283 := n4_
                    have GE283 := n5_
                    have NB265_283 := n6_
                    have NB283_265 := n7_
                    have NB266_283 := n8_
                    have NB283_266 := n9_
                    have NB284_283 := n10_
                    have NB283_284 := n11_
                    have GW284 := n12_
                    have GE284 := n13_
                    have NB265_284 := n14_
                    have NB284_265 := n15_
                    have NB266_284 := n16_
                    have NB284_266 := n17_
                    have HB := n18_
                    clear n0_ n1_ n2_ n3_ n4_ n5_ n6_ n7_ n8_ n9_ n10_ n11_ n12_ n13_ n14_ n15_ n16_ n17_ n18_
                    have hHeld : w27.cell? ⟨gb265, 0, none⟩ = some (.bool a0_0) ∧ w27.cell? ⟨gb265, 1, none⟩ = some (.slice A0_1 l0_1.length c0_1) := hS_
                    refine norm_ (a' := ?_) ?_ ?_
                    rotate_left
                    · simp only [putAll, Act.put, List.setIfInBounds_toArray, List.set_cons_zero, List.set_cons_succ]
                      rfl
                    refine one_ (i := 2) (N := some 20) #[true, true, true, false, false, false, false, true, true, false, false] rfl rfl (one_of HT_.out (by kernel_rfl)) (by decide) (fun K hK => ?_)
                    refine goes_ Tryz.func21 (by kernel_rfl) rfl #[.int .i64 a1] (by rfl) rfl rfl (by (try simp only [List.map_toArray, List.map_cons, List.map_nil]); first | done | rfl | (simp only [List.length_drop, List.length_take]; rfl)) ?_
                    with_reducible refine (spec_Power.calls k a1 t271 t272 _ A18.out).mono ?_
                    rintro e w28 ⟨v273, rfl, ho0, hb⟩
                    refine ⟨_, rfl, ?_⟩
                    have n0_ := Aside0.mk (Kd.R_lower ho0 (below_size HB.out))
                    have n1_ := Aside0.mk (blk_below BK265.out hb)
                    have n2_ := Aside0.mk (blk_below BK266.out hb)
                    have n3_ := Aside0.mk (blk_below BK283.out hb)
                    have n4_ := Aside0.mk (blk_below BK284.out hb)
                    have n5_ := Aside0.mk (below_step HB.out hb)
                    clear BK265
                    clear BK266
                    clear BK283
                    clear BK284
                    clear HB
                    have HO274 := n0_
                    have BK265 := n1_
                    have BK266 := n2_
                    have BK283 := n3_
                    have BK284 := n4_
                    have HB := n5_
                    clear n0_ n1_ n2_ n3_ n4_ n5_
                    (try clear hb)
                    (try clear hb2)
                    (try clear hk)
                    (try clear hi)
                    (try clear ho0)
                    refine hK.out _ _ ⟨(blk_cell BK265.out 0).trans rfl, (blk_cell BK265.out 1).trans rfl⟩ (fun hHeld => ?_)
                    clear hK K
                    refine norm_ (a' := ?_) ?_ ?_
                    rotate_left
                    · show Act.put _ (some 20) _ = _
                      simp only [Act.put, List.setIfInBounds_toArray, List.set_cons_zero, List.set_cons_succ, i64_w, i32_w]
                      rfl
                    exact norm_ (by simp only [putAll, Act.put, List.setIfInBounds_toArray, List.set_cons_zero, List.set_cons_succ] <;> rfl) (hJ2_7_8 (v273, gb283, gb284) _ ⟨hHeld, HO274.out, BK265.out, BK266.out, BK283.out, BK284.out, GW283.out, GE283.out, NB265_283.out, NB283_265.out, NB266_283.out, NB283_266.out, NB284_283.out, NB283_284.out, GW284.out, GE284.out, NB265_284.out, NB284_265.out, NB266_284.out, NB284_266.out, HB.out⟩)
                · skip
                  rintro ⟨v273, gb284⟩ w27 ⟨hS_, h0_, h1_, h2_, h3_, h4_, h5_, h6_, h7_, h8_, h9_, h10_⟩
                  have n0_ : Aside0 (Kd.R (Kd.int .u8) 5 w27 w.heap.size (fun _ => True) v273 t272) := ⟨h0_⟩
                  have n1_ : Aside0 (w27.heap[gb265]? = some (.cells #[.bool a0_0, .slice A0_1 l0_1.length c0_1] 24 (0, 0))) := ⟨h1_⟩
                  have n2_ : Aside0 (w27.heap[gb266]? = some (.cells #[.bool false, .slice none 0 0] 24 (0, 0))) := ⟨h2_⟩
                  have n3_ : Aside0 (w27.heap[gb284]? = some (.cells #[.bool false, .slice none 0 0] 24 (0, 0))) := ⟨h3_⟩
                  have n4_ : Aside0 (w.heap.size ≤ gb284) := ⟨h4_⟩
                  have n5_ : Aside0 (w.heap.size ≤ gb284) := ⟨h5_⟩
                  have n6_ : Aside0 (gb265 ≠ gb284) := ⟨h6_⟩
                  have n7_ : Aside0 (gb284 ≠ gb265) := ⟨h7_⟩
                  have n8_ : Aside0 (gb266 ≠ gb284) := ⟨h8_⟩
                  have n9_ : Aside0 (gb284 ≠ gb266) := ⟨h9_⟩
                  have n10_ : Aside0 (Below w.heap.size w w27) := ⟨h10_⟩
                  clear BK265
                  clear BK266
                  clear HB
                  clear h0_ h1_ h2_ h3_ h4_ h5_ h6_ h7_ h8_ h9_ h10_
                  have HO274 := n0_
                  have BK265 := n1_
                  have BK266 := n2_
                  have BK284 := n3_
                  have GW284 := n4_
                  have GE284 := n5_
                  have NB265_284 := n6_
                  have NB284_265 := n7_
                  have NB266_284 := n8_
                  have NB284_266 := n9_
                  have HB := n10_
                  clear n0_ n1_ n2_ n3_ n4_ n5_ n6_ n7_ n8_ n9_ n10_
                  have hHeld : w27.cell? ⟨gb265, 0, none⟩ = some (.bool a0_0) ∧ w27.cell? ⟨gb265, 1, none⟩ = some (.slice A0_1 l0_1.length c0_1) := hS_
                  obtain ⟨Ao28, co28, eo28⟩ := Kd.R_slice HO274.out
                  (first | subst eo28 | (injection eo28 with f1_ f2_ f3_; have f4_ := f1_.symm; have f5_ := f3_.symm; clear f1_ f2_ f3_; subst f4_; subst f5_))
                  refine norm_ (a' := ?_) ?_ ?_
                  rotate_left
                  · simp only [putAll, Act.put, List.setIfInBounds_toArray, List.set_cons_zero, List.set_cons_succ]
                    rfl
                  refine two_ (i := 3) (j := 7) (Ni := some 21) (Nj := some 5) #[true, true, true, true, false, false, false, false, true, false, false] #[true, true, true, false, false, false, false, true, true, false, false] rfl rfl rfl rfl (two_of HT_.out (by kernel_rfl)) (by decide) (by decide) (fun K hK => ?_) (fun K hK => ?_)
                  · skip
                    refine goes_ Tryz.func34 (by kernel_rfl) rfl #[.agg #[.bool a0_0, .slice A0_1 l0_1.length c0_1], .agg #[.bool t271, .slice Ao28 t272.length co28]] (by rfl) rfl rfl (by (try simp only [List.map_toArray, List.map_cons, List.map_nil]); first | done | rfl | (simp only [List.length_drop, List.length_take]; rfl)) ?_
                    with_reducible refine (spec_Int_Floor.calls k a0_0 _ _ l0_1 t271 _ _ t272 t275 t276 t279 t280 _ ?side1 ?side2 ?side3 ?side4 A19.out).mono ?_
                    (case side1 => repeat (first | exact (Kd.C_below HR0_1.out HB.out) | (with_reducible refine Kd.C_alloc ?_ _) | (with_reducible refine Kd.C_drewN ?_ _) | (with_reducible refine Kd.C_drew ?_)))
                    (case side2 => exact HC0_1.out)
                    (case side3 => repeat (first | exact (Kd.R_reads' HO274.out).2.2 | (with_reducible refine Kd.C_alloc ?_ _) | (with_reducible refine Kd.C_drewN ?_ _) | (with_reducible refine Kd.C_drew ?_)))
                    (case side4 => exact (Kd.R_reads' HO274.out).2.1)
                    rintro e w29 ⟨v277, v281, rfl, ho0, ho1, hb⟩
                    refine ⟨_, rfl, ?_⟩
                    have n0_ := Aside0.mk (Kd.R_mono (Kd.R_told (Kd.R_told (Kd.R_old HO274.out hb) (Kd.R_base ho0)) (Kd.R_base ho1)) (fun _ h_ => h_.1))
                    have n1_ := Aside0.mk (Kd.R_lower (Kd.R_new' ho0 (Kd.R_lt HO274.out)) (below_size HB.out))
                    have n2_ := Aside0.mk (Kd.R_lower (Kd.R_new' ho1 (Kd.R_lt HO274.out)) (below_size HB.out))
                    have n3_ := Aside0.mk (blk_below BK265.out hb)
                    have n4_ := Aside0.mk (blk_below BK266.out hb)
                    have n5_ := Aside0.mk (blk_below BK284.out hb)
                    have n6_ := Aside0.mk (below_step HB.out hb)
                    clear HO274
                    clear BK265
                    clear BK266
                    clear BK284
                    clear HB
                    have HO274 := n0_
                    have HO278 := n1_
                    have HO282 := n2_
                    have BK265 := n3_
                    have BK266 := n4_
                    have BK284 := n5_
                    have HB := n6_
                    clear n0_ n1_ n2_ n3_ n4_ n5_ n6_
                    (try clear hb)
                    (try clear hb2)
                    (try clear hk)
                    (try clear hi)
                    (try clear ho0)
                    (try clear ho1)
                    refine hK.out _ _ ⟨(blk_cell BK265.out 0).trans rfl, (blk_cell BK265.out 1).trans rfl⟩ (fun hHeld => ?_)
                    clear hK K
                    refine norm_ (a' := ?_) ?_ ?_
                    rotate_left
                    · show Act.put _ (some 21) _ = _
                      simp only [Act.put, List.setIfInBounds_toArray, List.set_cons_zero, List.set_cons_succ, i64_w, i32_w]
                      rfl
                    refine pure_ (i := 4) (N := some 17) (v := ?_) (a' := ?_) #[true, true, true, true, true, false, false, false, true, false, false] rfl rfl (any_of HT_.out (by kernel_rfl)) (fun _ _ _ h => h) (Or.inl ⟨by rfl, ?_⟩) ?_ ?_
                    rotate_left
                    · intro w'
                      go_simp
                      with_reducible rfl
                    rotate_left
                    · simp only [Act.put, List.setIfInBounds_toArray, List.set_cons_zero, List.set_cons_succ, i64_w, i32_w]
                      rfl
                    refine pure_ (i := 5) (N := some 22) (v := ?_) (a' := ?_) #[true, true, true, true, true, true, false, false, true, false, false] rfl rfl (any_of HT_.out (by kernel_rfl)) (fun _ _ _ h => h) (Or.inl ⟨by rfl, ?_⟩) ?_ ?_
                    rotate_left
                    · intro w'
                      go_simp
                      with_reducible rfl
                    rotate_left
                    · simp only [Act.put, List.setIfInBounds_toArray, List.set_cons_zero, List.set_cons_succ, i64_w, i32_w]
                      rfl
                    refine pure_ (i := 6) (N := some 23) (v := ?_) (a' := ?_) #[true, true, true, true, true, true, true, false, true, false, false] rfl rfl (any_of HT_.out (by kernel_rfl)) (fun _ _ _ h => h) (Or.inl ⟨by rfl, ?_⟩) ?_ ?_
                    rotate_left
                    · intro w'
                      go_simp
                      with_reducible rfl
                    rotate_left
                    · simp only [Act.put, List.setIfInBounds_toArray, List.set_cons_zero, List.set_cons_succ, i64_w, i32_w]
                      rfl
                    exact norm_ (by simp only [putAll, Act.put, List.setIfInBounds_toArray, List.set_cons_zero, List.set_cons_succ] <;> rfl) (hJ2_3_8 (.slice Ao28 t272.length co28, v277, v281, gb284) _ ⟨hHeld, (by (with_reducible repeat (first | apply Kd.R_alloc | apply Kd.R_drewN | apply Kd.R_drew)); exact Kd.R_mono HO274.out (fun _ hk => ⟨hk.1.2, hk.2⟩)), (by (with_reducible repeat (first | apply Kd.R_alloc | apply Kd.R_drewN | apply Kd.R_drew)); exact Kd.R_mono HO278.out (fun _ hk => ⟨hk.2, hk.1⟩)), (by (with_reducible repeat (first | apply Kd.R_alloc | apply Kd.R_drewN | apply Kd.R_drew)); exact Kd.R_mono HO282.out (fun _ hk => ⟨hk.2, hk.1⟩)), BK265.out, BK266.out, BK284.out, GW284.out, GE284.out, NB265_284.out, NB284_265.out, NB266_284.out, NB284_266.out, HB.out⟩)
                  · skip
                    refine box_step ?hg (N := 5) ?hd (cs := #[.bool false, .slice none 0 0]) (t := 24) ?hr ?_; (case hd => rfl); (case hg => rfl); (case hr => first | (go_simp; done) | (go_simp; rfl))
                    intro gb283 hg w28 hbox hb
                    have n0_ := Aside0.mk (Kd.R_below HO274.out hb)
                    have n1_ := Aside0.mk (blk_below BK265.out hb)
                    have n2_ := Aside0.mk (blk_below BK266.out hb)
                    have n3_ := Aside0.mk (blk_below BK284.out hb)
                    have n4_ := Aside0.mk (below_step HB.out hb)
                    have n5_ := Aside0.mk (hbox)
                    have n6_ := Aside0.mk ((by rw [hg]; exact (below_size HB.out) : w.heap.size ≤ gb283))
                    have n7_ := Aside0.mk ((by rw [hg]; exact (below_size HB.out) : w.heap.size ≤ gb283))
                    have n8_ := Aside0.mk ((by rw [hg]; exact Nat.ne_of_lt (blk_lt BK265.out) : gb265 ≠ gb283))
                    have n9_ := Aside0.mk ((by rw [hg]; exact Nat.ne_of_gt (blk_lt BK265.out) : gb283 ≠ gb265))
                    have n10_ := Aside0.mk ((by rw [hg]; exact Nat.ne_of_lt (blk_lt BK266.out) : gb266 ≠ gb283))
                    have n11_ := Aside0.mk ((by rw [hg]; exact Nat.ne_of_gt (blk_lt BK266.out) : gb283 ≠ gb266))
                    have n12_ := Aside0.mk ((by rw [hg]; exact Nat.ne_of_lt (blk_lt BK284.out) : gb284 ≠ gb283))
                    have n13_ := Aside0.mk ((by rw [hg]; exact Nat.ne_of_gt (blk_lt BK284.out) : gb283 ≠ gb284))
                    clear HO274
                    clear BK265
                    clear BK266
                    clear BK284
                    clear HB
                    have HO274 := n0_
                    have BK265 := n1_
                    have BK266 := n2_
                    have BK284 := n3_
                    have HB := n4_
                    have BK283 := n5_
                    have GW283 := n6_
                    have GE283 := n7_
                    have NB265_283 := n8_
                    have NB283_265 := n9_
                    have NB266_283 := n10_
                    have NB283_266 := n11_
                    have NB284_283 := n12_
                    have NB283_284 := n13_
                    clear n0_ n1_ n2_ n3_ n4_ n5_ n6_ n7_ n8_ n9_ n10_ n11_ n12_ n13_
                    clear hb hbox hg
                    refine hK.out _ _ ⟨(blk_cell BK265.out 0).trans rfl, (blk_cell BK265.out 1).trans rfl⟩ (fun hHeld => ?_)
                    clear hK K
                    refine norm_ (a' := ?_) ?_ ?_
                    rotate_left
                    · show Act.put _ (some 5) _ = _
                      simp only [Act.put, List.setIfInBounds_toArray, List.set_cons_zero, List.set_cons_succ, i64_w, i32_w]
                      rfl
                    exact norm_ (by simp only [putAll, Act.put, List.setIfInBounds_toArray, List.set_cons_zero, List.set_cons_succ] <;> rfl) (hJ2_7_8 (_, gb283, gb284) _ ⟨hHeld, HO274.out, BK265.out, BK266.out, BK283.out, BK284.out, GW283.out, GE283.out, NB265_283.out, NB283_265.out, NB266_283.out, NB283_266.out, NB284_283.out, NB283_284.out, GW284.out, GE284.out, NB265_284.out, NB284_265.out, NB266_284.out, NB284_266.out, HB.out⟩)
              · skip
                rintro ⟨v273, gb283⟩ w27 ⟨hS_, h0_, h1_, h2_, h3_, h4_, h5_, h6_, h7_, h8_, h9_, h10_⟩
                have n0_ : Aside0 (Kd.R (Kd.int .u8) 5 w27 w.heap.size (fun _ => True) v273 t272) := ⟨h0_⟩
                have n1_ : Aside0 (w27.heap[gb265]? = some (.cells #[.bool a0_0, .slice A0_1 l0_1.length c0_1] 24 (0, 0))) := ⟨h1_⟩
                have n2_ : Aside0 (w27.heap[gb266]? = some (.cells #[.bool false, .slice none 0 0] 24 (0, 0))) := ⟨h2_⟩
                have n3_ : Aside0 (w27.heap[gb283]? = some (.cells #[.bool false, .slice none 0 0] 24 (0, 0))) := ⟨h3_⟩
                have n4_ : Aside0 (w.heap.size ≤ gb283) := ⟨h4_⟩
                have n5_ : Aside0 (w.heap.size ≤ gb283) := ⟨h5_⟩
                have n6_ : Aside0 (gb265 ≠ gb283) := ⟨h6_⟩
                have n7_ : Aside0 (gb283 ≠ gb265) := ⟨h7_⟩
                have n8_ : Aside0 (gb266 ≠ gb283) := ⟨h8_⟩
                have n9_ : Aside0 (gb283 ≠ gb266) := ⟨h9_⟩
                have n10_ : Aside0 (Below w.heap.size w w27) := ⟨h10_⟩
                clear BK265
                clear BK266
                clear HB
                clear h0_ h1_ h2_ h3_ h4_ h5_ h6_ h7_ h8_ h9_ h10_
                have HO274 := n0_
                have BK265 := n1_
                have BK266 := n2_
                have BK283 := n3_
                have GW283 := n4_
                have GE283 := n5_
                have NB265_283 := n6_
                have NB283_265 := n7_
                have NB266_283 := n8_
                have NB283_266 := n9_
                have HB := n10_
                clear n0_ n1_ n2_ n3_ n4_ n5_ n6_ n7_ n8_ n9_ n10_
                have hHeld : w27.cell? ⟨gb265, 0, none⟩ = some (.bool a0_0) ∧ w27.cell? ⟨gb265, 1, none⟩ = some (.slice A0_1 l0_1.length c0_1) := hS_
                obtain ⟨Ao28, co28, eo28⟩ := Kd.R_slice HO274.out
                (first | subst eo28 | (injection eo28 with f1_ f2_ f3_; have f4_ := f1_.symm; have f5_ := f3_.symm; clear f1_ f2_ f3_; subst f4_; subst f5_))
                refine norm_ (a' := ?_) ?_ ?_
                rotate_left
                · simp only [putAll, Act.put, List.setIfInBounds_toArray, List.set_cons_zero, List.set_cons_succ]
                  rfl
                refine two_ (i := 3) (j := 8) (Ni := some 21) (Nj := some 6) #[true, true, true, true, false, false, false, true, false, false, false] #[true, true, true, false, false, false, false, true, true, false, false] rfl rfl rfl rfl (two_of HT_.out (by kernel_rfl)) (by decide) (by decide) (fun K hK => ?_) (fun K hK => ?_)
                · skip
                  refine goes_ Tryz.func34 (by kernel_rfl) rfl #[.agg #[.bool a0_0, .slice A0_1 l0_1.length c0_1], .agg #[.bool t271, .slice Ao28 t272.length co28]] (by rfl) rfl rfl (by (try simp only [List.map_toArray, List.map_cons, List.map_nil]); first | done | rfl | (simp only [List.length_drop, List.length_take]; rfl)) ?_
                  with_reducible refine (spec_Int_Floor.calls k a0_0 _ _ l0_1 t271 _ _ t272 t275 t276 t279 t280 _ ?side1 ?side2 ?side3 ?side4 A19.out).mono ?_
                  (case side1 => repeat (first | exact (Kd.C_below HR0_1.out HB.out) | (with_reducible refine Kd.C_alloc ?_ _) | (with_reducible refine Kd.C_drewN ?_ _) | (with_reducible refine Kd.C_drew ?_)))
                  (case side2 => exact HC0_1.out)
                  (case side3 => repeat (first | exact (Kd.R_reads' HO274.out).2.2 | (with_reducible refine Kd.C_alloc ?_ _) | (with_reducible refine Kd.C_drewN ?_ _) | (with_reducible refine Kd.C_drew ?_)))
                  (case side4 => exact (Kd.R_reads' HO274.out).2.1)
                  rintro e w29 ⟨v277, v281, rfl, ho0, ho1, hb⟩
                  refine ⟨_, rfl, ?_⟩
                  have n0_ := Aside0.mk (Kd.R_mono (Kd.R_told (Kd.R_told (Kd.R_old HO274.out hb) (Kd.R_base ho0)) (Kd.R_base ho1)) (fun _ h_ => h_.1))
                  have n1_ := Aside0.mk (Kd.R_lower (Kd.R_new' ho0 (Kd.R_lt HO274.out)) (below_size HB.out))
                  have n2_ := Aside0.mk (Kd.R_lower (Kd.R_new' ho1 (Kd.R_lt HO274.out)) (below_size HB.out))
                  have n3_ := Aside0.mk (blk_below BK265.out hb)
                  have n4_ := Aside0.mk (blk_below BK266.out hb)
                  have n5_ := Aside0.mk (blk_below BK283.out hb)
                  have n6_ := Aside0.mk (below_step HB.out hb)
                  clear HO274
                  clear BK265
                  clear BK266
                  clear BK283
                  clear HB
                  have HO274 := n0_
                  have HO278 := n1_
                  have HO282 := n2_
                  have BK265 := n3_
                  have BK266 := n4_
                  have BK283 := n5_
                  have HB := n6_
                  clear n0_ n1_ n2_ n3_ n4_ n5_ n6_
                  (try clear hb)
                  (try clear hb2)
                  (try clear hk)
                  (try clear hi)
                  (try clear ho0)
                  (try clear ho1)
                  refine hK.out _ _ ⟨(blk_cell BK265.out 0).trans rfl, (blk_cell BK265.out 1).trans rfl⟩ (fun hHeld => ?_)
                  clear hK K
                  refine norm_ (a' := ?_) ?_ ?_
                  rotate_left
                  · show Act.put _ (some 21) _ = _
                    simp only [Act.put, List.setIfInBounds_toArray, List.set_cons_zero, List.set_cons_succ, i64_w, i32_w]
                    rfl
                  refine pure_ (i := 4) (N := some 17) (v := ?_) (a' := ?_) #[true, true, true, true, true, false, false, true, false, false, false] rfl rfl (any_of HT_.out (by kernel_rfl)) (fun _ _ _ h => h) (Or.inl ⟨by rfl, ?_⟩) ?_ ?_
                  rotate_left
                  · intro w'
                    go_simp
                    with_reducible rfl
                  rotate_left
                  · simp only [Act.put, List.setIfInBounds_toArray, List.set_cons_zero, List.set_cons_succ, i64_w, i32_w]
                    rfl
                  refine pure_ (i := 5) (N := some 22) (v := ?_) (a' := ?_) #[true, true, true, true, true, true, false, true, false, false, false] rfl rfl (any_of HT_.out (by kernel_rfl)) (fun _ _ _ h => h) (Or.inl ⟨by rfl, ?_⟩) ?_ ?_
                  rotate_left
                  · intro w'
                    go_simp
                    with_reducible rfl
                  rotate_left
                  · simp only [Act.put, List.setIfInBounds_toArray, List.set_cons_zero, List.set_cons_succ, i64_w, i32_w]
                    rfl
                  refine pure_ (i := 6) (N := some 23) (v := ?_) (a' := ?_) #[true, true, true, true, true, true, true, true, false, false, false] rfl rfl (any_of HT_.out (by kernel_rfl)) (fun _ _ _ h => h) (Or.inl ⟨by rfl, ?_⟩) ?_ ?_
                  rotate_left
                  · intro w'
                    go_simp
                    with_reducible rfl
                  rotate_left
                  · simp only [Act.put, List.setIfInBounds_toArray, List.set_cons_zero, List.set_cons_succ, i64_w, i32_w]
                    rfl
                  exact norm_ (by simp only [putAll, Act.put, List.setIfInBounds_toArray, List.set_cons_zero, List.set_cons_succ] <;> rfl) (hJ2_3_7 (.slice Ao28 t272.length co28, v277, v281, gb283) _ ⟨hHeld, (by (with_reducible repeat (first | apply Kd.R_alloc | apply Kd.R_drewN | apply Kd.R_drew)); exact Kd.R_mono HO274.out (fun _ hk => ⟨hk.1.2, hk.2⟩)), (by (with_reducible repeat (first | apply Kd.R_alloc | apply Kd.R_drewN | apply Kd.R_drew)); exact Kd.R_mono HO278.out (fun _ hk => ⟨hk.2, hk.1⟩)), (by (with_reducible repeat (first | apply Kd.R_alloc | apply Kd.R_drewN | apply Kd.R_drew)); exact Kd.R_mono HO282.out (fun _ hk => ⟨hk.2, hk.1⟩)), BK265.out, BK266.out, BK283.out, GW283.out, GE283.out, NB265_283.out, NB283_265.out, NB266_283.out, NB283_266.out, HB.out⟩)
                · skip
                  refine box_step ?hg (N := 6) ?hd (cs := #[.bool false, .slice none 0 0]) (t := 24) ?hr ?_; (case hd => rfl); (case hg => rfl); (case hr => first | (go_simp; done) | (go_simp; rfl))
                  intro gb284 hg w28 hbox hb
                  have n0_ := Aside0.mk (Kd.R_below HO274.out hb)
                  have n1_ := Aside0.mk (blk_below BK265.out hb)
                  have n2_ := Aside0.mk (blk_below BK266.out hb)
                  have n3_ := Aside0.mk (blk_below BK283.out hb)
                  have n4_ := Aside0.mk (below_step HB.out hb)
                  have n5_ := Aside0.mk (hbox)
                  have n6_ := Aside0.mk ((by rw [hg]; exact (below_size HB.out) : w.heap.size ≤ gb284))
                  have n7_ := Aside0.mk ((by rw [hg]; exact (below_size HB.out) : w.heap.size ≤ gb284))
                  have n8_ := Aside0.mk ((by rw [hg]; exact Nat.ne_of_lt (blk_lt BK265.out) : gb265 ≠ gb284))
                  have n9_ := Aside0.mk ((by rw [hg]; exact Nat.ne_of_gt (blk_lt BK265.out) : gb284 ≠ gb265))
                  have n10_ := Aside0.mk ((by rw [hg]; exact Nat.ne_of_lt (blk_lt BK266.out) : gb266 ≠ gb284))
                  have n11_ := Aside0.mk ((by rw [hg]; exact Nat.ne_of_gt (blk_lt BK266.out) : gb284 ≠ gb266))
                  have n12_ := Aside0.mk ((by rw [hg]; exact Nat.ne_of_lt (blk_lt BK283.out) : gb283 ≠ gb284))
                  have n13_ := Aside0.mk ((by rw [hg]; exact Nat.ne_of_gt (blk_lt BK283.out) : gb284 ≠ gb283))
                  clear HO274
                  clear BK265
                  clear BK266
                  clear BK283
                  clear HB
                  have HO274 := n0_
                  have BK265 := n1_
                  have BK266 := n2_
                  have BK283 := n3_
                  have HB := n4_
                  have BK284 := n5_
                  have GW284 := n6_
                  have GE284 := n7_
                  have NB265_284 := n8_
                  have NB284_265 := n9_
                  have NB266_284 := n10_
                  have NB284_266 := n11_
                  have NB283_284 := n12_
                  have NB284_283 := n13_
                  clear n0_ n1_ n2_ n3_ n4_ n5_ n6_ n7_ n8_ n9_ n10_ n11_ n12_ n13_
                  clear hb hbox hg
                  refine hK.out _ _ ⟨(blk_cell BK265.out 0).trans rfl, (blk_cell BK265.out 1).trans rfl⟩ (fun hHeld => ?_)
                  clear hK K
                  refine norm_ (a' := ?_) ?_ ?_
                  rotate_left
                  · show Act.put _ (some 6) _ = _
                    simp only [Act.put, List.setIfInBounds_toArray, List.set_cons_zero, List.set_cons_succ, i64_w, i32_w]
                    rfl
                  exact norm_ (by simp only [putAll, Act.put, List.setIfInBounds_toArray, List.set_cons_zero, List.set_cons_succ] <;> rfl) (hJ2_7_8 (_, gb283, gb284) _ ⟨hHeld, HO274.out, BK265.out, BK266.out, BK283.out, BK284.out, GW283.out, GE283.out, NB265_283.out, NB283_265.out, NB266_283.out, NB283_266.out, NB284_283.out, NB283_284.out, GW284.out, GE284.out, NB265_284.out, NB284_265.out, NB266_284.out, NB284_266.out, HB.out⟩)
            · skip
              rintro ⟨v273, v277, v281⟩ w28 ⟨hS_, h0_, h1_, h2_, h3_, h4_, h5_⟩
              have n0_ : Aside0 (Kd.R (Kd.int .u8) 5 w28 w.heap.size (fun k_ => some k_ ≠ (v277 : Value).ownBlock ∧ some k_ ≠ (v281 : Value).ownBlock) v273 t272) := ⟨h0_⟩
              have n1_ : Aside0 (Kd.R (Kd.int .u8) 5 w28 w.heap.size (fun k_ => some k_ ≠ (v273 : Value).ownBlock ∧ some k_ ≠ (v281 : Value).ownBlock) v277 t276) := ⟨h1_⟩
              have n2_ : Aside0 (Kd.R (Kd.int .u8) 5 w28 w.heap.size (fun k_ => some k_ ≠ (v273 : Value).ownBlock ∧ some k_ ≠ (v277 : Value).ownBlock) v281 t280) := ⟨h2_⟩
              have n3_ : Aside0 (w28.heap[gb265]? = some (.cells #[.bool a0_0, .slice A0_1 l0_1.length c0_1] 24 (0, 0))) := ⟨h3_⟩
              have n4_ : Aside0 (w28.heap[gb266]? = some (.cells #[.bool false, .slice none 0 0] 24 (0, 0))) := ⟨h4_⟩
              have n5_ : Aside0 (Below w.heap.size w w28) := ⟨h5_⟩
              clear BK265
              clear BK266
              clear HB
              clear h0_ h1_ h2_ h3_ h4_ h5_
              have HO274 := n0_
              have HO278 := n1_
              have HO282 := n2_
              have BK265 := n3_
              have BK266 := n4_
              have HB := n5_
              clear n0_ n1_ n2_ n3_ n4_ n5_
              have hHeld : w28.cell? ⟨gb265, 0, none⟩ = some (.bool a0_0) ∧ w28.cell? ⟨gb265, 1, none⟩ = some (.slice A0_1 l0_1.length c0_1) := hS_
              refine norm_ (a' := ?_) ?_ ?_
              rotate_left
              · simp only [putAll, Act.put, List.setIfInBounds_toArray, List.set_cons_zero, List.set_cons_succ]
                rfl
              refine two_ (i := 7) (j := 8) (Ni := some 5) (Nj := some 6) #[true, true, true, true, true, true, true, true, false, false, false] #[true, true, true, true, true, true, true, false, true, false, false] rfl rfl rfl rfl (two_of HT_.out (by kernel_rfl)) (by decide) (by decide) (fun K hK => ?_) (fun K hK => ?_)
              · skip
                refine box_step ?hg (N := 5) ?hd (cs := #[.bool false, .slice none 0 0]) (t := 24) ?hr ?_; (case hd => rfl); (case hg => rfl); (case hr => first | (go_simp; done) | (go_simp; rfl))
                intro gb283 hg w29 hbox hb
                have n0_ := Aside0.mk (Kd.R_below HO274.out hb)
                have n1_ := Aside0.mk (Kd.R_below HO278.out hb)
                have n2_ := Aside0.mk (Kd.R_below HO282.out hb)
                have n3_ := Aside0.mk (blk_below BK265.out hb)
                have n4_ := Aside0.mk (blk_below BK266.out hb)
                have n5_ := Aside0.mk (below_step HB.out hb)
                have n6_ := Aside0.mk (hbox)
                have n7_ := Aside0.mk ((by rw [hg]; exact (below_size HB.out) : w.heap.size ≤ gb283))
                have n8_ := Aside0.mk ((by rw [hg]; exact (below_size HB.out) : w.heap.size ≤ gb283))
                have n9_ := Aside0.mk ((by rw [hg]; exact Nat.ne_of_lt (blk_lt BK265.out) : gb265 ≠ gb283))
                have n10_ := Aside0.mk ((by rw [hg]; exact Nat.ne_of_gt (blk_lt BK265.out) : gb283 ≠ gb265))
                have n11_ := Aside0.mk ((by rw [hg]; exact Nat.ne_of_lt (blk_lt BK266.out) : gb266 ≠ gb283))
                have n12_ := Aside0.mk ((by rw [hg]; exact Nat.ne_of_gt (blk_lt BK266.out) : gb283 ≠ gb266))
                clear HO274
                clear HO278
                clear HO282
                clear BK265
                clear BK266
                clear HB
                have HO274 := n0_
                have HO278 := n1_
                have HO282 := n2_
                have BK265 := n3_
                have BK266 := n4_
                have HB := n5_
                have BK283 := n6_
                have GW283 := n7_
                have GE283 := n8_
                have NB265_283 := n9_
                have NB283_265 := n10_
                have NB266_283 := n11_
                have NB283_266 := n12_
                clear n0_ n1_ n2_ n3_ n4_ n5_ n6_ n7_ n8_ n9_ n10_ n11_ n12_
                clear hb hbox hg
                refine hK.out _ _ ⟨(blk_cell BK265.out 0).trans rfl, (blk_cell BK265.out 1).trans rfl⟩ (fun hHeld => ?_)
                clear hK K
                refine norm_ (a' := ?_) ?_ ?_
                rotate_left
                · show Act.put _ (some 5) _ = _
                  simp only [Act.put, List.setIfInBounds_toArray, List.set_cons_zero, List.set_cons_succ, i64_w, i32_w]
                  rfl
                exact norm_ (by simp only [putAll, Act.put, List.setIfInBounds_toArray, List.set_cons_zero, List.set_cons_succ] <;> rfl) (hJ2_3_7 (v273, v277, v281, gb283) _ ⟨hHeld, HO274.out, HO278.out, HO282.out, BK265.out, BK266.out, BK283.out, GW283.out, GE283.out, NB265_283.out, NB283_265.out, NB266_283.out, NB283_266.out, HB.out⟩)
              · skip
                refine box_step ?hg (N := 6) ?hd (cs := #[.bool false, .slice none 0 0]) (t := 24) ?hr ?_; (case hd => rfl); (case hg => rfl); (case hr => first | (go_simp; done) | (go_simp; rfl))
                intro gb284 hg w29 hbox hb
                have n0_ := Aside0.mk (Kd.R_below HO274.out hb)
                have n1_ := Aside0.mk (Kd.R_below HO278.out hb)
                have n2_ := Aside0.mk (Kd.R_below HO282.out hb)
                have n3_ := Aside0.mk (blk_below BK265.out hb)
                have n4_ := Aside0.mk (blk_below BK266.out hb)
                have n5_ := Aside0.mk (below_step HB.out hb)
                have n6_ := Aside0.mk (hbox)
                have n7_ := Aside0.mk ((by rw [hg]; exact (below_size HB.out) : w.heap.size ≤ gb284))
                have n8_ := Aside0.mk ((by rw [hg]; exact (below_size HB.out) : w.heap.size ≤ gb284))
                have n9_ := Aside0.mk ((by rw [hg]; exact Nat.ne_of_lt (blk_lt BK265.out) : gb265 ≠ gb284))
                have n10_ := Aside0.mk ((by rw [hg]; exact Nat.ne_of_gt (blk_lt BK265.out) : gb284 ≠ gb265))
                have n11_ := Aside0.mk ((by rw [hg]; exact Nat.ne_of_lt (blk_lt BK266.out) : gb266 ≠ gb284))
                have n12_ := Aside0.mk ((by rw [hg]; exact Nat.ne_of_gt (blk_lt BK266.out) : gb284 ≠ gb266))
                clear HO274
                clear HO278
                clear HO282
                clear BK265
                clear BK266
                clear HB
                have HO274 := n0_
                have HO278 := n1_
                have HO282 := n2_
                have BK265 := n3_
                have BK266 := n4_
                have HB := n5_
                have BK284 := n6_
                have GW284 := n7_
                have GE284 := n8_
                have NB265_284 := n9_
                have NB284_265 := n10_
                have NB266_284 := n11_
                have NB284_266 := n12_
                clear n0_ n1_ n2_ n3_ n4_ n5_ n6_ n7_ n8_ n9_ n10_ n11_ n12_
                clear hb hbox hg
                refine hK.out _ _ ⟨(blk_cell BK265.out 0).trans rfl, (blk_cell BK265.out 1).trans rfl⟩ (fun hHeld => ?_)
                clear hK K
                refine norm_ (a' := ?_) ?_ ?_
                rotate_left
                · show Act.put _ (some 6) _ = _
                  simp only [Act.put, List.setIfInBounds_toArray, List.set_cons_zero, List.set_cons_succ, i64_w, i32_w]
                  rfl
                exact norm_ (by simp only [putAll, Act.put, List.setIfInBounds_toArray, List.set_cons_zero, List.set_cons_succ] <;> rfl) (hJ2_3_8 (v273, v277, v281, gb284) _ ⟨hHeld, HO274.out, HO278.out, HO282.out, BK265.out, BK266.out, BK284.out, GW284.out, GE284.out, NB265_284.out, NB284_265.out, NB266_284.out, NB284_266.out, HB.out⟩)
          · skip
            rintro ⟨v273, gb283, gb284⟩ w28 ⟨hS_, h0_, h1_, h2_, h3_, h4_, h5_, h6_, h7_, h8_, h9_, h10_, h11_, h12_, h13_, h14_, h15_, h16_, h17_, h18_, h19_⟩
            have n0_ : Aside0 (Kd.R (Kd.int .u8) 5 w28 w.heap.size (fun _ => True) v273 t272) := ⟨h0_⟩
            have n1_ : Aside0 (w28.heap[gb265]? = some (.cells #[.bool a0_0, .slice A0_1 l0_1.length c0_1] 24 (0, 0))) := ⟨h1_⟩
            have n2_ : Aside0 (w28.heap[gb266]? = some (.cells #[.bool false, .slice none 0 0] 24 (0, 0))) := ⟨h2_⟩
            have n3_ : Aside0 (w28.heap[gb283]? = some (.cells #[.bool false, .slice none 0 0] 24 (0, 0))) := ⟨h3_⟩
            have n4_ : Aside0 (w28.heap[gb284]? = some (.cells #[.bool false, .slice none 0 0] 24 (0, 0))) := ⟨h4_⟩
            have n5_ : Aside0 (w.heap.size ≤ gb283) := ⟨h5_⟩
            have n6_ : Aside0 (w.heap.size ≤ gb283) := ⟨h6_⟩
            have n7_ : Aside0 (gb265 ≠ gb283) := ⟨h7_⟩
            have n8_ : Aside0 (gb283 ≠ gb265) := ⟨h8_⟩
            have n9_ : Aside0 (gb266 ≠ gb283) := ⟨h9_⟩
            have n10_ : Aside0 (gb283 ≠ gb266) := ⟨h10_⟩
            have n11_ : Aside0 (gb284 ≠ gb283) := ⟨h11_⟩
            have n12_ : Aside0 (gb283 ≠ gb284) := ⟨h12_⟩
            have n13_ : Aside0 (w.heap.size ≤ gb284) := ⟨h13_⟩
            have n14_ : Aside0 (w.heap.size ≤ gb284) := ⟨h14_⟩
            have n15_ : Aside0 (gb265 ≠ gb284) := ⟨h15_⟩
            have n16_ : Aside0 (gb284 ≠ gb265) := ⟨h16_⟩
            have n17_ : Aside0 (gb266 ≠ gb284) := ⟨h17_⟩
            have n18_ : Aside0 (gb284 ≠ gb266) := ⟨h18_⟩
            have n19_ : Aside0 (Below w.heap.size w w28) := ⟨h19_⟩
            clear BK265
            clear BK266
            clear HB
            clear h0_ h1_ h2_ h3_ h4_ h5_ h6_ h7_ h8_ h9_ h10_ h11_ h12_ h13_ h14_ h15_ h16_ h17_ h18_ h19_
            have HO274 := n0_
            have BK265 := n1_
            have BK266 := n2_
            have BK283 := n3_
            have BK284 := n4_
            have GW283 := n5_
            have GE283 := n6_
            have NB265_283 := n7_
            have NB283_265 := n8_
            have NB266_283 := n9_
            have NB283_266 := n10_
            have NB284_283 := n11_
            have NB283_284 := n12_
            have GW284 := n13_
            have GE284 := n14_
            have NB265_284 := n15_
            have NB284_265 := n16_
            have NB266_284 := n17_
            have NB284_266 := n18_
            have HB := n19_
            clear n0_ n1_ n2_ n3_ n4_ n5_ n6_ n7_ n8_ n9_ n10_ n11_ n12_ n13_ n14_ n15_ n16_ n17_ n18_ n19_
            have hHeld : w28.cell? ⟨gb265, 0, none⟩ = some (.bool a0_0) ∧ w28.cell? ⟨gb265, 1, none⟩ = some (.slice A0_1 l0_1.length c0_1) := hS_
            obtain ⟨Ao29, co29, eo29⟩ := Kd.R_slice HO274.out
            (first | subst eo29 | (injection eo29 with f1_ f2_ f3_; have f4_ := f1_.symm; have f5_ := f3_.symm; clear f1_ f2_ f3_; subst f4_; subst f5_))
            refine norm_ (a' := ?_) ?_ ?_
            rotate_left
            · simp only [putAll, Act.put, List.setIfInBounds_toArray, List.set_cons_zero, List.set_cons_succ]
              rfl
            refine one_ (i := 3) (N := some 21) #[true, true, true, true, false, false, false, true, true, false, false] rfl rfl (one_of HT_.out (by kernel_rfl)) (by decide) (fun K hK => ?_)
            refine goes_ Tryz.func34 (by kernel_rfl) rfl #[.agg #[.bool a0_0, .slice A0_1 l0_1.length c0_1], .agg #[.bool t271, .slice Ao29 t272.length co29]] (by rfl) rfl rfl (by (try simp only [List.map_toArray, List.map_cons, List.map_nil]); first | done | rfl | (simp only [List.length_drop, List.length_take]; rfl)) ?_
            with_reducible refine (spec_Int_Floor.calls k a0_0 _ _ l0_1 t271 _ _ t272 t275 t276 t279 t280 _ ?side1 ?side2 ?side3 ?side4 A19.out).mono ?_
            (case side1 => repeat (first | exact (Kd.C_below HR0_1.out HB.out) | (with_reducible refine Kd.C_alloc ?_ _) | (with_reducible refine Kd.C_drewN ?_ _) | (with_reducible refine Kd.C_drew ?_)))
            (case side2 => exact HC0_1.out)
            (case side3 => repeat (first | exact (Kd.R_reads' HO274.out).2.2 | (with_reducible refine Kd.C_alloc ?_ _) | (with_reducible refine Kd.C_drewN ?_ _) | (with_reducible refine Kd.C_drew ?_)))
            (case side4 => exact (Kd.R_reads' HO274.out).2.1)
            rintro e w30 ⟨v277, v281, rfl, ho0, ho1, hb⟩
            refine ⟨_, rfl, ?_⟩
            have n0_ := Aside0.mk (Kd.R_mono (Kd.R_told (Kd.R_told (Kd.R_old HO274.out hb) (Kd.R_base ho0)) (Kd.R_base ho1)) (fun _ h_ => h_.1))
            have n1_ := Aside0.mk (Kd.R_lower (Kd.R_new' ho0 (Kd.R_lt HO274.out)) (below_size HB.out))
            have n2_ := Aside0.mk (Kd.R_lower (Kd.R_new' ho1 (Kd.R_lt HO274.out)) (below_size HB.out))
            have n3_ := Aside0.mk (blk_below BK265.out hb)
            have n4_ := Aside0.mk (blk_below BK266.out hb)
            have n5_ := Aside0.mk (blk_below BK283.out hb)
            have n6_ := Aside0.mk (blk_below BK284.out hb)
            have n7_ := Aside0.mk (below_step HB.out hb)
            clear HO274
            clear BK265
            clear BK266
            clear BK283
            clear BK284
            clear HB
            have HO274 := n0_
            have HO278 := n1_
            have HO282 := n2_
            have BK265 := n3_
            have BK266 := n4_
            have BK283 := n5_
            have BK284 := n6_
            have HB := n7_
            clear n0_ n1_ n2_ n3_ n4_ n5_ n6_ n7_
            (try clear hb)
            (try clear hb2)
            (try clear hk)
            (try clear hi)
            (try clear ho0)
            (try clear ho1)
            refine hK.out _ _ ⟨(blk_cell BK265.out 0).trans rfl, (blk_cell BK265.out 1).trans rfl⟩ (fun hHeld => ?_)
            clear hK K
            refine norm_ (a' := ?_) ?_ ?_
            rotate_left
            · show Act.put _ (some 21) _ = _
              simp only [Act.put, List.setIfInBounds_toArray, List.set_cons_zero, List.set_cons_succ, i64_w, i32_w]
              rfl
            refine pure_ (i := 4) (N := some 17) (v := ?_) (a' := ?_) #[true, true, true, true, true, false, false, true, true, false, false] rfl rfl (any_of HT_.out (by kernel_rfl)) (fun _ _ _ h => h) (Or.inl ⟨by rfl, ?_⟩) ?_ ?_
            rotate_left
            · intro w'
              go_simp
              with_reducible rfl
            rotate_left
            · simp only [Act.put, List.setIfInBounds_toArray, List.set_cons_zero, List.set_cons_succ, i64_w, i32_w]
              rfl
            refine pure_ (i := 5) (N := some 22) (v := ?_) (a' := ?_) #[true, true, true, true, true, true, false, true, true, false, false] rfl rfl (any_of HT_.out (by kernel_rfl)) (fun _ _ _ h => h) (Or.inl ⟨by rfl, ?_⟩) ?_ ?_
            rotate_left
            · intro w'
              go_simp
              with_reducible rfl
            rotate_left
            · simp only [Act.put, List.setIfInBounds_toArray, List.set_cons_zero, List.set_cons_succ, i64_w, i32_w]
              rfl
            refine pure_ (i := 6) (N := some 23) (v := ?_) (a' := ?_) #[true, true, true, true, true, true, true, true, true, false, false] rfl rfl (any_of HT_.out (by kernel_rfl)) (fun _ _ _ h => h) (Or.inl ⟨by rfl, ?_⟩) ?_ ?_
            rotate_left
            · intro w'
              go_simp
              with_reducible rfl
            rotate_left
            · simp only [Act.put, List.setIfInBounds_toArray, List.set_cons_zero, List.set_cons_succ, i64_w, i32_w]
              rfl
            exact norm_ (by simp only [putAll, Act.put, List.setIfInBounds_toArray, List.set_cons_zero, List.set_cons_succ] <;> rfl) (hJ2_3_7_8 (.slice Ao29 t272.length co29, v277, v281, gb283, gb284) _ ⟨hHeld, (by (with_reducible repeat (first | apply Kd.R_alloc | apply Kd.R_drewN | apply Kd.R_drew)); exact Kd.R_mono HO274.out (fun _ hk => ⟨hk.1.2, hk.2⟩)), (by (with_reducible repeat (first | apply Kd.R_alloc | apply Kd.R_drewN | apply Kd.R_drew)); exact Kd.R_mono HO278.out (fun _ hk => ⟨hk.2, hk.1⟩)), (by (with_reducible repeat (first | apply Kd.R_alloc | apply Kd.R_drewN | apply Kd.R_drew)); exact Kd.R_mono HO282.out (fun _ hk => ⟨hk.2, hk.1⟩)), BK265.out, BK266.out, BK283.out, BK284.out, GW283.out, GE283.out, NB265_283.out, NB283_265.out, NB266_283.out, NB283_266.out, NB284_283.out, NB283_284.out, GW284.out, GE284.out, NB265_284.out, NB284_265.out, NB266_284.out, NB284_266.out, HB.out⟩)
        · skip
          rintro ⟨v273, v277, v281, gb284⟩ w29 ⟨hS_, h0_, h1_, h2_, h3_, h4_, h5_, h6_, h7_, h8_, h9_, h10_, h11_, h12_⟩
          have n0_ : Aside0 (Kd.R (Kd.int .u8) 5 w29 w.heap.size (fun k_ => some k_ ≠ (v277 : Value).ownBlock ∧ some k_ ≠ (v281 : Value).ownBlock) v273 t272) := ⟨h0_⟩
          have n1_ : Aside0 (Kd.R (Kd.int .u8) 5 w29 w.heap.size (fun k_ => some k_ ≠ (v273 : Value).ownBlock ∧ some k_ ≠ (v281 : Value).ownBlock) v277 t276) := ⟨h1_⟩
          have n2_ : Aside0 (Kd.R (Kd.int .u8) 5 w29 w.heap.size (fun k_ => some k_ ≠ (v273 : Value).ownBlock ∧ some k_ ≠ (v277 : Value).ownBlock) v281 t280) := ⟨h2_⟩
          have n3_ : Aside0 (w29.heap[gb265]? = some (.cells #[.bool a0_0, .slice A0_1 l0_1.length c0_1] 24 (0, 0))) := ⟨h3_⟩
          have n4_ : Aside0 (w29.heap[gb266]? = some (.cells #[.bool false, .slice none 0 0] 24 (0, 0))) := ⟨h4_⟩
          have n5_ : Aside0 (w29.heap[gb284]? = some (.cells #[.bool false, .slice none 0 0] 24 (0, 0))) := ⟨h5_⟩
          have n6_ : Aside0 (w.heap.size ≤ gb284) := ⟨h6_⟩
          have n7_ : Aside0 (w.heap.size ≤ gb284) := ⟨h7_⟩
          have n8_ : Aside0 (gb265 ≠ gb284) := ⟨h8_⟩
          have n9_ : Aside0 (gb284 ≠ gb265) := ⟨h9_⟩
          have n10_ : Aside0 (gb266 ≠ gb284) := ⟨h10_⟩
          have n11_ : Aside0 (gb284 ≠ gb266) := ⟨h11_⟩
          have n12_ : Aside0 (Below w.heap.size w w29) := ⟨h12_⟩
          clear BK265
          clear BK266
          clear HB
          clear h0_ h1_ h2_ h3_ h4_ h5_ h6_ h7_ h8_ h9_ h10_ h11_ h12_
          have HO274 := n0_
          have HO278 := n1_
          have HO282 := n2_
          have BK265 := n3_
          have BK266 := n4_
          have BK284 := n5_
          have GW284 := n6_
          have GE284 := n7_
          have NB265_284 := n8_
          have NB284_265 := n9_
          have NB266_284 := n10_
          have NB284_266 := n11_
          have HB := n12_
          clear n0_ n1_ n2_ n3_ n4_ n5_ n6_ n7_ n8_ n9_ n10_ n11_ n12_
          have hHeld : w29.cell? ⟨gb265, 0, none⟩ = some (.bool a0_0) ∧ w29.cell? ⟨gb265, 1, none⟩ = some (.slice A0_1 l0_1.length c0_1) := hS_
          refine norm_ (a' := ?_) ?_ ?_
          rotate_left
          · simp only [putAll, Act.put, List.setIfInBounds_toArray, List.set_cons_zero, List.set_cons_succ]
            rfl
          refine one_ (i := 7) (N := some 5) #[true, true, true, true, true, true, true, true, true, false, false] rfl rfl (one_of HT_.out (by kernel_rfl)) (by decide) (fun K hK => ?_)
          refine box_step ?hg (N := 5) ?hd (cs := #[.bool false, .slice none 0 0]) (t := 24) ?hr ?_; (case hd => rfl); (case hg => rfl); (case hr => first | (go_simp; done) | (go_simp; rfl))
          intro gb283 hg w30 hbox hb
          have n0_ := Aside0.mk (Kd.R_below HO274.out hb)
          have n1_ := Aside0.mk (Kd.R_below HO278.out hb)
          have n2_ := Aside0.mk (Kd.R_below HO282.out hb)
          have n3_ := Aside0.mk (blk_below BK265.out hb)
          have n4_ := Aside0.mk (blk_below BK266.out hb)
          have n5_ := Aside0.mk (blk_below BK284.out hb)
          have n6_ := Aside0.mk (below_step HB.out hb)
          have n7_ := Aside0.mk (hbox)
          have n8_ := Aside0.mk ((by rw [hg]; exact (below_size HB.out) : w.heap.size ≤ gb283))
          have n9_ := Aside0.mk ((by rw [hg]; exact (below_size HB.out) : w.heap.size ≤ gb283))
          have n10_ := Aside0.mk ((by rw [hg]; exact Nat.ne_of_lt (blk_lt BK265.out) : gb265 ≠ gb283))
          have n11_ := Aside0.mk ((by rw [hg]; exact Nat.ne_of_gt (blk_lt BK265.out) : gb283 ≠ gb265))
          have n12_ := Aside0.mk ((by rw [hg]; exact Nat.ne_of_lt (blk_lt BK266.out) : gb266 ≠ gb283))
          have n13_ := Aside0.mk ((by rw [hg]; exact Nat.ne_of_gt (blk_lt BK266.out) : gb283 ≠ gb266))
          have n14_ := Aside0.mk ((by rw [hg]; exact Nat.ne_of_lt (blk_lt BK284.out) : gb284 ≠ gb283))
          have n15_ := Aside0.mk ((by rw [hg]; exact Nat.ne_of_gt (blk_lt BK284.out) : gb283 ≠ gb284))
          clear HO274
          clear HO278
          clear HO282
          clear BK265
          clear BK266
          clear BK284
          clear HB
          have HO274 := n0_
          have HO278 := n1_
          have HO282 := n2_
          have BK265 := n3_
          have BK266 := n4_
          have BK284 := n5_
          have HB := n6_
          have BK283 := n7_
          have GW283 := n8_
          have GE283 := n9_
          have NB265_283 := n10_
          have NB283_265 := n11_
          have NB266_283 := n12_
          have NB283_266 := n13_
          have NB284_283 := n14_
          have NB283_284 := n15_
          clear n0_ n1_ n2_ n3_ n4_ n5_ n6_ n7_ n8_ n9_ n10_ n11_ n12_ n13_ n14_ n15_
          clear hb hbox hg
          refine hK.out _ _ ⟨(blk_cell BK265.out 0).trans rfl, (blk_cell BK265.out 1).trans rfl⟩ (fun hHeld => ?_)
          clear hK K
          refine norm_ (a' := ?_) ?_ ?_
          rotate_left
          · show Act.put _ (some 5) _ = _
            simp only [Act.put, List.setIfInBounds_toArray, List.set_cons_zero, List.set_cons_succ, i64_w, i32_w]
            rfl
          exact norm_ (by simp only [putAll, Act.put, List.setIfInBounds_toArray, List.set_cons_zero, List.set_cons_succ] <;> rfl) (hJ2_3_7_8 (v273, v277, v281, gb283, gb284) _ ⟨hHeld, HO274.out, HO278.out, HO282.out, BK265.out, BK266.out, BK283.out, BK284.out, GW283.out, GE283.out, NB265_283.out, NB283_265.out, NB266_283.out, NB283_266.out, NB284_283.out, NB283_284.out, GW284.out, GE284.out, NB265_284.out, NB284_265.out, NB266_284.out, NB284_266.out, HB.out⟩)
      · skip
        rintro ⟨v273, v277, v281, gb283⟩ w29 ⟨hS_, h0_, h1_, h2_, h3_, h4_, h5_, h6_, h7_, h8_, h9_, h10_, h11_, h12_⟩
        have n0_ : Aside0 (Kd.R (Kd.int .u8) 5 w29 w.heap.size (fun k_ => some k_ ≠ (v277 : Value).ownBlock ∧ some k_ ≠ (v281 : Value).ownBlock) v273 t272) := ⟨h0_⟩
        have n1_ : Aside0 (Kd.R (Kd.int .u8) 5 w29 w.heap.size (fun k_ => some k_ ≠ (v273 : Value).ownBlock ∧ some k_ ≠ (v281 : Value).ownBlock) v277 t276) := ⟨h1_⟩
        have n2_ : Aside0 (Kd.R (Kd.int .u8) 5 w29 w.heap.size (fun k_ => some k_ ≠ (v273 : Value).ownBlock ∧ some k_ ≠ (v277 : Value).ownBlock) v281 t280) := ⟨h2_⟩
        have n3_ : Aside0 (w29.heap[gb265]? = some (.cells #[.bool a0_0, .slice A0_1 l0_1.length c0_1] 24 (0, 0))) := ⟨h3_⟩
        have n4_ : Aside0 (w29.heap[gb266]? = some (.cells #[.bool false, .slice none 0 0] 24 (0, 0))) := ⟨h4_⟩
        have n5_ : Aside0 (w29.heap[gb283]? = some (.cells #[.bool false, .slice none 0 0] 24 (0, 0))) := ⟨h5_⟩
        have n6_ : Aside0 (w.heap.size ≤ gb283) := ⟨h6_⟩
        have n7_ : Aside0 (w.heap.size ≤ gb283) := ⟨h7_⟩
        have n8_ : Aside0 (gb265 ≠ gb283) := ⟨h8_⟩
        have n9_ : Aside0 (gb283 ≠ gb265) := ⟨h9_⟩
        have n10_ : Aside0 (gb266 ≠ gb283) := ⟨h10_⟩
        have n11_ : Aside0 (gb283 ≠ gb266) := ⟨h11_⟩
        have n12_ : Aside0 (Below w.heap.size w w29) := ⟨h12_⟩
        clear BK265
        clear BK266
        clear HB
        clear h0_ h1_ h2_ h3_ h4_ h5_ h6_ h7_ h8_ h9_ h10_ h11_ h12_
        have HO274 := n0_
        have HO278 := n1_
        have HO282 := n2_
        have BK265 := n3_
        have BK266 := n4_
        have BK283 := n5_
        have GW283 := n6_
        have GE283 := n7_
        have NB265_283 := n8_
        have NB283_265 := n9_
        have NB266_283 := n10_
        have NB283_266 := n11_
        have HB := n12_
        clear n0_ n1_ n2_ n3_ n4_ n5_ n6_ n7_ n8_ n9_ n10_ n11_ n12_
        have hHeld : w29.cell? ⟨gb265, 0, none⟩ = some (.bool a0_0) ∧ w29.cell? ⟨gb265, 1, none⟩ = some (.slice A0_1 l0_1.length c0_1) := hS_
        refine norm_ (a' := ?_) ?_ ?_
        rotate_left
        · simp only [putAll, Act.put, List.setIfInBounds_toArray, List.set_cons_zero, List.set_cons_succ]
          rfl
        refine one_ (i := 8) (N := some 6) #[true, true, true, true, true, true, true, true, true, false, false] rfl rfl (one_of HT_.out (by kernel_rfl)) (by decide) (fun K hK => ?_)
        refine box_step ?hg (N := 6) ?hd (cs := #[.bool false, .slice none 0 0]) (t := 24) ?hr ?_; (case hd => rfl); (case hg => rfl); (case hr => first | (go_simp; done) | (go_simp; rfl))
        intro gb284 hg w30 hbox hb
        have n0_ := Aside0.mk (Kd.R_below HO274.out hb)
        have n1_ := Aside0.mk (Kd.R_below HO278.out hb)
        have n2_ := Aside0.mk (Kd.R_below HO282.out hb)
        have n3_ := Aside0.mk (blk_below BK265.out hb)
        have n4_ := Aside0.mk (blk_below BK266.out hb)
        have n5_ := Aside0.mk (blk_below BK283.out hb)
        have n6_ := Aside0.mk (below_step HB.out hb)
        have n7_ := Aside0.mk (hbox)
        have n8_ := Aside0.mk ((by rw [hg]; exact (below_size HB.out) : w.heap.size ≤ gb284))
        have n9_ := Aside0.mk ((by rw [hg]; exact (below_size HB.out) : w.heap.size ≤ gb284))
        have n10_ := Aside0.mk ((by rw [hg]; exact Nat.ne_of_lt (blk_lt BK265.out) : gb265 ≠ gb284))
        have n11_ := Aside0.mk ((by rw [hg]; exact Nat.ne_of_gt (blk_lt BK265.out) : gb284 ≠ gb265))
        have n12_ := Aside0.mk ((by rw [hg]; exact Nat.ne_of_lt (blk_lt BK266.out) : gb266 ≠ gb284))
        have n13_ := Aside0.mk ((by rw [hg]; exact Nat.ne_of_gt (blk_lt BK266.out) : gb284 ≠ gb266))
        have n14_ := Aside0.mk ((by rw [hg]; exact Nat.ne_of_lt (blk_lt BK283.out) : gb283 ≠ gb284))
        have n15_ := Aside0.mk ((by rw [hg]; exact Nat.ne_of_gt (blk_lt BK283.out) : gb284 ≠ gb283))
        clear HO274
        clear HO278
        clear HO282
        clear BK265
        clear BK266
        clear BK283
        clear HB
        have HO274 := n0_
        have HO278 := n1_
        have HO282 := n2_
        have BK265 := n3_
        have BK266 := n4_
        have BK283 := n5_
        have HB := n6_
        have BK284 := n7_
        have GW284 := n8_
        have GE284 := n9_
        have NB265_284 := n10_
        have NB284_265 := n11_
        have NB266_284 := n12_
        have NB284_266 := n13_
        have NB283_284 := n14_
        have NB284_283 := n15_
        clear n0_ n1_ n2_ n3_ n4_ n5_ n6_ n7_ n8_ n9_ n10_ n11_ n12_ n13_ n14_ n15_
        clear hb hbox hg
        refine hK.out _ _ ⟨(blk_cell BK265.out 0).trans rfl, (blk_cell BK265.out 1).trans rfl⟩ (fun hHeld => ?_)
        clear hK K
        refine norm_ (a' := ?_) ?_ ?_
        rotate_left
        · show Act.put _ (some 6) _ = _
          simp only [Act.put, List.setIfInBounds_toArray, List.set_cons_zero, List.set_cons_succ, i64_w, i32_w]
          rfl
        exact norm_ (by simp only [putAll, Act.put, List.setIfInBounds_toArray, List.set_cons_zero, List.set_cons_succ] <;> rfl) (hJ2_3_7_8 (v273, v277, v281, gb283, gb284) _ ⟨hHeld, HO274.out, HO278.out, HO282.out, BK265.out, BK266.out, BK283.out, BK284.out, GW283.out, GE283.out, NB265_283.out, NB283_265.out, NB266_283.out, NB283_266.out, NB284_283.out, NB283_284.out, GW284.out, GE284.out, NB265_284.out, NB284_265.out, NB266_284.out, NB284_266.out, HB.out⟩)
    rintro ⟨v273, v277, v281, gb283, gb284⟩ w30 ⟨hS_, h0_, h1_, h2_, h3_, h4_, h5_, h6_, h7_, h8_, h9_, h10_, h11_, h12_, h13_, h14_, h15_, h16_, h17_, h18_, h19_, h20_, h21_⟩
    have n0_ : Aside0 (Kd.R (Kd.int .u8) 5 w30 w.heap.size (fun k_ => some k_ ≠ (v277 : Value).ownBlock ∧ some k_ ≠ (v281 : Value).ownBlock) v273 t272) := ⟨h0_⟩
    have n1_ : Aside0 (Kd.R (Kd.int .u8) 5 w30 w.heap.size (fun k_ => some k_ ≠ (v273 : Value).ownBlock ∧ some k_ ≠ (v281 : Value).ownBlock) v277 t276) := ⟨h1_⟩
    have n2_ : Aside0 (Kd.R (Kd.int .u8) 5 w30 w.heap.size (fun k_ => some k_ ≠ (v273 : Value).ownBlock ∧ some k_ ≠ (v277 : Value).ownBlock) v281 t280) := ⟨h2_⟩
    have n3_ : Aside0 (w30.heap[gb265]? = some (.cells #[.bool a0_0, .slice A0_1 l0_1.length c0_1] 24 (0, 0))) := ⟨h3_⟩
    have n4_ : Aside0 (w30.heap[gb266]? = some (.cells #[.bool false, .slice none 0 0] 24 (0, 0))) := ⟨h4_⟩
    have n5_ : Aside0 (w30.heap[gb283]? = some (.cells #[.bool false, .slice none 0 0] 24 (0, 0))) := ⟨h5_⟩
    have n6_ : Aside0 (w30.heap[gb284]? = some (.cells #[.bool false, .slice none 0 0] 24 (0, 0))) := ⟨h6_⟩
    have n7_ : Aside0 (w.heap.size ≤ gb283) := ⟨h7_⟩
    have n8_ : Aside0 (w.heap.size ≤ gb283) := ⟨h8_⟩
    have n9_ : Aside0 (gb265 ≠ gb283) := ⟨h9_⟩
    have n10_ : Aside0 (gb283 ≠ gb265) := ⟨h10_⟩
    have n11_ : Aside0 (gb266 ≠ gb283) := ⟨h11_⟩
    have n12_ : Aside0 (gb283 ≠ gb266) := ⟨h12_⟩
    have n13_ : Aside0 (gb284 ≠ gb283) := ⟨h13_⟩
    have n14_ : Aside0 (gb283 ≠ gb284) := ⟨h14_⟩
    have n15_ : Aside0 (w.heap.size ≤ gb284) := ⟨h15_⟩
    have n16_ : Aside0 (w.heap.size ≤ gb284) := ⟨h16_⟩
    have n17_ : Aside0 (gb265 ≠ gb284) := ⟨h17_⟩
    have n18_ : Aside0 (gb284 ≠ gb265) := ⟨h18_⟩
    have n19_ : Aside0 (gb266 ≠ gb284) := ⟨h19_⟩
    have n20_ : Aside0 (gb284 ≠ gb266) := ⟨h20_⟩
    have n21_ : Aside0 (Below w.heap.size w w30) := ⟨h21_⟩
    clear BK265
    clear BK266
    clear HB
    clear h0_ h1_ h2_ h3_ h4_ h5_ h6_ h7_ h8_ h9_ h10_ h11_ h12_ h13_ h14_ h15_ h16_ h17_ h18_ h19_ h20_ h21_
    have HO274 := n0_
    have HO278 := n1_
    have HO282 := n2_
    have BK265 := n3_
    have BK266 := n4_
    have BK283 := n5_
    have BK284 := n6_
    have GW283 := n7_
    have GE283 := n8_
    have NB265_283 := n9_
    have NB283_265 := n10_
    have NB266_283 := n11_
    have NB283_266 := n12_
    have NB284_283 := n13_
    have NB283_284 := n14_
    have GW284 := n15_
    have GE284 := n16_
    have NB265_284 := n17_
    have NB284_265 := n18_
    have NB266_284 := n19_
    have NB284_266 := n20_
    have HB := n21_
    clear n0_ n1_ n2_ n3_ n4_ n5_ n6_ n7_ n8_ n9_ n10_ n11_ n12_ n13_ n14_ n15_ n16_ n17_ n18_ n19_ n20_ n21_
    have hHeld : w30.cell? ⟨gb265, 0, none⟩ = some (.bool a0_0) ∧ w30.cell? ⟨gb265, 1, none⟩ = some (.slice A0_1 l0_1.length c0_1) := hS_
    obtain ⟨Ao32, co32, eo32⟩ := Kd.R_slice HO278.out
    (first | subst eo32 | (injection eo32 with f1_ f2_ f3_; have f4_ := f1_.symm; have f5_ := f3_.symm; clear f1_ f2_ f3_; subst f4_; subst f5_))
    obtain ⟨Ao35, co35, eo35⟩ := Kd.R_slice HO282.out
    (first | subst eo35 | (injection eo35 with f1_ f2_ f3_; have f4_ := f1_.symm; have f5_ := f3_.symm; clear f1_ f2_ f3_; subst f4_; subst f5_))
    refine norm_ (a' := ?_) ?_ ?_
    rotate_left
    · simp only [putAll, Act.put, List.setIfInBounds_toArray, List.set_cons_zero, List.set_cons_succ]
      rfl
    refine one_ (i := 9) (N := none) #[true, true, true, true, true, true, true, true, true, true, false] rfl rfl (one_of HT_.out (by kernel_rfl)) (by decide) (fun K hK => ?_)
    have hs31 : w30.cell? ⟨gb283, 0, none⟩ = some (.bool false) := (blk_cell BK283.out 0).trans rfl
    have hfs31 := blk_frozen BK283.out 0
    have hns31_0 := NB265_283.out
    have hns31_1 := NB266_283.out
    have hns31_3 := NB284_283.out
    have hms31_0 := NB283_265.out
    have hms31_1 := NB283_266.out
    have hms31_3 := NB283_284.out
    have hs33 : w30.cell? ⟨gb283, 1, none⟩ = some (.slice none 0 0) := (blk_cell BK283.out 1).trans rfl
    have hfs33 := blk_frozen BK283.out 1
    have hns33_0 := NB265_283.out
    have hns33_1 := NB266_283.out
    have hns33_3 := NB284_283.out
    have hms33_0 := NB283_265.out
    have hms33_1 := NB283_266.out
    have hms33_3 := NB283_284.out
    refine skip_ (w1 := ?_) (by rfl) rfl ?_ ?_
    rotate_left
    · go_simp
      rfl
    refine hK.out _ _ ⟨((cell_far (p := ⟨gb283, _, none⟩) NB265_283.out _).trans (((cell_far (p := ⟨gb283, _, none⟩) NB265_283.out _).trans (hHeld.1)))), ((cell_far (p := ⟨gb283, _, none⟩) NB265_283.out _).trans (((cell_far (p := ⟨gb283, _, none⟩) NB265_283.out _).trans (hHeld.2))))⟩ (fun hHeld => ?_)
    clear hK K
    refine one_ (i := 10) (N := none) #[true, true, true, true, true, true, true, true, true, true, true] rfl rfl (one_of HT_.out (by kernel_rfl)) (by decide) (fun K hK => ?_)
    have hs34 : w30.cell? ⟨gb284, 0, none⟩ = some (.bool false) := (blk_cell BK284.out 0).trans rfl
    have hfs34 := blk_frozen BK284.out 0
    have hns34_0 := NB265_284.out
    have hns34_1 := NB266_284.out
    have hns34_2 := NB283_284.out
    have hms34_0 := NB284_265.out
    have hms34_1 := NB284_266.out
    have hms34_2 := NB284_283.out
    have hs36 : w30.cell? ⟨gb284, 1, none⟩ = some (.slice none 0 0) := (blk_cell BK284.out 1).trans rfl
    have hfs36 := blk_frozen BK284.out 1
    have hns36_0 := NB265_284.out
    have hns36_1 := NB266_284.out
    have hns36_2 := NB283_284.out
    have hms36_0 := NB284_265.out
    have hms36_1 := NB284_266.out
    have hms36_2 := NB284_283.out
    refine skip_ (w1 := ?_) (by rfl) rfl ?_ ?_
    rotate_left
    · go_simp
      rfl
    refine hK.out _ _ ⟨((cell_far (p := ⟨gb284, _, none⟩) NB265_284.out _).trans (((cell_far (p := ⟨gb284, _, none⟩) NB265_284.out _).trans (hHeld.1)))), ((cell_far (p := ⟨gb284, _, none⟩) NB265_284.out _).trans (((cell_far (p := ⟨gb284, _, none⟩) NB265_284.out _).trans (hHeld.2))))⟩ (fun hHeld => ?_)
    clear hK K
    refine done_ (done_of HT_.out (by kernel_rfl)) ?_
    have hnb37 := NB283_265.out
    have hnc37 := NB265_283.out
    have hnb38 := NB283_266.out
    have hnc38 := NB266_283.out
    have hnb39 := NB283_284.out
    have hnc39 := NB284_283.out
    have hcz40_0 : w30.cell? ⟨gb283, 0, none⟩ = some (.bool false) := (blk_cell BK283.out 0).trans rfl
    have hcz40_1 : w30.cell? ⟨gb283, 1, none⟩ = some (.slice none 0 0) := (blk_cell BK283.out 1).trans rfl
    have hfz40_0 := blk_frozen BK283.out 0
    have hfz40_1 := blk_frozen BK283.out 1
    have hnb41 := NB266_284.out
    have hnc41 := NB284_266.out
    have hcz42_0 : w30.cell? ⟨gb266, 0, none⟩ = some (.bool false) := (blk_cell BK266.out 0).trans rfl
    have hcz42_1 : w30.cell? ⟨gb266, 1, none⟩ = some (.slice none 0 0) := (blk_cell BK266.out 1).trans rfl
    have hfz42_0 := blk_frozen BK266.out 0
    have hfz42_1 := blk_frozen BK266.out 1
    try go_wp2
    refine bodyPost_ret (results_cell_row rfl _ _ gb266 24 #[.bool t275, .slice Ao32 t276.length co32] (0, 0) _ rfl (by (with_reducible repeat (first | refine blk_drewN ?_ _ | refine blk_drew ?_ | refine blk_alloc ?_ _)); refine blk_put (cs := #[.bool t275, .slice none 0 0]) ?_ 1 _ rfl; (with_reducible repeat (first | refine blk_drewN ?_ _ | refine blk_drew ?_ | refine blk_alloc ?_ _)); refine blk_put (cs := #[.bool false, .slice none 0 0]) ?_ 0 _ rfl; (with_reducible repeat (first | refine blk_drewN ?_ _ | refine blk_drew ?_ | refine blk_alloc ?_ _)); refine blk_far ?_ NB266_284.out _; (with_reducible repeat (first | refine blk_drewN ?_ _ | refine blk_drew ?_ | refine blk_alloc ?_ _)); refine blk_far ?_ NB266_284.out _; (with_reducible repeat (first | refine blk_drewN ?_ _ | refine blk_drew ?_ | refine blk_alloc ?_ _)); refine blk_far ?_ NB266_283.out _; (with_reducible repeat (first | refine blk_drewN ?_ _ | refine blk_drew ?_ | refine blk_alloc ?_ _)); refine blk_far ?_ NB266_283.out _; (with_reducible repeat (first | refine blk_drewN ?_ _ | refine blk_drew ?_ | refine blk_alloc ?_ _)); exact BK266.out) Tryz.underlying24 rfl (by kernel_rfl)) rfl ?_
    exact ⟨_, by first | rfl | (simp [errW_none, errW_some] <;> rfl) | (simp [*, errW_none, errW_some] <;> rfl), by (with_reducible repeat (first | apply Kd.R_alloc | apply Kd.R_drewN | apply Kd.R_drew)); exact Kd.R_mono (Kd.R_far (p := ⟨gb266, 1, none⟩) (Kd.R_far (p := ⟨gb266, 0, none⟩) (Kd.R_far (p := ⟨gb284, 1, none⟩) (Kd.R_far (p := ⟨gb284, 0, none⟩) (Kd.R_far (p := ⟨gb283, 1, none⟩) (Kd.R_far (p := ⟨gb283, 0, none⟩) (Kd.R_types (Kd.R_types (Kd.R_types HO278.out BK283.out (by decide)) BK284.out (by decide)) BK266.out (by decide)) (fun _ hk => hk.1.1.2) (.bool t275)) (fun _ hk => hk.1.1.2) (.slice Ao32 t276.length co32)) (fun _ hk => hk.1.2) (.bool t279)) (fun _ hk => hk.1.2) (.slice Ao35 t280.length co35)) (fun _ hk => hk.2) (.bool t275)) (fun _ hk => hk.2) (.slice Ao32 t276.length co32)) (fun _ hk => trivial), by repeat (first | (with_reducible first | exact HB.out | apply below_alloc | apply pw_below_drewN | apply below_drew1 | refine below_set ?_ GE265.out | refine below_set ?_ GE266.out | refine below_set ?_ GE283.out | refine below_set ?_ GE284.out) | exact HB.out)⟩



end Go.Proofs.YtodipcgilgigbaaGreatDoor.I
