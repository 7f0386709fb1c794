/- Contracts of this claim's functions: each call gives what the plain mirror (in the text D) gives; the proofs are the kit's print, over D's definitions. -/
import Derived.Test.YtodipcgilgigbaaGreatDoorC1
namespace Go.Proofs.YtodipcgilgigbaaGreatDoor.I
open Go.RowKit Go.Proofs.YtodipcgilgigbaaGreatDoorW.PrintWords Go.Proofs.YtodipcgilgigbaaGreatDoorW.PrintLast Go.Proofs.YtodipcgilgigbaaGreatDoorW.PrintMore
attribute [local go_sem] max2_int min2_int max_two min_two max_three min_three max_four min_four
set_option linter.unusedVariables false
set_option linter.unusedSimpArgs false

/-! ### spec_Small: function 24 -/
theorem spec_Small.mono : ∀ a0 k, LeO (spec_Small.f k a0) (spec_Small.f (k + 1) a0) := by
  intro a0 k
  unfold spec_Small.f
  repeat' first
      | (with_reducible exact spec_Of.mono _ _ _)
      | (with_reducible exact spec_bytesOf.mono _ _)
      | (with_reducible exact LeO.refl _)
      | (with_reducible exact LeO.none _)
      | (with_reducible refine LeO.ite ?_ ?_)
      | (with_reducible refine LeO.bind ?_ (fun _ => ?_))
      | exact spec_Of.mono _ _ _
      | exact spec_bytesOf.mono _ _
      | exact LeO.none _
      | refine LeO.ite ?_ ?_
      | refine LeO.bind ?_ (fun _ => ?_)
set_option maxHeartbeats 8000000 in
set_option maxRecDepth 100000 in
theorem spec_Small.calls (k : Nat) (a0 : Int) (r1 : Bool) (r2 : List Int) (w : World) (h : spec_Small.f k a0 = some (r1, r2)) :
    Calls Tryz.prog 24 #[.int .i64 a0] w fun e w' => ∃ v1_ : Value, e = .returned (.agg #[.bool r1, v1_]) ∧ Kd.R (Kd.int .u8) 5 w' w.heap.size (fun _ => True) v1_ r2 ∧ Below w.heap.size w w' := by
  have hu24 := Tryz.underlying24
  have HB := Aside0.mk (Below.refl w.heap.size w)
  have H : (if a0 < 0 then ((spec_bytesOf.f k (IntKind.u64.wrap (-(IntKind.u64.wrap (a0))))).bind fun t164 => ((spec_Of.f k (decide (a0 < 0)) t164).bind fun bt167 => (some (bt167.1, bt167.2)))) else ((spec_bytesOf.f k (IntKind.u64.wrap (a0))).bind fun t171 => ((spec_Of.f k (decide (a0 < 0)) t171).bind fun bt174 => (some (bt174.1, bt174.2))))) = some (r1, r2) := h
  clear h
  by_cases c2 : a0 < 0
  · rw [if_pos c2] at H
    have c2b0 : decide (a0 < 0) = true := decide_eq_true c2
    clear c2
    replace H := Option.bind_eq_some_iff.mp H
    obtain ⟨t164, A30, H⟩ := H
    replace H : ((spec_Of.f k (decide (a0 < 0)) t164).bind fun bt167 => (some (bt167.1, bt167.2))) = some (r1, r2) := H
    have A3 := Aside0.mk A30
    clear A30
    replace H := Option.bind_eq_some_iff.mp H
    obtain ⟨⟨t167, t168⟩, A40, H⟩ := H
    replace H : (some (t167, t168)) = some (r1, r2) := H
    rw [c2b0] at A40
    have A4 := Aside0.mk A40
    clear A40
    simp only [Option.some.injEq, Prod.mk.injEq] at H
    obtain ⟨rfl, rfl⟩ := H
    go_enter Tryz.func24, Tryz.ntmps24
    go_wp2_with (first | ((with_reducible refine gate_dst (N := 2) rfl ?_); refine box_event ?hg (N := 2) ?hd (cs := #[.bool false, .slice none 0 0]) (t := 24) ?hr ?_; (case hd => rfl); (case hg => rfl); (case hr => first | (go_simp; done) | (go_simp; rfl)); intro gb163 hg w5 hbox hb; have n0_ := Aside0.mk (below_step HB.out hb); have n1_ := Aside0.mk (hbox); have n2_ := Aside0.mk ((by rw [hg]; exact (below_size HB.out) : w.heap.size ≤ gb163)); have n3_ := Aside0.mk ((by rw [hg]; exact (below_size HB.out) : w.heap.size ≤ gb163)); clear HB; have HB := n0_; have BK163 := n1_; have GW163 := n2_; have GE163 := n3_; clear n0_ n1_ n2_ n3_; clear hb hbox hg) | ((with_reducible refine gate_callee (f := 28) rfl ?_); refine goesL_ (some 13) rfl rfl Tryz.func28 (by kernel_rfl) rfl #[.int .u64 (IntKind.u64.wrap (-(IntKind.u64.wrap (a0))))] rfl (by (try simp only [List.map_toArray, List.map_cons, List.map_nil]); first | done | rfl | (simp only [List.length_drop, List.length_take]; rfl)) ?_; (with_reducible refine (spec_bytesOf.calls k (IntKind.u64.wrap (-(IntKind.u64.wrap (a0)))) t164 _ A3.out).mono ?_); rintro e w6 ⟨v165, rfl, ho0, hb⟩; refine ⟨_, rfl, ?_⟩; have n0_ := Aside0.mk (Kd.R_lower ho0 (below_size HB.out)); have n1_ := Aside0.mk (blk_below BK163.out hb); have n2_ := Aside0.mk (below_step HB.out hb); clear BK163; clear HB; have HO166 := n0_; have BK163 := n1_; have HB := n2_; clear n0_ n1_ n2_; (try clear hb); (try clear hb2); (try clear hk); (try clear hi); (try clear ho0); obtain ⟨Ao7, co7, eo7⟩ := Kd.R_slice HO166.out; subst eo7) | ((with_reducible refine gate_callee (f := 15) rfl ?_); refine goesL_ (some 14) rfl rfl Tryz.func15 (by kernel_rfl) rfl #[.bool true, .slice Ao7 t164.length co7] rfl (by (try simp only [List.map_toArray, List.map_cons, List.map_nil]); first | done | rfl | (simp only [List.length_drop, List.length_take]; rfl)) ?_; (with_reducible refine (spec_Of.calls k true _ _ t164 t167 t168 _ ?side1 ?side2 A4.out).mono ?_); (case side1 => repeat (first | exact (Kd.R_reads' HO166.out).2.2 | (with_reducible refine Kd.C_alloc ?_ _) | (with_reducible refine Kd.C_drewN ?_ _) | (with_reducible refine Kd.C_drew ?_))); (case side2 => exact (Kd.R_reads' HO166.out).2.1); rintro e w8 ⟨v169, rfl, ho0, hb⟩; refine ⟨_, rfl, ?_⟩; have n0_ := Aside0.mk (Kd.R_elder' HO166.out (Kd.R_base ho0) hb); have n1_ := Aside0.mk (Kd.R_lower (Kd.R_new' ho0 (Kd.R_lt HO166.out)) (below_size HB.out)); have n2_ := Aside0.mk (blk_below BK163.out hb); have n3_ := Aside0.mk (below_step HB.out hb); clear HO166; clear BK163; clear HB; have HO166 := n0_; have HO170 := n1_; have BK163 := n2_; have HB := n3_; clear n0_ n1_ n2_ n3_; (try clear hb); (try clear hb2); (try clear hk); (try clear hi); (try clear ho0); have hcz9_0 : w8.cell? ⟨gb163, 0, none⟩ = some (.bool false) := (blk_cell BK163.out 0).trans rfl; have hcz9_1 : w8.cell? ⟨gb163, 1, none⟩ = some (.slice none 0 0) := (blk_cell BK163.out 1).trans rfl; have hfz9_0 := blk_frozen BK163.out 0; have hfz9_1 := blk_frozen BK163.out 1; obtain ⟨Ao10, co10, eo10⟩ := Kd.R_slice HO170.out; subst eo10))
    refine bodyPost_ret (results_cell_row rfl _ _ gb163 24 #[.bool t167, .slice Ao10 t168.length co10] (0, 0) _ rfl (by (with_reducible repeat (first | refine blk_drewN ?_ _ | refine blk_drew ?_ | refine blk_alloc ?_ _)); refine blk_put (cs := #[.bool t167, .slice none 0 0]) ?_ 1 _ rfl; (with_reducible repeat (first | refine blk_drewN ?_ _ | refine blk_drew ?_ | refine blk_alloc ?_ _)); refine blk_put (cs := #[.bool false, .slice none 0 0]) ?_ 0 _ rfl; (with_reducible repeat (first | refine blk_drewN ?_ _ | refine blk_drew ?_ | refine blk_alloc ?_ _)); exact BK163.out) Tryz.underlying24 rfl (by kernel_rfl)) rfl ?_
    exact ⟨_, by first | rfl | (simp [errW_none, errW_some] <;> rfl) | (simp [*, errW_none, errW_some] <;> rfl), by (with_reducible repeat (first | apply Kd.R_alloc | apply Kd.R_drewN | apply Kd.R_drew)); exact Kd.R_mono (Kd.R_far (p := ⟨gb163, 1, none⟩) (Kd.R_far (p := ⟨gb163, 0, none⟩) (Kd.R_types HO170.out BK163.out (by decide)) (fun _ hk => hk.2) (.bool t167)) (fun _ hk => hk.2) (.slice Ao10 t168.length co10)) (fun _ hk => trivial), by repeat (first | (with_reducible first | exact HB.out | apply below_alloc | apply pw_below_drewN | apply below_drew1 | refine below_set ?_ GE163.out) | exact HB.out)⟩
  · rw [if_neg c2] at H
    have c2b0 : decide (a0 < 0) = false := decide_eq_false c2
    clear c2
    replace H := Option.bind_eq_some_iff.mp H
    obtain ⟨t171, A110, H⟩ := H
    replace H : ((spec_Of.f k (decide (a0 < 0)) t171).bind fun bt174 => (some (bt174.1, bt174.2))) = some (r1, r2) := H
    have A11 := Aside0.mk A110
    clear A110
    replace H := Option.bind_eq_some_iff.mp H
    obtain ⟨⟨t174, t175⟩, A120, H⟩ := H
    replace H : (some (t174, t175)) = some (r1, r2) := H
    rw [c2b0] at A120
    have A12 := Aside0.mk A120
    clear A120
    simp only [Option.some.injEq, Prod.mk.injEq] at H
    obtain ⟨rfl, rfl⟩ := H
    go_enter Tryz.func24, Tryz.ntmps24
    go_wp2_with (first | ((with_reducible refine gate_dst (N := 2) rfl ?_); refine box_event ?hg (N := 2) ?hd (cs := #[.bool false, .slice none 0 0]) (t := 24) ?hr ?_; (case hd => rfl); (case hg => rfl); (case hr => first | (go_simp; done) | (go_simp; rfl)); intro gb163 hg w13 hbox hb; have n0_ := Aside0.mk (below_step HB.out hb); have n1_ := Aside0.mk (hbox); have n2_ := Aside0.mk ((by rw [hg]; exact (below_size HB.out) : w.heap.size ≤ gb163)); have n3_ := Aside0.mk ((by rw [hg]; exact (below_size HB.out) : w.heap.size ≤ gb163)); clear HB; have HB := n0_; have BK163 := n1_; have GW163 := n2_; have GE163 := n3_; clear n0_ n1_ n2_ n3_; clear hb hbox hg) | ((with_reducible refine gate_callee (f := 28) rfl ?_); refine goesL_ (some 13) rfl rfl Tryz.func28 (by kernel_rfl) rfl #[.int .u64 (IntKind.u64.wrap (a0))] rfl (by (try simp only [List.map_toArray, List.map_cons, List.map_nil]); first | done | rfl | (simp only [List.length_drop, List.length_take]; rfl)) ?_; (with_reducible refine (spec_bytesOf.calls k (IntKind.u64.wrap (a0)) t171 _ A11.out).mono ?_); rintro e w14 ⟨v172, rfl, ho0, hb⟩; refine ⟨_, rfl, ?_⟩; have n0_ := Aside0.mk (Kd.R_lower ho0 (below_size HB.out)); have n1_ := Aside0.mk (blk_below BK163.out hb); have n2_ := Aside0.mk (below_step HB.out hb); clear BK163; clear HB; have HO173 := n0_; have BK163 := n1_; have HB := n2_; clear n0_ n1_ n2_; (try clear hb); (try clear hb2); (try clear hk); (try clear hi); (try clear ho0); obtain ⟨Ao15, co15, eo15⟩ := Kd.R_slice HO173.out; subst eo15) | ((with_reducible refine gate_callee (f := 15) rfl ?_); refine goesL_ (some 14) rfl rfl Tryz.func15 (by kernel_rfl) rfl #[.bool false, .slice Ao15 t171.length co15] rfl (by (try simp only [List.map_toArray, List.map_cons, List.map_nil]); first | done | rfl | (simp only [List.length_drop, List.length_take]; rfl)) ?_; (with_reducible refine (spec_Of.calls k false _ _ t171 t174 t175 _ ?side1 ?side2 A12.out).mono ?_); (case side1 => repeat (first | exact (Kd.R_reads' HO173.out).2.2 | (with_reducible refine Kd.C_alloc ?_ _) | (with_reducible refine Kd.C_drewN ?_ _) | (with_reducible refine Kd.C_drew ?_))); (case side2 => exact (Kd.R_reads' HO173.out).2.1); rintro e w16 ⟨v176, rfl, ho0, hb⟩; refine ⟨_, rfl, ?_⟩; have n0_ := Aside0.mk (Kd.R_elder' HO173.out (Kd.R_base ho0) hb); have n1_ := Aside0.mk (Kd.R_lower (Kd.R_new' ho0 (Kd.R_lt HO173.out)) (below_size HB.out)); have n2_ := Aside0.mk (blk_below BK163.out hb); have n3_ := Aside0.mk (below_step HB.out hb); clear HO173; clear BK163; clear HB; have HO173 := n0_; have HO177 := n1_; have BK163 := n2_; have HB := n3_; clear n0_ n1_ n2_ n3_; (try clear hb); (try clear hb2); (try clear hk); (try clear hi); (try clear ho0); have hcz17_0 : w16.cell? ⟨gb163, 0, none⟩ = some (.bool false) := (blk_cell BK163.out 0).trans rfl; have hcz17_1 : w16.cell? ⟨gb163, 1, none⟩ = some (.slice none 0 0) := (blk_cell BK163.out 1).trans rfl; have hfz17_0 := blk_frozen BK163.out 0; have hfz17_1 := blk_frozen BK163.out 1; obtain ⟨Ao18, co18, eo18⟩ := Kd.R_slice HO177.out; subst eo18))
    refine bodyPost_ret (results_cell_row rfl _ _ gb163 24 #[.bool t174, .slice Ao18 t175.length co18] (0, 0) _ rfl (by (with_reducible repeat (first | refine blk_drewN ?_ _ | refine blk_drew ?_ | refine blk_alloc ?_ _)); refine blk_put (cs := #[.bool t174, .slice none 0 0]) ?_ 1 _ rfl; (with_reducible repeat (first | refine blk_drewN ?_ _ | refine blk_drew ?_ | refine blk_alloc ?_ _)); refine blk_put (cs := #[.bool false, .slice none 0 0]) ?_ 0 _ rfl; (with_reducible repeat (first | refine blk_drewN ?_ _ | refine blk_drew ?_ | refine blk_alloc ?_ _)); exact BK163.out) Tryz.underlying24 rfl (by kernel_rfl)) rfl ?_
    exact ⟨_, by first | rfl | (simp [errW_none, errW_some] <;> rfl) | (simp [*, errW_none, errW_some] <;> rfl), by (with_reducible repeat (first | apply Kd.R_alloc | apply Kd.R_drewN | apply Kd.R_drew)); exact Kd.R_mono (Kd.R_far (p := ⟨gb163, 1, none⟩) (Kd.R_far (p := ⟨gb163, 0, none⟩) (Kd.R_types HO177.out BK163.out (by decide)) (fun _ hk => hk.2) (.bool t174)) (fun _ hk => hk.2) (.slice Ao18 t175.length co18)) (fun _ hk => trivial), by repeat (first | (with_reducible first | exact HB.out | apply below_alloc | apply pw_below_drewN | apply below_drew1 | refine below_set ?_ GE163.out) | exact HB.out)⟩



/-! ### spec_digit: function 40 -/
set_option maxHeartbeats 8000000 in
set_option maxRecDepth 100000 in
theorem spec_digit.calls (A0 : Option Addr) (c0 : Nat) (l0 : List Int) (a1 : Int) (r : Int) (w : World) (hr0 : Kd.C (Kd.int .u8) w A0 l0.length l0) (hc0 : l0.length ≤ c0) (h : spec_digit.f l0 a1 = some r) :
    Calls Tryz.prog 40 #[.slice A0 l0.length c0, .int .i64 a1] w fun e w' => e = .returned (.int .i64 r) ∧ Drawn0 w w' := by
  have HR0 := Aside0.mk hr0
  have HC0 := Aside0.mk hc0
  clear hr0 hc0
  have H : (if a1 ≥ (l0.length : Int) then (some 0) else (if 0 ≤ (wrap64 ((wrap64 ((l0.length : Int) - 1)) - a1)) then (if (wrap64 ((wrap64 ((l0.length : Int) - 1)) - a1)) < (l0.length : Int) then (some (wrap64 (rd l0 (wrap64 ((wrap64 ((l0.length : Int) - 1)) - a1))))) else (none)) else (none))) = some r := h
  clear h
  by_cases c3 : a1 ≥ (l0.length : Int)
  · rw [if_pos c3] at H
    have c3b0 : decide ((l0.length : Int) ≤ a1) = true := decide_eq_true c3
    clear c3
    obtain rfl := Option.some.inj H
    go_enter Tryz.func40, Tryz.ntmps40
    go_wp2
    go_ret
    exact ⟨by first | rfl | (simp; done) | (simp [*]; done), by repeat (first | exact Drawn0.refl _ | apply Drawn0.step)⟩
  · rw [if_neg c3] at H
    have c3b0 : decide ((l0.length : Int) ≤ a1) = false := decide_eq_false c3
    clear c3
    obtain ⟨ji4, hji4⟩ : ∃ j_ : Int, (wrap64 ((wrap64 ((l0.length : Int) - 1)) - a1)) = j_ := ⟨_, rfl⟩
    replace H : (if 0 ≤ (ji4) then (if (ji4) < (l0.length : Int) then (some (wrap64 (rd l0 (ji4)))) else (none)) else (none)) = some r := by first | (rw [hji4] at H; exact H) | (simp only [hji4] at H ⊢; exact H)
    have hji4w : (IntKind.i64.wrap ((wrap64 ((l0.length : Int) - 1)) - a1)) = ji4 := (i64_w _).trans hji4
    by_cases c5 : 0 ≤ (ji4)
    · rw [if_pos c5] at H
      have c5b0 : decide (0 ≤ (ji4)) = true := decide_eq_true c5
      clear c5
      by_cases c6 : (ji4) < (l0.length : Int)
      · rw [if_pos c6] at H
        have c6b0 : decide ((ji4) < (l0.length : Int)) = true := decide_eq_true c6
        clear c6
        obtain rfl := Option.some.inj H
        have p146 : 0 ≤ ((ji4) : Int) := of_decide_eq_true (by first | (with_reducible assumption) | assumption)
        have q146 : (ji4) < (l0.length : Int) := of_decide_eq_true (by first | (with_reducible assumption) | assumption)
        obtain ⟨ad146, e146, hx146_0⟩ := Kd.at_int HR0.out (ji4) p146 q146
        cases e146
        replace p146 := eq_true p146
        replace q146 := eq_true q146
        go_enter Tryz.func40, Tryz.ntmps40
        go_wp2
        go_ret
        exact ⟨by first | rfl | (simp; done) | (simp only [← hji4] <;> (first | rfl | simp)) | (simp [*]; done), by repeat (first | exact Drawn0.refl _ | apply Drawn0.step)⟩
      · rw [if_neg c6] at H
        exact absurd H (by simp)
    · rw [if_neg c5] at H
      exact absurd H (by simp)


/-! ### spec_bit: function 22 -/
set_option maxHeartbeats 8000000 in
set_option maxRecDepth 100000 in
theorem spec_bit.calls (A0 : Option Addr) (c0 : Nat) (l0 : List Int) (a1 : Int) (r : Int) (w : World) (hr0 : Kd.C (Kd.int .u8) w A0 l0.length l0) (hc0 : l0.length ≤ c0) (h : spec_bit.f l0 a1 = some r) :
    Calls Tryz.prog 22 #[.slice A0 l0.length c0, .int .i64 a1] w fun e w' => e = .returned (.int .i64 r) ∧ Drawn0 w w' := by
  have HR0 := Aside0.mk hr0
  have HC0 := Aside0.mk hc0
  clear hr0 hc0
  have H : ((spec_digit.f l0 (wrap64 (Int.tdiv a1 8))).bind fun t147 => (if 0 ≤ (IntKind.u64.wrap (Int.tmod a1 8)) then (some (Go.bits .and .i64 (shr .i64 t147 (IntKind.u64.wrap (Int.tmod a1 8))) 1)) else (none))) = some r := h
  clear h
  replace H := Option.bind_eq_some_iff.mp H
  obtain ⟨t147, A30, H⟩ := H
  replace H : (if 0 ≤ (IntKind.u64.wrap (Int.tmod a1 8)) then (some (Go.bits .and .i64 (shr .i64 t147 (IntKind.u64.wrap (Int.tmod a1 8))) 1)) else (none)) = some r := H
  have A3 := Aside0.mk A30
  clear A30
  obtain ⟨ji4, hji4⟩ : ∃ j_ : Int, (IntKind.u64.wrap (Int.tmod a1 8)) = j_ := ⟨_, rfl⟩
  replace H : (if 0 ≤ (ji4) then (some (Go.bits .and .i64 (shr .i64 t147 (ji4)) 1)) else (none)) = some r := by first | (rw [hji4] at H; exact H) | (simp only [hji4] at H ⊢; exact H)
  (try rw [hji4] at A3)
  by_cases c5 : 0 ≤ (ji4)
  · rw [if_pos c5] at H
    have c5b0 := eq_true c5
    have c5b1 : decide (0 ≤ (ji4)) = true := decide_eq_true c5
    clear c5
    obtain ⟨ji6, hji6⟩ : ∃ j_ : Int, (shr .i64 t147 (ji4)) = j_ := ⟨_, rfl⟩
    replace H : (some (Go.bits .and .i64 (ji6) 1)) = some r := by first | (rw [hji6] at H; exact H) | (simp only [hji6] at H ⊢; exact H)
    (try rw [hji6] at A3)
    have hji6_ : (t147 / 2 ^ min (ji4).toNat 64) = ji6 := hji6
    have hji6z : (ji4) ≤ 64 → (t147 / 2 ^ (ji4).toNat) = ji6 := shr_small hji6
    obtain rfl := Option.some.inj H
    go_enter Tryz.func22, Tryz.ntmps22
    go_wp2_with (first | ((with_reducible refine gate_callee (f := 40) rfl ?_); refine goesL_ (some 8) rfl rfl Tryz.func40 (by kernel_rfl) rfl #[.slice A0 l0.length c0, .int .i64 (wrap64 (Int.tdiv a1 8))] rfl (by (try simp only [List.map_toArray, List.map_cons, List.map_nil]); first | done | rfl | (simp only [List.length_drop, List.length_take]; rfl)) ?_; (with_reducible refine (spec_digit.calls _ _ l0 (wrap64 (Int.tdiv a1 8)) t147 _ ?side1 ?side2 A3.out).mono ?_); (case side1 => repeat (first | exact HR0.out | (with_reducible refine Kd.C_alloc ?_ _) | (with_reducible refine Kd.C_drewN ?_ _) | (with_reducible refine Kd.C_drew ?_))); (case side2 => exact HC0.out); rintro e w' ⟨rfl, ⟨nd, rfl⟩⟩; refine ⟨_, rfl, ?_⟩))
    go_ret
    exact ⟨by first | rfl | (simp; done) | (simp only [← hji4, ← hji6] <;> (first | rfl | simp)) | (simp [*]; done), by repeat (first | exact Drawn0.refl _ | apply Drawn0.step)⟩
  · rw [if_neg c5] at H
    exact absurd H (by simp)


/-! ### spec_Int_Length: function 16 -/
theorem spec_Int_Length.mono_l : ∀ k, (∀ y0 y1 y2, LeO (spec_Int_Length.l0 k y0 y1 y2) (spec_Int_Length.l0 (k + 1) y0 y1 y2))
  | 0 => fun _ _ _ r h => by simp [spec_Int_Length.l0] at h
  | k + 1 => by
    have ih0 := spec_Int_Length.mono_l k
    · intro y0 y1 y2
      unfold spec_Int_Length.l0
      repeat' first
      | (with_reducible exact ih0 _ _ _)
      | (with_reducible exact LeO.refl _)
      | (with_reducible exact LeO.none _)
      | (with_reducible refine LeO.ite ?_ ?_)
      | (with_reducible refine LeO.bind ?_ (fun _ => ?_))
      | exact ih0 _ _ _
      | exact LeO.none _
      | refine LeO.ite ?_ ?_
      | refine LeO.bind ?_ (fun _ => ?_)
theorem spec_Int_Length.mono : ∀ a0 a1 k, LeO (spec_Int_Length.f k a0 a1) (spec_Int_Length.f (k + 1) a0 a1) := by
  intro a0 a1 k
  have ih0 := spec_Int_Length.mono_l k
  unfold spec_Int_Length.f
  repeat' first
      | (with_reducible exact ih0 _ _ _)
      | (with_reducible exact LeO.refl _)
      | (with_reducible exact LeO.none _)
      | (with_reducible refine LeO.ite ?_ ?_)
      | (with_reducible refine LeO.bind ?_ (fun _ => ?_))
      | exact ih0 _ _ _
      | exact LeO.none _
      | refine LeO.ite ?_ ?_
      | refine LeO.bind ?_ (fun _ => ?_)
set_option maxHeartbeats 8000000 in
set_option maxRecDepth 100000 in
theorem spec_Int_Length.calls (k : Nat) (a0_0 : Bool) (A0_1 : Option Addr) (c0_1 : Nat) (l0_1 : List Int) (r : Int) (w : World) (hr0_1 : Kd.C (Kd.int .u8) w A0_1 l0_1.length l0_1) (hc0_1 : l0_1.length ≤ c0_1) (h : spec_Int_Length.f k a0_0 l0_1 = some r) :
    Calls Tryz.prog 16 #[.agg #[.bool a0_0, .slice A0_1 l0_1.length c0_1]] w fun e w' => e = .returned (.int .i64 r) ∧ Below w.heap.size w w' := by
  have hu24 := Tryz.underlying24
  have HR0_1 := Aside0.mk hr0_1
  have HC0_1 := Aside0.mk hc0_1
  clear hr0_1 hc0_1
  have HB := Aside0.mk (Below.refl w.heap.size w)
  have H : (spec_Int_Length.l0 k (wrap64 (8 * (l0_1.length : Int))) a0_0 l0_1) = some r := h
  clear h
  have H' := Aside0.mk H
  clear H
  go_enter Tryz.func16, Tryz.ntmps16
  go_wp2_with (first | ((with_reducible refine gate_dst (N := 1) rfl ?_); refine box_event ?hg (N := 1) ?hd (cs := #[.bool a0_0, .slice A0_1 l0_1.length c0_1]) (t := 24) ?hr ?_; (case hd => rfl); (case hg => rfl); (case hr => first | (go_simp; done) | (go_simp; rfl)); intro gb148 hg w2 hbox hb; have n0_ := Aside0.mk (below_step HB.out hb); have n1_ := Aside0.mk (hbox); have n2_ := Aside0.mk ((by rw [hg]; exact (below_size HB.out) : w.heap.size ≤ gb148)); have n3_ := Aside0.mk ((by rw [hg]; exact (below_size HB.out) : w.heap.size ≤ gb148)); clear HB; have HB := n0_; have BK148 := n1_; have GW148 := n2_; have GE148 := n3_; clear n0_ n1_ n2_ n3_; clear hb hbox hg; have hcz3_0 : w2.cell? ⟨gb148, 0, none⟩ = some (.bool a0_0) := (blk_cell BK148.out 0).trans rfl; have hcz3_1 : w2.cell? ⟨gb148, 1, none⟩ = some (.slice A0_1 l0_1.length c0_1) := (blk_cell BK148.out 1).trans rfl; have hfz3_0 := blk_frozen BK148.out 0; have hfz3_1 := blk_frozen BK148.out 1))
  go_loopg [3] k (fun kq v3 w' => ∃ (x3_1 : Int), v3 = .int .i64 x3_1 ∧ Aside0 (spec_Int_Length.l0 kq x3_1 a0_0 l0_1 = some r) ∧ Aside0 (kq ≤ k) ∧ Aside0 (w'.heap[gb148]? = some (.cells #[.bool a0_0, (.slice A0_1 l0_1.length c0_1)] 24 (0, 0))) ∧ Aside0 (Below w.heap.size w w'))
  case atStart => exact ⟨(wrap64 (8 * (l0_1.length : Int))), (by first | rfl | (simp; done) | (simp [*]; done)), H', ⟨Nat.le_refl _⟩, ⟨by (with_reducible repeat (first | refine blk_drewN ?_ _ | refine blk_drew ?_ | refine blk_alloc ?_ _)); exact BK148.out⟩, ⟨by repeat (first | (with_reducible first | exact HB.out | apply below_alloc | apply pw_below_drewN | apply below_drew1 | refine below_set ?_ GE148.out) | exact HB.out)⟩⟩
  case round =>
    clear H'
    try clear c1
    try clear p2
    try clear hcz3_0
    try clear hcz3_1
    try clear hfz3_0
    try clear hfz3_1
    obtain ⟨x3_1, rfl, HA, HK1, BK148, HB⟩ := hrel
    cases gk with
    | zero => exact absurd HA.out (by simp [spec_Int_Length.l0])
    | succ k1 =>
      have H := HA.out
      clear HA
      simp only [spec_Int_Length.l0] at H
      by_cases c4 : x3_1 > 0
      · rw [if_pos c4] at H
        have c4b0 : decide (0 < x3_1) = true := decide_eq_true c4
        clear c4
        replace H := Option.bind_eq_some_iff.mp H
        obtain ⟨t149, A50, H⟩ := H
        replace H : (if t149 = 1 then (some x3_1) else (spec_Int_Length.l0 k1 (wrap64 (x3_1 - 1)) a0_0 l0_1)) = some r := H
        have A5 := Aside0.mk A50
        clear A50
        by_cases c6 : t149 = 1
        · rw [if_pos c6] at H
          have c6b0 : (t149 == 1) = true := beq_iff_eq.mpr c6
          have c6b1 : (t149 != 1) = false := bne_eq_false_iff_eq.mpr c6
          clear c6
          obtain rfl := Option.some.inj H
          have hcz7_0 : wr.cell? ⟨gb148, 0, none⟩ = some (.bool a0_0) := (blk_cell BK148.out 0).trans rfl
          have hcz7_1 : wr.cell? ⟨gb148, 1, none⟩ = some (.slice A0_1 l0_1.length c0_1) := (blk_cell BK148.out 1).trans rfl
          have hfz7_0 := blk_frozen BK148.out 0
          have hfz7_1 := blk_frozen BK148.out 1
          go_wp2_with (first | ((with_reducible refine gate_callee (f := 22) rfl ?_); refine goesL_ (some 16) rfl rfl Tryz.func22 (by kernel_rfl) rfl #[.slice A0_1 l0_1.length c0_1, .int .i64 (wrap64 (x3_1 - 1))] rfl (by (try simp only [List.map_toArray, List.map_cons, List.map_nil]); first | done | rfl | (simp only [List.length_drop, List.length_take]; rfl)) ?_; (with_reducible refine (spec_bit.calls _ _ l0_1 (wrap64 (x3_1 - 1)) t149 _ ?side1 ?side2 A5.out).mono ?_); (case side1 => repeat (first | exact (Kd.C_below HR0_1.out HB.out) | (with_reducible refine Kd.C_alloc ?_ _) | (with_reducible refine Kd.C_drewN ?_ _) | (with_reducible refine Kd.C_drew ?_))); (case side2 => exact HC0_1.out); rintro e w' ⟨rfl, ⟨nd, rfl⟩⟩; refine ⟨_, rfl, ?_⟩))
          go_ret
          exact ⟨by first | rfl | (simp [errW_none, errW_some] <;> rfl) | (simp [*, errW_none, errW_some] <;> rfl), by repeat (first | (with_reducible first | exact HB.out | apply below_alloc | apply pw_below_drewN | apply below_drew1 | refine below_set ?_ GE148.out) | exact HB.out)⟩
        · rw [if_neg c6] at H
          have c6b0 : (t149 == 1) = false := beq_eq_false_iff_ne.mpr c6
          have c6b1 : (t149 != 1) = true := bne_iff_ne.mpr c6
          have H' := Aside0.mk H
          clear H
          have hcz8_0 : wr.cell? ⟨gb148, 0, none⟩ = some (.bool a0_0) := (blk_cell BK148.out 0).trans rfl
          have hcz8_1 : wr.cell? ⟨gb148, 1, none⟩ = some (.slice A0_1 l0_1.length c0_1) := (blk_cell BK148.out 1).trans rfl
          have hfz8_0 := blk_frozen BK148.out 0
          have hfz8_1 := blk_frozen BK148.out 1
          go_wp2_with (first | ((with_reducible refine gate_callee (f := 22) rfl ?_); refine goesL_ (some 16) rfl rfl Tryz.func22 (by kernel_rfl) rfl #[.slice A0_1 l0_1.length c0_1, .int .i64 (wrap64 (x3_1 - 1))] rfl (by (try simp only [List.map_toArray, List.map_cons, List.map_nil]); first | done | rfl | (simp only [List.length_drop, List.length_take]; rfl)) ?_; (with_reducible refine (spec_bit.calls _ _ l0_1 (wrap64 (x3_1 - 1)) t149 _ ?side1 ?side2 A5.out).mono ?_); (case side1 => repeat (first | exact (Kd.C_below HR0_1.out HB.out) | (with_reducible refine Kd.C_alloc ?_ _) | (with_reducible refine Kd.C_drewN ?_ _) | (with_reducible refine Kd.C_drew ?_))); (case side2 => exact HC0_1.out); rintro e w' ⟨rfl, ⟨nd, rfl⟩⟩; refine ⟨_, rfl, ?_⟩))
          go_roundg k1
          case measure => have := HK1.out; omega
          case rel => exact ⟨(wrap64 (x3_1 - 1)), (by first | rfl | (simp; done) | (simp [*]; done)), H', ⟨by have := HK1.out; omega⟩, ⟨by (with_reducible repeat (first | refine blk_drewN ?_ _ | refine blk_drew ?_ | refine blk_alloc ?_ _)); exact BK148.out⟩, ⟨by repeat (first | (with_reducible first | exact HB.out | apply below_alloc | apply pw_below_drewN | apply below_drew1 | refine below_set ?_ GE148.out) | exact HB.out)⟩⟩
      · rw [if_neg c4] at H
        have c4b0 : decide (0 < x3_1) = false := decide_eq_false c4
        clear c4
        obtain rfl := Option.some.inj H
        go_wp2
        go_ret
        exact ⟨by first | rfl | (simp [errW_none, errW_some] <;> rfl) | (simp [*, errW_none, errW_some] <;> rfl), by repeat (first | (with_reducible first | exact HB.out | apply below_alloc | apply pw_below_drewN | apply below_drew1 | refine below_set ?_ GE148.out) | exact HB.out)⟩


end Go.Proofs.YtodipcgilgigbaaGreatDoor.I
