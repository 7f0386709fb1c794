/- Contracts of this claim's functions: each call gives what the plain mirror (in the text D) gives; the proofs are the kit's print, over D's definitions. -/
import Derived.Test.YtgjfjbghdpcllaaGreatDoorC7
import Derived.Test.YtgjfjbghdpcllaaGreatDoorC8
namespace Go.Proofs.YtgjfjbghdpcllaaGreatDoor.I
open Go.RowKit Go.Proofs.YtgjfjbghdpcllaaGreatDoorW.PrintWords Go.Proofs.YtgjfjbghdpcllaaGreatDoorW.PrintLast Go.Proofs.YtgjfjbghdpcllaaGreatDoorW.PrintMore
attribute [local go_sem] max2_int min2_int max_two min_two max_three min_three max_four min_four
set_option linter.unusedVariables false
set_option linter.unusedSimpArgs false

/-! ### spec_near: function 29 -/
theorem spec_near.mono_l : ∀ k, (∀ y0 y1 y2, LeO (spec_near.j0 k y0 y1 y2) (spec_near.j0 (k + 1) y0 y1 y2))
  | 0 => fun _ _ _ r h => by simp [spec_near.j0] at h
  | k + 1 => by
    have ih0 := spec_near.mono_l k
    · intro y0 y1 y2
      unfold spec_near.j0
      repeat' first
      | (with_reducible exact ih0 _ _ _)
      | (with_reducible exact spec_Int_Add.mono _ _ _ _ _)
      | (with_reducible exact spec_Int_Cmp.mono _ _ _ _ _)
      | (with_reducible exact spec_Int_Floor.mono _ _ _ _ _)
      | (with_reducible exact spec_Int_low.mono _ _ _)
      | (with_reducible exact spec_Small.mono _ _)
      | (with_reducible exact LeO.refl _)
      | (with_reducible exact LeO.none _)
      | (with_reducible refine LeO.ite ?_ ?_)
      | (with_reducible refine LeO.bind ?_ (fun _ => ?_))
      | exact ih0 _ _ _
      | exact spec_Int_Add.mono _ _ _ _ _
      | exact spec_Int_Cmp.mono _ _ _ _ _
      | exact spec_Int_Floor.mono _ _ _ _ _
      | exact spec_Int_low.mono _ _ _
      | exact spec_Small.mono _ _
      | exact LeO.none _
      | refine LeO.ite ?_ ?_
      | refine LeO.bind ?_ (fun _ => ?_)
theorem spec_near.mono : ∀ a0 a1 a2 a3 k, LeO (spec_near.f k a0 a1 a2 a3) (spec_near.f (k + 1) a0 a1 a2 a3) := by
  intro a0 a1 a2 a3 k
  have ih0 := spec_near.mono_l k
  unfold spec_near.f
  repeat' first
      | (with_reducible exact ih0 _ _ _)
      | (with_reducible exact spec_Int_Add.mono _ _ _ _ _)
      | (with_reducible exact spec_Int_Cmp.mono _ _ _ _ _)
      | (with_reducible exact spec_Int_Floor.mono _ _ _ _ _)
      | (with_reducible exact spec_Int_low.mono _ _ _)
      | (with_reducible exact spec_Small.mono _ _)
      | (with_reducible exact LeO.refl _)
      | (with_reducible exact LeO.none _)
      | (with_reducible refine LeO.ite ?_ ?_)
      | (with_reducible refine LeO.bind ?_ (fun _ => ?_))
      | exact ih0 _ _ _
      | exact spec_Int_Add.mono _ _ _ _ _
      | exact spec_Int_Cmp.mono _ _ _ _ _
      | exact spec_Int_Floor.mono _ _ _ _ _
      | exact spec_Int_low.mono _ _ _
      | exact spec_Small.mono _ _
      | exact LeO.none _
      | refine LeO.ite ?_ ?_
      | refine LeO.bind ?_ (fun _ => ?_)
set_option maxHeartbeats 8000000 in
set_option maxRecDepth 100000 in
theorem spec_near.calls (k : Nat) (a0_0 : Bool) (A0_1 : Option Addr) (c0_1 : Nat) (l0_1 : List Int) (a1_0 : Bool) (A1_1 : Option Addr) (c1_1 : Nat) (l1_1 : List Int) (r1 : Bool) (r2 : List Int) (w : World) (hr0_1 : Kd.C (Kd.int .u8) w A0_1 l0_1.length l0_1) (hc0_1 : l0_1.length ≤ c0_1) (hr1_1 : Kd.C (Kd.int .u8) w A1_1 l1_1.length l1_1) (hc1_1 : l1_1.length ≤ c1_1) (h : spec_near.f k a0_0 l0_1 a1_0 l1_1 = some (r1, r2)) :
    Calls Tryz.prog 29 #[.agg #[.bool a0_0, .slice A0_1 l0_1.length c0_1], .agg #[.bool a1_0, .slice A1_1 l1_1.length c1_1]] w fun e w' => ∃ v1_ : Value, e = .returned (.agg #[.bool r1, v1_]) ∧ Kd.R (Kd.int .u8) 5 w' w.heap.size (fun _ => True) v1_ r2 ∧ Below w.heap.size w w' := by
  have hu37 := Tryz.underlying37
  have HR0_1 := Aside0.mk hr0_1
  have HC0_1 := Aside0.mk hc0_1
  clear hr0_1 hc0_1
  have HR1_1 := Aside0.mk hr1_1
  have HC1_1 := Aside0.mk hc1_1
  clear hr1_1 hc1_1
  have HB := Aside0.mk (Below.refl w.heap.size w)
  have H : ((spec_Int_Floor.f k a0_0 l0_1 a1_0 l1_1).bind fun bt509 => ((spec_Int_Add.f k bt509.2.2.1 bt509.2.2.2 bt509.2.2.1 bt509.2.2.2).bind fun bt519 => ((spec_Int_Cmp.f k bt519.1 bt519.2 a1_0 l1_1).bind fun t523 => (if t523 > 0 then (spec_near.j0 k true bt509.1 bt509.2.1) else (if t523 = 0 then ((spec_Int_low.f k bt509.1 bt509.2.1).bind fun t524 => (spec_near.j0 k ((Go.bits .and .u64 t524 1) == 1) bt509.1 bt509.2.1)) else (spec_near.j0 k false bt509.1 bt509.2.1)))))) = some (r1, r2) := h
  clear h
  replace H := Option.bind_eq_some_iff.mp H
  obtain ⟨⟨t509, t510, t513, t514⟩, A30, H⟩ := H
  replace H : ((spec_Int_Add.f k t513 t514 t513 t514).bind fun bt519 => ((spec_Int_Cmp.f k bt519.1 bt519.2 a1_0 l1_1).bind fun t523 => (if t523 > 0 then (spec_near.j0 k true t509 t510) else (if t523 = 0 then ((spec_Int_low.f k t509 t510).bind fun t524 => (spec_near.j0 k ((Go.bits .and .u64 t524 1) == 1) t509 t510)) else (spec_near.j0 k false t509 t510))))) = some (r1, r2) := H
  have A3 := Aside0.mk A30
  clear A30
  replace H := Option.bind_eq_some_iff.mp H
  obtain ⟨⟨t519, t520⟩, A40, H⟩ := H
  replace H : ((spec_Int_Cmp.f k t519 t520 a1_0 l1_1).bind fun t523 => (if t523 > 0 then (spec_near.j0 k true t509 t510) else (if t523 = 0 then ((spec_Int_low.f k t509 t510).bind fun t524 => (spec_near.j0 k ((Go.bits .and .u64 t524 1) == 1) t509 t510)) else (spec_near.j0 k false t509 t510)))) = some (r1, r2) := H
  have A4 := Aside0.mk A40
  clear A40
  replace H := Option.bind_eq_some_iff.mp H
  obtain ⟨t523, A50, H⟩ := H
  replace H : (if t523 > 0 then (spec_near.j0 k true t509 t510) else (if t523 = 0 then ((spec_Int_low.f k t509 t510).bind fun t524 => (spec_near.j0 k ((Go.bits .and .u64 t524 1) == 1) t509 t510)) else (spec_near.j0 k false t509 t510))) = some (r1, r2) := H
  have A5 := Aside0.mk A50
  clear A50
  have HC6 := Aside0.mk H
  clear H
  go_enter Tryz.func29, Tryz.ntmps29
  try go_wp2_with (first | ((with_reducible refine gate_dst (N := 2) rfl ?_); refine box_event ?hg (N := 2) ?hd (cs := #[.bool a0_0, .slice A0_1 l0_1.length c0_1]) (t := 37) ?hr ?_; (case hd => rfl); (case hg => rfl); (case hr => first | (go_simp; done) | (go_simp; rfl)); intro gb506 hg w7 hbox hb; have n0_ := Aside0.mk (below_step (by repeat (first | (with_reducible first | exact HB.out | apply below_alloc | apply pw_below_drewN | apply below_drew1) | exact HB.out)) hb); have n1_ := Aside0.mk (hbox); have n2_ := Aside0.mk ((by rw [hg]; exact (below_size (by repeat (first | (with_reducible first | exact HB.out | apply below_alloc | apply pw_below_drewN | apply below_drew1) | exact HB.out))) : w.heap.size ≤ gb506)); have n3_ := Aside0.mk ((by rw [hg]; exact (below_size (by repeat (first | (with_reducible first | exact HB.out | apply below_alloc | apply pw_below_drewN | apply below_drew1) | exact HB.out))) : w.heap.size ≤ gb506)); clear HB; have HB := n0_; have BK506 := n1_; have GW506 := n2_; have GE506 := n3_; clear n0_ n1_ n2_ n3_; clear hb hbox hg) | ((with_reducible refine gate_dst (N := 3) rfl ?_); refine box_event ?hg (N := 3) ?hd (cs := #[.bool a1_0, .slice A1_1 l1_1.length c1_1]) (t := 37) ?hr ?_; (case hd => rfl); (case hg => rfl); (case hr => first | (go_simp; done) | (go_simp; rfl)); intro gb507 hg w8 hbox hb; have n0_ := Aside0.mk (blk_below (g := gb506) (o := .cells #[.bool a0_0, .slice A0_1 l0_1.length c0_1] 37 (0, 0)) (by (with_reducible repeat (first | refine blk_drewN ?_ _ | refine blk_drew ?_ | refine blk_alloc ?_ _)); exact BK506.out) hb); have n1_ := Aside0.mk (below_step (by repeat (first | (with_reducible first | exact HB.out | apply below_alloc | apply pw_below_drewN | apply below_drew1 | refine below_set ?_ GE506.out) | exact HB.out)) hb); have n2_ := Aside0.mk (hbox); have n3_ := Aside0.mk ((by rw [hg]; exact (below_size (by repeat (first | (with_reducible first | exact HB.out | apply below_alloc | apply pw_below_drewN | apply below_drew1 | refine below_set ?_ GE506.out) | exact HB.out))) : w.heap.size ≤ gb507)); have n4_ := Aside0.mk ((by rw [hg]; exact (below_size (by repeat (first | (with_reducible first | exact HB.out | apply below_alloc | apply pw_below_drewN | apply below_drew1 | refine below_set ?_ GE506.out) | exact HB.out))) : w.heap.size ≤ gb507)); have n5_ := Aside0.mk ((by rw [hg]; exact Nat.ne_of_lt (blk_lt (g := gb506) (o := .cells #[.bool a0_0, .slice A0_1 l0_1.length c0_1] 37 (0, 0)) (by (with_reducible repeat (first | refine blk_drewN ?_ _ | refine blk_drew ?_ | refine blk_alloc ?_ _)); exact BK506.out)) : gb506 ≠ gb507)); have n6_ := Aside0.mk ((by rw [hg]; exact Nat.ne_of_gt (blk_lt (g := gb506) (o := .cells #[.bool a0_0, .slice A0_1 l0_1.length c0_1] 37 (0, 0)) (by (with_reducible repeat (first | refine blk_drewN ?_ _ | refine blk_drew ?_ | refine blk_alloc ?_ _)); exact BK506.out)) : gb507 ≠ gb506)); clear BK506; clear HB; have BK506 := n0_; have HB := n1_; have BK507 := n2_; have GW507 := n3_; have GE507 := n4_; have NB506_507 := n5_; have NB507_506 := n6_; clear n0_ n1_ n2_ n3_ n4_ n5_ n6_; clear hb hbox hg) | ((with_reducible refine gate_dst (N := 4) rfl ?_); refine box_event ?hg (N := 4) ?hd (cs := #[.bool false, .slice none 0 0]) (t := 37) ?hr ?_; (case hd => rfl); (case hg => rfl); (case hr => first | (go_simp; done) | (go_simp; rfl)); intro gb508 hg w9 hbox hb; have n0_ := Aside0.mk (blk_below (g := gb506) (o := .cells #[.bool a0_0, .slice A0_1 l0_1.length c0_1] 37 (0, 0)) (by (with_reducible repeat (first | refine blk_drewN ?_ _ | refine blk_drew ?_ | refine blk_alloc ?_ _)); exact BK506.out) hb); have n1_ := Aside0.mk (blk_below (g := gb507) (o := .cells #[.bool a1_0, .slice A1_1 l1_1.length c1_1] 37 (0, 0)) (by (with_reducible repeat (first | refine blk_drewN ?_ _ | refine blk_drew ?_ | refine blk_alloc ?_ _)); exact BK507.out) hb); have n2_ := Aside0.mk (below_step (by repeat (first | (with_reducible first | exact HB.out | apply below_alloc | apply pw_below_drewN | apply below_drew1 | refine below_set ?_ GE506.out | refine below_set ?_ GE507.out) | exact HB.out)) hb); have n3_ := Aside0.mk (hbox); have n4_ := Aside0.mk ((by rw [hg]; exact (below_size (by repeat (first | (with_reducible first | exact HB.out | apply below_alloc | apply pw_below_drewN | apply below_drew1 | refine below_set ?_ GE506.out | refine below_set ?_ GE507.out) | exact HB.out))) : w.heap.size ≤ gb508)); have n5_ := Aside0.mk ((by rw [hg]; exact (below_size (by repeat (first | (with_reducible first | exact HB.out | apply below_alloc | apply pw_below_drewN | apply below_drew1 | refine below_set ?_ GE506.out | refine below_set ?_ GE507.out) | exact HB.out))) : w.heap.size ≤ gb508)); have n6_ := Aside0.mk ((by rw [hg]; exact Nat.ne_of_lt (blk_lt (g := gb506) (o := .cells #[.bool a0_0, .slice A0_1 l0_1.length c0_1] 37 (0, 0)) (by (with_reducible repeat (first | refine blk_drewN ?_ _ | refine blk_drew ?_ | refine blk_alloc ?_ _)); exact BK506.out)) : gb506 ≠ gb508)); have n7_ := Aside0.mk ((by rw [hg]; exact Nat.ne_of_gt (blk_lt (g := gb506) (o := .cells #[.bool a0_0, .slice A0_1 l0_1.length c0_1] 37 (0, 0)) (by (with_reducible repeat (first | refine blk_drewN ?_ _ | refine blk_drew ?_ | refine blk_alloc ?_ _)); exact BK506.out)) : gb508 ≠ gb506)); have n8_ := Aside0.mk ((by rw [hg]; exact Nat.ne_of_lt (blk_lt (g := gb507) (o := .cells #[.bool a1_0, .slice A1_1 l1_1.length c1_1] 37 (0, 0)) (by (with_reducible repeat (first | refine blk_drewN ?_ _ | refine blk_drew ?_ | refine blk_alloc ?_ _)); exact BK507.out)) : gb507 ≠ gb508)); have n9_ := Aside0.mk ((by rw [hg]; exact Nat.ne_of_gt (blk_lt (g := gb507) (o := .cells #[.bool a1_0, .slice A1_1 l1_1.length c1_1] 37 (0, 0)) (by (with_reducible repeat (first | refine blk_drewN ?_ _ | refine blk_drew ?_ | refine blk_alloc ?_ _)); exact BK507.out)) : gb508 ≠ gb507)); clear BK506; clear BK507; clear HB; have BK506 := n0_; have BK507 := n1_; have HB := n2_; have BK508 := n3_; have GW508 := n4_; have GE508 := n5_; have NB506_508 := n6_; have NB508_506 := n7_; have NB507_508 := n8_; have NB508_507 := n9_; clear n0_ n1_ n2_ n3_ n4_ n5_ n6_ n7_ n8_ n9_; clear hb hbox hg; have hnb10 := NB506_507.out; have hnc10 := NB507_506.out; have hnb11 := NB506_508.out; have hnc11 := NB508_506.out; have hcz12_0 : w9.cell? ⟨gb506, 0, none⟩ = some (.bool a0_0) := (blk_cell BK506.out 0).trans rfl; have hcz12_1 : w9.cell? ⟨gb506, 1, none⟩ = some (.slice A0_1 l0_1.length c0_1) := (blk_cell BK506.out 1).trans rfl; have hfz12_0 := blk_frozen BK506.out 0; have hfz12_1 := blk_frozen BK506.out 1; have hnb13 := NB507_508.out; have hnc13 := NB508_507.out; have hcz14_0 : w9.cell? ⟨gb507, 0, none⟩ = some (.bool a1_0) := (blk_cell BK507.out 0).trans rfl; have hcz14_1 : w9.cell? ⟨gb507, 1, none⟩ = some (.slice A1_1 l1_1.length c1_1) := (blk_cell BK507.out 1).trans rfl; have hfz14_0 := blk_frozen BK507.out 0; have hfz14_1 := blk_frozen BK507.out 1) | ((with_reducible refine gate_callee (f := 42) rfl ?_); refine goesL_ (some 11) rfl rfl Tryz.func42 (by kernel_rfl) rfl #[.agg #[.bool a0_0, .slice A0_1 l0_1.length c0_1], .agg #[.bool a1_0, .slice A1_1 l1_1.length c1_1]] rfl (by (try simp only [List.map_toArray, List.map_cons, List.map_nil]); first | done | rfl | (simp only [List.length_drop, List.length_take]; rfl)) ?_; (with_reducible refine (spec_Int_Floor.calls k a0_0 _ _ l0_1 a1_0 _ _ l1_1 t509 t510 t513 t514 _ ?side1 ?side2 ?side3 ?side4 A3.out).mono ?_); (case side1 => repeat (first | exact (Kd.C_below HR0_1.out HB.out) | (with_reducible refine Kd.C_alloc ?_ _) | (with_reducible refine Kd.C_drewN ?_ _) | (with_reducible refine Kd.C_drew ?_))); (case side2 => exact HC0_1.out); (case side3 => repeat (first | exact (Kd.C_below HR1_1.out HB.out) | (with_reducible refine Kd.C_alloc ?_ _) | (with_reducible refine Kd.C_drewN ?_ _) | (with_reducible refine Kd.C_drew ?_))); (case side4 => exact HC1_1.out); rintro e w15 ⟨v511, v515, rfl, ho0, ho1, hb⟩; refine ⟨_, rfl, ?_⟩; have n0_ := Aside0.mk (Kd.R_lower ho0 (below_size (by repeat (first | (with_reducible first | exact HB.out | apply below_alloc | apply pw_below_drewN | apply below_drew1 | refine below_set ?_ GE506.out | refine below_set ?_ GE507.out | refine below_set ?_ GE508.out) | exact HB.out)))); have n1_ := Aside0.mk (Kd.R_lower ho1 (below_size (by repeat (first | (with_reducible first | exact HB.out | apply below_alloc | apply pw_below_drewN | apply below_drew1 | refine below_set ?_ GE506.out | refine below_set ?_ GE507.out | refine below_set ?_ GE508.out) | exact HB.out)))); have n2_ := Aside0.mk (blk_below (g := gb506) (o := .cells #[.bool a0_0, .slice A0_1 l0_1.length c0_1] 37 (0, 0)) (by (with_reducible repeat (first | refine blk_drewN ?_ _ | refine blk_drew ?_ | refine blk_alloc ?_ _)); exact BK506.out) hb); have n3_ := Aside0.mk (blk_below (g := gb507) (o := .cells #[.bool a1_0, .slice A1_1 l1_1.length c1_1] 37 (0, 0)) (by (with_reducible repeat (first | refine blk_drewN ?_ _ | refine blk_drew ?_ | refine blk_alloc ?_ _)); exact BK507.out) hb); have n4_ := Aside0.mk (blk_below (g := gb508) (o := .cells #[.bool false, .slice none 0 0] 37 (0, 0)) (by (with_reducible repeat (first | refine blk_drewN ?_ _ | refine blk_drew ?_ | refine blk_alloc ?_ _)); exact BK508.out) hb); have n5_ := Aside0.mk (below_step (by repeat (first | (with_reducible first | exact HB.out | apply below_alloc | apply pw_below_drewN | apply below_drew1 | refine below_set ?_ GE506.out | refine below_set ?_ GE507.out | refine below_set ?_ GE508.out) | exact HB.out)) hb); clear BK506; clear BK507; clear BK508; clear HB; have HO512 := n0_; have HO516 := n1_; have BK506 := n2_; have BK507 := n3_; have BK508 := n4_; have HB := n5_; clear n0_ n1_ n2_ n3_ n4_ n5_; (try clear hb); (try clear hb2); (try clear hk); (try clear hi); (try clear ho0); (try clear ho1)) | ((with_reducible refine gate_dst (N := 5) rfl ?_); refine box_event ?hg (N := 5) ?hd (cs := #[.bool false, .slice none 0 0]) (t := 37) ?hr ?_; (case hd => rfl); (case hg => rfl); (case hr => first | (go_simp; done) | (go_simp; rfl)); intro gb517 hg w16 hbox hb; have n0_ := Aside0.mk (Kd.R_below (by (with_reducible repeat (first | apply Kd.R_alloc | apply Kd.R_drewN | apply Kd.R_drew)); exact HO512.out) hb); have n1_ := Aside0.mk (Kd.R_below (by (with_reducible repeat (first | apply Kd.R_alloc | apply Kd.R_drewN | apply Kd.R_drew)); exact HO516.out) hb); have n2_ := Aside0.mk (blk_below (g := gb506) (o := .cells #[.bool a0_0, .slice A0_1 l0_1.length c0_1] 37 (0, 0)) (by (with_reducible repeat (first | refine blk_drewN ?_ _ | refine blk_drew ?_ | refine blk_alloc ?_ _)); exact BK506.out) hb); have n3_ := Aside0.mk (blk_below (g := gb507) (o := .cells #[.bool a1_0, .slice A1_1 l1_1.length c1_1] 37 (0, 0)) (by (with_reducible repeat (first | refine blk_drewN ?_ _ | refine blk_drew ?_ | refine blk_alloc ?_ _)); exact BK507.out) hb); have n4_ := Aside0.mk (blk_below (g := gb508) (o := .cells #[.bool false, .slice none 0 0] 37 (0, 0)) (by (with_reducible repeat (first | refine blk_drewN ?_ _ | refine blk_drew ?_ | refine blk_alloc ?_ _)); exact BK508.out) hb); have n5_ := Aside0.mk (below_step (by repeat (first | (with_reducible first | exact HB.out | apply below_alloc | apply pw_below_drewN | apply below_drew1 | refine below_set ?_ GE506.out | refine below_set ?_ GE507.out | refine below_set ?_ GE508.out) | exact HB.out)) hb); have n6_ := Aside0.mk (hbox); have n7_ := Aside0.mk ((by rw [hg]; exact (below_size (by repeat (first | (with_reducible first | exact HB.out | apply below_alloc | apply pw_below_drewN | apply below_drew1 | refine below_set ?_ GE506.out | refine below_set ?_ GE507.out | refine below_set ?_ GE508.out) | exact HB.out))) : w.heap.size ≤ gb517)); have n8_ := Aside0.mk ((by rw [hg]; exact (below_size (by repeat (first | (with_reducible first | exact HB.out | apply below_alloc | apply pw_below_drewN | apply below_drew1 | refine below_set ?_ GE506.out | refine below_set ?_ GE507.out | refine below_set ?_ GE508.out) | exact HB.out))) : w.heap.size ≤ gb517)); have n9_ := Aside0.mk ((by rw [hg]; exact Nat.ne_of_lt (blk_lt (g := gb506) (o := .cells #[.bool a0_0, .slice A0_1 l0_1.length c0_1] 37 (0, 0)) (by (with_reducible repeat (first | refine blk_drewN ?_ _ | refine blk_drew ?_ | refine blk_alloc ?_ _)); exact BK506.out)) : gb506 ≠ gb517)); have n10_ := Aside0.mk ((by rw [hg]; exact Nat.ne_of_gt (blk_lt (g := gb506) (o := .cells #[.bool a0_0, .slice A0_1 l0_1.length c0_1] 37 (0, 0)) (by (with_reducible repeat (first | refine blk_drewN ?_ _ | refine blk_drew ?_ | refine blk_alloc ?_ _)); exact BK506.out)) : gb517 ≠ gb506)); have n11_ := Aside0.mk ((by rw [hg]; exact Nat.ne_of_lt (blk_lt (g := gb507) (o := .cells #[.bool a1_0, .slice A1_1 l1_1.length c1_1] 37 (0, 0)) (by (with_reducible repeat (first | refine blk_drewN ?_ _ | refine blk_drew ?_ | refine blk_alloc ?_ _)); exact BK507.out)) : gb507 ≠ gb517)); have n12_ := Aside0.mk ((by rw [hg]; exact Nat.ne_of_gt (blk_lt (g := gb507) (o := .cells #[.bool a1_0, .slice A1_1 l1_1.length c1_1] 37 (0, 0)) (by (with_reducible repeat (first | refine blk_drewN ?_ _ | refine blk_drew ?_ | refine blk_alloc ?_ _)); exact BK507.out)) : gb517 ≠ gb507)); have n13_ := Aside0.mk ((by rw [hg]; exact Nat.ne_of_lt (blk_lt (g := gb508) (o := .cells #[.bool false, .slice none 0 0] 37 (0, 0)) (by (with_reducible repeat (first | refine blk_drewN ?_ _ | refine blk_drew ?_ | refine blk_alloc ?_ _)); exact BK508.out)) : gb508 ≠ gb517)); have n14_ := Aside0.mk ((by rw [hg]; exact Nat.ne_of_gt (blk_lt (g := gb508) (o := .cells #[.bool false, .slice none 0 0] 37 (0, 0)) (by (with_reducible repeat (first | refine blk_drewN ?_ _ | refine blk_drew ?_ | refine blk_alloc ?_ _)); exact BK508.out)) : gb517 ≠ gb508)); clear HO512; clear HO516; clear BK506; clear BK507; clear BK508; clear HB; have HO512 := n0_; have HO516 := n1_; have BK506 := n2_; have BK507 := n3_; have BK508 := n4_; have HB := n5_; have BK517 := n6_; have GW517 := n7_; have GE517 := n8_; have NB506_517 := n9_; have NB517_506 := n10_; have NB507_517 := n11_; have NB517_507 := n12_; have NB508_517 := n13_; have NB517_508 := n14_; clear n0_ n1_ n2_ n3_ n4_ n5_ n6_ n7_ n8_ n9_ n10_ n11_ n12_ n13_ n14_; clear hb hbox hg) | ((with_reducible refine gate_dst (N := 6) rfl ?_); refine box_event ?hg (N := 6) ?hd (cs := #[.bool false, .slice none 0 0]) (t := 37) ?hr ?_; (case hd => rfl); (case hg => rfl); (case hr => first | (go_simp; done) | (go_simp; rfl)); intro gb518 hg w17 hbox hb; have n0_ := Aside0.mk (Kd.R_below (by (with_reducible repeat (first | apply Kd.R_alloc | apply Kd.R_drewN | apply Kd.R_drew)); exact HO512.out) hb); have n1_ := Aside0.mk (Kd.R_below (by (with_reducible repeat (first | apply Kd.R_alloc | apply Kd.R_drewN | apply Kd.R_drew)); exact HO516.out) hb); have n2_ := Aside0.mk (blk_below (g := gb506) (o := .cells #[.bool a0_0, .slice A0_1 l0_1.length c0_1] 37 (0, 0)) (by (with_reducible repeat (first | refine blk_drewN ?_ _ | refine blk_drew ?_ | refine blk_alloc ?_ _)); exact BK506.out) hb); have n3_ := Aside0.mk (blk_below (g := gb507) (o := .cells #[.bool a1_0, .slice A1_1 l1_1.length c1_1] 37 (0, 0)) (by (with_reducible repeat (first | refine blk_drewN ?_ _ | refine blk_drew ?_ | refine blk_alloc ?_ _)); exact BK507.out) hb); have n4_ := Aside0.mk (blk_below (g := gb508) (o := .cells #[.bool false, .slice none 0 0] 37 (0, 0)) (by (with_reducible repeat (first | refine blk_drewN ?_ _ | refine blk_drew ?_ | refine blk_alloc ?_ _)); exact BK508.out) hb); have n5_ := Aside0.mk (blk_below (g := gb517) (o := .cells #[.bool false, .slice none 0 0] 37 (0, 0)) (by (with_reducible repeat (first | refine blk_drewN ?_ _ | refine blk_drew ?_ | refine blk_alloc ?_ _)); exact BK517.out) hb); have n6_ := Aside0.mk (below_step (by repeat (first | (with_reducible first | exact HB.out | apply below_alloc | apply pw_below_drewN | apply below_drew1 | refine below_set ?_ GE506.out | refine below_set ?_ GE507.out | refine below_set ?_ GE508.out | refine below_set ?_ GE517.out) | exact HB.out)) hb); have n7_ := Aside0.mk (hbox); have n8_ := Aside0.mk ((by rw [hg]; exact (below_size (by repeat (first | (with_reducible first | exact HB.out | apply below_alloc | apply pw_below_drewN | apply below_drew1 | refine below_set ?_ GE506.out | refine below_set ?_ GE507.out | refine below_set ?_ GE508.out | refine below_set ?_ GE517.out) | exact HB.out))) : w.heap.size ≤ gb518)); have n9_ := Aside0.mk ((by rw [hg]; exact (below_size (by repeat (first | (with_reducible first | exact HB.out | apply below_alloc | apply pw_below_drewN | apply below_drew1 | refine below_set ?_ GE506.out | refine below_set ?_ GE507.out | refine below_set ?_ GE508.out | refine below_set ?_ GE517.out) | exact HB.out))) : w.heap.size ≤ gb518)); have n10_ := Aside0.mk ((by rw [hg]; exact Nat.ne_of_lt (blk_lt (g := gb506) (o := .cells #[.bool a0_0, .slice A0_1 l0_1.length c0_1] 37 (0, 0)) (by (with_reducible repeat (first | refine blk_drewN ?_ _ | refine blk_drew ?_ | refine blk_alloc ?_ _)); exact BK506.out)) : gb506 ≠ gb518)); have n11_ := Aside0.mk ((by rw [hg]; exact Nat.ne_of_gt (blk_lt (g := gb506) (o := .cells #[.bool a0_0, .slice A0_1 l0_1.length c0_1] 37 (0, 0)) (by (with_reducible repeat (first | refine blk_drewN ?_ _ | refine blk_drew ?_ | refine blk_alloc ?_ _)); exact BK506.out)) : gb518 ≠ gb506)); have n12_ := Aside0.mk ((by rw [hg]; exact Nat.ne_of_lt (blk_lt (g := gb507) (o := .cells #[.bool a1_0, .slice A1_1 l1_1.length c1_1] 37 (0, 0)) (by (with_reducible repeat (first | refine blk_drewN ?_ _ | refine blk_drew ?_ | refine blk_alloc ?_ _)); exact BK507.out)) : gb507 ≠ gb518)); have n13_ := Aside0.mk ((by rw [hg]; exact Nat.ne_of_gt (blk_lt (g := gb507) (o := .cells #[.bool a1_0, .slice A1_1 l1_1.length c1_1] 37 (0, 0)) (by (with_reducible repeat (first | refine blk_drewN ?_ _ | refine blk_drew ?_ | refine blk_alloc ?_ _)); exact BK507.out)) : gb518 ≠ gb507)); have n14_ := Aside0.mk ((by rw [hg]; exact Nat.ne_of_lt (blk_lt (g := gb508) (o := .cells #[.bool false, .slice none 0 0] 37 (0, 0)) (by (with_reducible repeat (first | refine blk_drewN ?_ _ | refine blk_drew ?_ | refine blk_alloc ?_ _)); exact BK508.out)) : gb508 ≠ gb518)); have n15_ := Aside0.mk ((by rw [hg]; exact Nat.ne_of_gt (blk_lt (g := gb508) (o := .cells #[.bool false, .slice none 0 0] 37 (0, 0)) (by (with_reducible repeat (first | refine blk_drewN ?_ _ | refine blk_drew ?_ | refine blk_alloc ?_ _)); exact BK508.out)) : gb518 ≠ gb508)); have n16_ := Aside0.mk ((by rw [hg]; exact Nat.ne_of_lt (blk_lt (g := gb517) (o := .cells #[.bool false, .slice none 0 0] 37 (0, 0)) (by (with_reducible repeat (first | refine blk_drewN ?_ _ | refine blk_drew ?_ | refine blk_alloc ?_ _)); exact BK517.out)) : gb517 ≠ gb518)); have n17_ := Aside0.mk ((by rw [hg]; exact Nat.ne_of_gt (blk_lt (g := gb517) (o := .cells #[.bool false, .slice none 0 0] 37 (0, 0)) (by (with_reducible repeat (first | refine blk_drewN ?_ _ | refine blk_drew ?_ | refine blk_alloc ?_ _)); exact BK517.out)) : gb518 ≠ gb517)); clear HO512; clear HO516; clear BK506; clear BK507; clear BK508; clear BK517; clear HB; have HO512 := n0_; have HO516 := n1_; have BK506 := n2_; have BK507 := n3_; have BK508 := n4_; have BK517 := n5_; have HB := n6_; have BK518 := n7_; have GW518 := n8_; have GE518 := n9_; have NB506_518 := n10_; have NB518_506 := n11_; have NB507_518 := n12_; have NB518_507 := n13_; have NB508_518 := n14_; have NB518_508 := n15_; have NB517_518 := n16_; have NB518_517 := n17_; clear n0_ n1_ n2_ n3_ n4_ n5_ n6_ n7_ n8_ n9_ n10_ n11_ n12_ n13_ n14_ n15_ n16_ n17_; clear hb hbox hg; have hnb18 := NB517_506.out; have hnc18 := NB506_517.out; have hnb19 := NB517_507.out; have hnc19 := NB507_517.out; have hnb20 := NB517_508.out; have hnc20 := NB508_517.out; have hnb21 := NB517_518.out; have hnc21 := NB518_517.out; have hcz22_0 : w17.cell? ⟨gb517, 0, none⟩ = some (.bool false) := (blk_cell BK517.out 0).trans rfl; have hcz22_1 : w17.cell? ⟨gb517, 1, none⟩ = some (.slice none 0 0) := (blk_cell BK517.out 1).trans rfl; have hfz22_0 := blk_frozen BK517.out 0; have hfz22_1 := blk_frozen BK517.out 1; obtain ⟨Ao23, co23, eo23⟩ := Kd.R_slice HO512.out; subst eo23; have hnb24 := NB518_506.out; have hnc24 := NB506_518.out; have hnb25 := NB518_507.out; have hnc25 := NB507_518.out; have hnb26 := NB518_508.out; have hnc26 := NB508_518.out; have hcz27_0 : w17.cell? ⟨gb518, 0, none⟩ = some (.bool false) := (blk_cell BK518.out 0).trans rfl; have hcz27_1 : w17.cell? ⟨gb518, 1, none⟩ = some (.slice none 0 0) := (blk_cell BK518.out 1).trans rfl; have hfz27_0 := blk_frozen BK518.out 0; have hfz27_1 := blk_frozen BK518.out 1; obtain ⟨Ao28, co28, eo28⟩ := Kd.R_slice HO516.out; subst eo28))
  have n0_ : Aside0 (Kd.R (Kd.int .u8) 5 ((((w17.setCell ⟨gb517, 0, none⟩ (.bool t509)).setCell ⟨gb517, 1, none⟩ (.slice Ao23 t510.length co23)).setCell ⟨gb518, 0, none⟩ (.bool t513)).setCell ⟨gb518, 1, none⟩ (.slice Ao28 t514.length co28)) w.heap.size (fun k_ => some k_ ≠ (.slice Ao28 t514.length co28 : Value).ownBlock) (.slice Ao23 t510.length co23) t510) := ⟨by (with_reducible repeat (first | apply Kd.R_alloc | apply Kd.R_drewN | apply Kd.R_drew)); exact Kd.R_mono (Kd.R_far (p := ⟨gb518, 1, none⟩) (Kd.R_far (p := ⟨gb518, 0, none⟩) (Kd.R_far (p := ⟨gb517, 1, none⟩) (Kd.R_far (p := ⟨gb517, 0, none⟩) (Kd.R_types (Kd.R_types HO512.out BK517.out (by decide)) BK518.out (by decide)) (fun _ hk => hk.1.2) (.bool t509)) (fun _ hk => hk.1.2) (.slice Ao23 t510.length co23)) (fun _ hk => hk.2) (.bool t513)) (fun _ hk => hk.2) (.slice Ao28 t514.length co28)) (fun _ hk => hk.1.1)⟩
  have n1_ : Aside0 (Kd.R (Kd.int .u8) 5 ((((w17.setCell ⟨gb517, 0, none⟩ (.bool t509)).setCell ⟨gb517, 1, none⟩ (.slice Ao23 t510.length co23)).setCell ⟨gb518, 0, none⟩ (.bool t513)).setCell ⟨gb518, 1, none⟩ (.slice Ao28 t514.length co28)) w.heap.size (fun k_ => some k_ ≠ (.slice Ao23 t510.length co23 : Value).ownBlock) (.slice Ao28 t514.length co28) t514) := ⟨by (with_reducible repeat (first | apply Kd.R_alloc | apply Kd.R_drewN | apply Kd.R_drew)); exact Kd.R_mono (Kd.R_far (p := ⟨gb518, 1, none⟩) (Kd.R_far (p := ⟨gb518, 0, none⟩) (Kd.R_far (p := ⟨gb517, 1, none⟩) (Kd.R_far (p := ⟨gb517, 0, none⟩) (Kd.R_types (Kd.R_types HO516.out BK517.out (by decide)) BK518.out (by decide)) (fun _ hk => hk.1.2) (.bool t509)) (fun _ hk => hk.1.2) (.slice Ao23 t510.length co23)) (fun _ hk => hk.2) (.bool t513)) (fun _ hk => hk.2) (.slice Ao28 t514.length co28)) (fun _ hk => hk.1.1)⟩
  have n2_ : Aside0 (((((w17.setCell ⟨gb517, 0, none⟩ (.bool t509)).setCell ⟨gb517, 1, none⟩ (.slice Ao23 t510.length co23)).setCell ⟨gb518, 0, none⟩ (.bool t513)).setCell ⟨gb518, 1, none⟩ (.slice Ao28 t514.length co28)).heap[gb506]? = some (.cells #[.bool a0_0, .slice A0_1 l0_1.length c0_1] 37 (0, 0))) := ⟨by (with_reducible repeat (first | refine blk_drewN ?_ _ | refine blk_drew ?_ | refine blk_alloc ?_ _)); refine blk_far ?_ NB506_518.out _; (with_reducible repeat (first | refine blk_drewN ?_ _ | refine blk_drew ?_ | refine blk_alloc ?_ _)); refine blk_far ?_ NB506_518.out _; (with_reducible repeat (first | refine blk_drewN ?_ _ | refine blk_drew ?_ | refine blk_alloc ?_ _)); refine blk_far ?_ NB506_517.out _; (with_reducible repeat (first | refine blk_drewN ?_ _ | refine blk_drew ?_ | refine blk_alloc ?_ _)); refine blk_far ?_ NB506_517.out _; (with_reducible repeat (first | refine blk_drewN ?_ _ | refine blk_drew ?_ | refine blk_alloc ?_ _)); exact BK506.out⟩
  have n3_ : Aside0 (((((w17.setCell ⟨gb517, 0, none⟩ (.bool t509)).setCell ⟨gb517, 1, none⟩ (.slice Ao23 t510.length co23)).setCell ⟨gb518, 0, none⟩ (.bool t513)).setCell ⟨gb518, 1, none⟩ (.slice Ao28 t514.length co28)).heap[gb507]? = some (.cells #[.bool a1_0, .slice A1_1 l1_1.length c1_1] 37 (0, 0))) := ⟨by (with_reducible repeat (first | refine blk_drewN ?_ _ | refine blk_drew ?_ | refine blk_alloc ?_ _)); refine blk_far ?_ NB507_518.out _; (with_reducible repeat (first | refine blk_drewN ?_ _ | refine blk_drew ?_ | refine blk_alloc ?_ _)); refine blk_far ?_ NB507_518.out _; (with_reducible repeat (first | refine blk_drewN ?_ _ | refine blk_drew ?_ | refine blk_alloc ?_ _)); refine blk_far ?_ NB507_517.out _; (with_reducible repeat (first | refine blk_drewN ?_ _ | refine blk_drew ?_ | refine blk_alloc ?_ _)); refine blk_far ?_ NB507_517.out _; (with_reducible repeat (first | refine blk_drewN ?_ _ | refine blk_drew ?_ | refine blk_alloc ?_ _)); exact BK507.out⟩
  have n4_ : Aside0 (((((w17.setCell ⟨gb517, 0, none⟩ (.bool t509)).setCell ⟨gb517, 1, none⟩ (.slice Ao23 t510.length co23)).setCell ⟨gb518, 0, none⟩ (.bool t513)).setCell ⟨gb518, 1, none⟩ (.slice Ao28 t514.length co28)).heap[gb508]? = some (.cells #[.bool false, .slice none 0 0] 37 (0, 0))) := ⟨by (with_reducible repeat (first | refine blk_drewN ?_ _ | refine blk_drew ?_ | refine blk_alloc ?_ _)); refine blk_far ?_ NB508_518.out _; (with_reducible repeat (first | refine blk_drewN ?_ _ | refine blk_drew ?_ | refine blk_alloc ?_ _)); refine blk_far ?_ NB508_518.out _; (with_reducible repeat (first | refine blk_drewN ?_ _ | refine blk_drew ?_ | refine blk_alloc ?_ _)); refine blk_far ?_ NB508_517.out _; (with_reducible repeat (first | refine blk_drewN ?_ _ | refine blk_drew ?_ | refine blk_alloc ?_ _)); refine blk_far ?_ NB508_517.out _; (with_reducible repeat (first | refine blk_drewN ?_ _ | refine blk_drew ?_ | refine blk_alloc ?_ _)); exact BK508.out⟩
  have n5_ : Aside0 (((((w17.setCell ⟨gb517, 0, none⟩ (.bool t509)).setCell ⟨gb517, 1, none⟩ (.slice Ao23 t510.length co23)).setCell ⟨gb518, 0, none⟩ (.bool t513)).setCell ⟨gb518, 1, none⟩ (.slice Ao28 t514.length co28)).heap[gb517]? = some (.cells #[.bool t509, .slice Ao23 t510.length co23] 37 (0, 0))) := ⟨by (with_reducible repeat (first | refine blk_drewN ?_ _ | refine blk_drew ?_ | refine blk_alloc ?_ _)); refine blk_far ?_ NB517_518.out _; (with_reducible repeat (first | refine blk_drewN ?_ _ | refine blk_drew ?_ | refine blk_alloc ?_ _)); refine blk_far ?_ NB517_518.out _; (with_reducible repeat (first | refine blk_drewN ?_ _ | refine blk_drew ?_ | refine blk_alloc ?_ _)); refine blk_put (cs := #[.bool t509, .slice none 0 0]) ?_ 1 _ rfl; (with_reducible repeat (first | refine blk_drewN ?_ _ | refine blk_drew ?_ | refine blk_alloc ?_ _)); refine blk_put (cs := #[.bool false, .slice none 0 0]) ?_ 0 _ rfl; (with_reducible repeat (first | refine blk_drewN ?_ _ | refine blk_drew ?_ | refine blk_alloc ?_ _)); exact BK517.out⟩
  have n6_ : Aside0 (((((w17.setCell ⟨gb517, 0, none⟩ (.bool t509)).setCell ⟨gb517, 1, none⟩ (.slice Ao23 t510.length co23)).setCell ⟨gb518, 0, none⟩ (.bool t513)).setCell ⟨gb518, 1, none⟩ (.slice Ao28 t514.length co28)).heap[gb518]? = some (.cells #[.bool t513, .slice Ao28 t514.length co28] 37 (0, 0))) := ⟨by (with_reducible repeat (first | refine blk_drewN ?_ _ | refine blk_drew ?_ | refine blk_alloc ?_ _)); refine blk_put (cs := #[.bool t513, .slice none 0 0]) ?_ 1 _ rfl; (with_reducible repeat (first | refine blk_drewN ?_ _ | refine blk_drew ?_ | refine blk_alloc ?_ _)); refine blk_put (cs := #[.bool false, .slice none 0 0]) ?_ 0 _ rfl; (with_reducible repeat (first | refine blk_drewN ?_ _ | refine blk_drew ?_ | refine blk_alloc ?_ _)); refine blk_far ?_ NB518_517.out _; (with_reducible repeat (first | refine blk_drewN ?_ _ | refine blk_drew ?_ | refine blk_alloc ?_ _)); refine blk_far ?_ NB518_517.out _; (with_reducible repeat (first | refine blk_drewN ?_ _ | refine blk_drew ?_ | refine blk_alloc ?_ _)); exact BK518.out⟩
  have n7_ : Aside0 (Below w.heap.size w ((((w17.setCell ⟨gb517, 0, none⟩ (.bool t509)).setCell ⟨gb517, 1, none⟩ (.slice Ao23 t510.length co23)).setCell ⟨gb518, 0, none⟩ (.bool t513)).setCell ⟨gb518, 1, none⟩ (.slice Ao28 t514.length co28))) := ⟨by repeat (first | (with_reducible first | exact HB.out | apply below_alloc | apply pw_below_drewN | apply below_drew1 | refine below_set ?_ GE506.out | refine below_set ?_ GE507.out | refine below_set ?_ GE508.out | refine below_set ?_ GE517.out | refine below_set ?_ GE518.out) | exact HB.out)⟩
  (try clear HO512)
  (try clear HO516)
  (try clear BK506)
  (try clear BK507)
  (try clear BK508)
  (try clear BK517)
  (try clear BK518)
  (try clear HB)
  generalize ((((w17.setCell ⟨gb517, 0, none⟩ (.bool t509)).setCell ⟨gb517, 1, none⟩ (.slice Ao23 t510.length co23)).setCell ⟨gb518, 0, none⟩ (.bool t513)).setCell ⟨gb518, 1, none⟩ (.slice Ao28 t514.length co28)) = w29 at n0_ n1_ n2_ n3_ n4_ n5_ n6_ n7_ ⊢
  have HO512 := n0_
  have HO516 := n1_
  have BK506 := n2_
  have BK507 := n3_
  have BK508 := n4_
  have BK517 := n5_
  have BK518 := n6_
  have HB := n7_
  clear n0_ n1_ n2_ n3_ n4_ n5_ n6_ n7_
  have n0_ := Aside0.mk (Kd.R_drew HO512.out)
  have n1_ := Aside0.mk (Kd.R_drew HO516.out)
  have n2_ := Aside0.mk (blk_drew BK506.out)
  have n3_ := Aside0.mk (blk_drew BK507.out)
  have n4_ := Aside0.mk (blk_drew BK508.out)
  have n5_ := Aside0.mk (blk_drew BK517.out)
  have n6_ := Aside0.mk (blk_drew BK518.out)
  have n7_ := Aside0.mk (below_drew1 HB.out)
  clear HO512
  clear HO516
  clear BK506
  clear BK507
  clear BK508
  clear BK517
  clear BK518
  clear HB
  have HO512 := n0_
  have HO516 := n1_
  have BK506 := n2_
  have BK507 := n3_
  have BK508 := n4_
  have BK517 := n5_
  have BK518 := n6_
  have HB := n7_
  clear n0_ n1_ n2_ n3_ n4_ n5_ n6_ n7_
  refine start_ (n := 6) (S := fun w' => w'.cell? ⟨gb518, 0, none⟩ = some (.bool t513) ∧ w'.cell? ⟨gb518, 1, none⟩ = some (.slice Ao28 t514.length co28) ∧ w'.cell? ⟨gb507, 0, none⟩ = some (.bool a1_0) ∧ w'.cell? ⟨gb507, 1, none⟩ = some (.slice A1_1 l1_1.length c1_1)) (ds := []) #[false, false, false, false, false, false] (by kernel_rfl) rfl rfl ⟨(blk_cell BK518.out 0).trans rfl, (blk_cell BK518.out 1).trans rfl, (blk_cell BK507.out 0).trans rfl, (blk_cell BK507.out 1).trans rfl⟩ (fun hHeld => ?_)
  generalize w29.drew = w30 at HO512 HO516 BK506 BK507 BK508 BK517 BK518 HB hHeld ⊢
  refine take_ (i := 0) (N := some 14) (v := ?_) (a' := ?_) #[true, false, false, false, false, false] rfl rfl (by kernel_rfl) (fun _ _ _ h => h) (Or.inl ⟨by rfl, ?_⟩) hHeld ?_ ?_
  rotate_left
  · rintro w' ⟨s0, s1, s2, s3⟩
    go_simp
    with_reducible rfl
  rotate_left
  · simp only [Act.put, List.setIfInBounds_toArray, List.set_cons_zero, List.set_cons_succ, i64_w, i32_w]
    rfl
  refine take_ (i := 1) (N := some 15) (v := ?_) (a' := ?_) #[true, true, false, false, false, false] rfl rfl (by kernel_rfl) (fun _ _ _ h => h) (Or.inl ⟨by rfl, ?_⟩) hHeld ?_ ?_
  rotate_left
  · rintro w' ⟨s0, s1, s2, s3⟩
    go_simp
    with_reducible rfl
  rotate_left
  · simp only [Act.put, List.setIfInBounds_toArray, List.set_cons_zero, List.set_cons_succ, i64_w, i32_w]
    rfl
  refine take_ (i := 3) (N := some 17) (v := ?_) (a' := ?_) #[true, true, false, true, false, false] rfl rfl (by kernel_rfl) (fun _ _ _ h => h) (Or.inl ⟨by rfl, ?_⟩) hHeld ?_ ?_
  rotate_left
  · rintro w' ⟨s0, s1, s2, s3⟩
    go_simp
    with_reducible rfl
  rotate_left
  · simp only [Act.put, List.setIfInBounds_toArray, List.set_cons_zero, List.set_cons_succ, i64_w, i32_w]
    rfl
  refine one_ (i := 2) (N := some 16) #[true, true, true, true, false, false] rfl rfl (by kernel_rfl) (by decide) (fun K hK => ?_)
  refine goes_ Tryz.func43 (by kernel_rfl) rfl #[.agg #[.bool t513, .slice Ao28 t514.length co28], .agg #[.bool t513, .slice Ao28 t514.length co28]] (by rfl) rfl rfl (by (try simp only [List.map_toArray, List.map_cons, List.map_nil]); first | done | rfl | (simp only [List.length_drop, List.length_take]; rfl)) ?_
  with_reducible refine (spec_Int_Add.calls k t513 _ _ t514 t513 _ _ t514 t519 t520 _ ?side1 ?side2 ?side3 ?side4 A4.out).mono ?_
  (case side1 => repeat (first | exact (Kd.R_reads' HO516.out).2.2 | (with_reducible refine Kd.C_alloc ?_ _) | (with_reducible refine Kd.C_drewN ?_ _) | (with_reducible refine Kd.C_drew ?_)))
  (case side2 => exact (Kd.R_reads' HO516.out).2.1)
  (case side3 => repeat (first | exact (Kd.R_reads' HO516.out).2.2 | (with_reducible refine Kd.C_alloc ?_ _) | (with_reducible refine Kd.C_drewN ?_ _) | (with_reducible refine Kd.C_drew ?_)))
  (case side4 => exact (Kd.R_reads' HO516.out).2.1)
  rintro e w31 ⟨v521, rfl, ho0, hb⟩
  refine ⟨_, rfl, ?_⟩
  have n0_ := Aside0.mk (Kd.R_elder' (by (with_reducible repeat (first | apply Kd.R_alloc | apply Kd.R_drewN | apply Kd.R_drew)); exact HO512.out) (Kd.R_base ho0) hb)
  have n1_ := Aside0.mk (Kd.R_elder' (by (with_reducible repeat (first | apply Kd.R_alloc | apply Kd.R_drewN | apply Kd.R_drew)); exact HO516.out) (Kd.R_base ho0) hb)
  have n2_ := Aside0.mk (Kd.R_lower (Kd.R_new' (Kd.R_new' ho0 (Kd.R_lt (by (with_reducible repeat (first | apply Kd.R_alloc | apply Kd.R_drewN | apply Kd.R_drew)); exact HO512.out))) (Kd.R_lt (by (with_reducible repeat (first | apply Kd.R_alloc | apply Kd.R_drewN | apply Kd.R_drew)); exact HO516.out))) (below_size (by repeat (first | (with_reducible first | exact HB.out | apply below_alloc | apply pw_below_drewN | apply below_drew1 | refine below_set ?_ GE506.out | refine below_set ?_ GE507.out | refine below_set ?_ GE508.out | refine below_set ?_ GE517.out | refine below_set ?_ GE518.out) | exact HB.out))))
  have n3_ := Aside0.mk (blk_below (g := gb506) (o := .cells #[.bool a0_0, .slice A0_1 l0_1.length c0_1] 37 (0, 0)) (by (with_reducible repeat (first | refine blk_drewN ?_ _ | refine blk_drew ?_ | refine blk_alloc ?_ _)); exact BK506.out) hb)
  have n4_ := Aside0.mk (blk_below (g := gb507) (o := .cells #[.bool a1_0, .slice A1_1 l1_1.length c1_1] 37 (0, 0)) (by (with_reducible repeat (first | refine blk_drewN ?_ _ | refine blk_drew ?_ | refine blk_alloc ?_ _)); exact BK507.out) hb)
  have n5_ := Aside0.mk (blk_below (g := gb508) (o := .cells #[.bool false, .slice none 0 0] 37 (0, 0)) (by (with_reducible repeat (first | refine blk_drewN ?_ _ | refine blk_drew ?_ | refine blk_alloc ?_ _)); exact BK508.out) hb)
  have n6_ := Aside0.mk (blk_below (g := gb517) (o := .cells #[.bool t509, .slice Ao23 t510.length co23] 37 (0, 0)) (by (with_reducible repeat (first | refine blk_drewN ?_ _ | refine blk_drew ?_ | refine blk_alloc ?_ _)); exact BK517.out) hb)
  have n7_ := Aside0.mk (blk_below (g := gb518) (o := .cells #[.bool t513, .slice Ao28 t514.length co28] 37 (0, 0)) (by (with_reducible repeat (first | refine blk_drewN ?_ _ | refine blk_drew ?_ | refine blk_alloc ?_ _)); exact BK518.out) hb)
  have n8_ := Aside0.mk (below_step (by repeat (first | (with_reducible first | exact HB.out | apply below_alloc | apply pw_below_drewN | apply below_drew1 | refine below_set ?_ GE506.out | refine below_set ?_ GE507.out | refine below_set ?_ GE508.out | refine below_set ?_ GE517.out | refine below_set ?_ GE518.out) | exact HB.out)) hb)
  clear HO512
  clear HO516
  clear BK506
  clear BK507
  clear BK508
  clear BK517
  clear BK518
  clear HB
  have HO512 := n0_
  have HO516 := n1_
  have HO522 := n2_
  have BK506 := n3_
  have BK507 := n4_
  have BK508 := n5_
  have BK517 := n6_
  have BK518 := n7_
  have HB := n8_
  clear n0_ n1_ n2_ n3_ n4_ n5_ n6_ n7_ n8_
  (try clear hb)
  (try clear hb2)
  (try clear hk)
  (try clear hi)
  (try clear ho0)
  obtain ⟨Ao32, co32, eo32⟩ := Kd.R_slice HO522.out
  (first | subst eo32 | (injection eo32 with f1_ f2_ f3_; have f4_ := f1_.symm; have f5_ := f3_.symm; clear f1_ f2_ f3_; subst f4_; subst f5_))
  refine hK.out _ _ ⟨(blk_cell BK518.out 0).trans rfl, (blk_cell BK518.out 1).trans rfl, (blk_cell BK507.out 0).trans rfl, (blk_cell BK507.out 1).trans rfl⟩ (fun hHeld => ?_)
  clear hK K
  refine norm_ (a' := ?_) ?_ ?_
  rotate_left
  · show Act.put _ (some 16) _ = _
    simp only [Act.put, List.setIfInBounds_toArray, List.set_cons_zero, List.set_cons_succ, i64_w, i32_w]
    rfl
  refine one_ (i := 4) (N := some 18) #[true, true, true, true, true, false] rfl rfl (by kernel_rfl) (by decide) (fun K hK => ?_)
  refine goes_ Tryz.func28 (by kernel_rfl) rfl #[.agg #[.bool t519, .slice Ao32 t520.length co32], .agg #[.bool a1_0, .slice A1_1 l1_1.length c1_1]] (by rfl) rfl rfl (by (try simp only [List.map_toArray, List.map_cons, List.map_nil]); first | done | rfl | (simp only [List.length_drop, List.length_take]; rfl)) ?_
  with_reducible refine (spec_Int_Cmp.calls k t519 _ _ t520 a1_0 _ _ l1_1 t523 _ ?side1 ?side2 ?side3 ?side4 A5.out).mono ?_
  (case side1 => repeat (first | exact (Kd.R_reads' HO522.out).2.2 | (with_reducible refine Kd.C_alloc ?_ _) | (with_reducible refine Kd.C_drewN ?_ _) | (with_reducible refine Kd.C_drew ?_)))
  (case side2 => exact (Kd.R_reads' HO522.out).2.1)
  (case side3 => repeat (first | exact (Kd.C_below HR1_1.out HB.out) | (with_reducible refine Kd.C_alloc ?_ _) | (with_reducible refine Kd.C_drewN ?_ _) | (with_reducible refine Kd.C_drew ?_)))
  (case side4 => exact HC1_1.out)
  rintro e w33 ⟨rfl, hb⟩
  refine ⟨_, rfl, ?_⟩
  have n0_ := Aside0.mk (Kd.R_below (by (with_reducible repeat (first | apply Kd.R_alloc | apply Kd.R_drewN | apply Kd.R_drew)); exact HO512.out) hb)
  have n1_ := Aside0.mk (Kd.R_below (by (with_reducible repeat (first | apply Kd.R_alloc | apply Kd.R_drewN | apply Kd.R_drew)); exact HO516.out) hb)
  have n2_ := Aside0.mk (Kd.R_below (by (with_reducible repeat (first | apply Kd.R_alloc | apply Kd.R_drewN | apply Kd.R_drew)); exact HO522.out) hb)
  have n3_ := Aside0.mk (blk_below (g := gb506) (o := .cells #[.bool a0_0, .slice A0_1 l0_1.length c0_1] 37 (0, 0)) (by (with_reducible repeat (first | refine blk_drewN ?_ _ | refine blk_drew ?_ | refine blk_alloc ?_ _)); exact BK506.out) hb)
  have n4_ := Aside0.mk (blk_below (g := gb507) (o := .cells #[.bool a1_0, .slice A1_1 l1_1.length c1_1] 37 (0, 0)) (by (with_reducible repeat (first | refine blk_drewN ?_ _ | refine blk_drew ?_ | refine blk_alloc ?_ _)); exact BK507.out) hb)
  have n5_ := Aside0.mk (blk_below (g := gb508) (o := .cells #[.bool false, .slice none 0 0] 37 (0, 0)) (by (with_reducible repeat (first | refine blk_drewN ?_ _ | refine blk_drew ?_ | refine blk_alloc ?_ _)); exact BK508.out) hb)
  have n6_ := Aside0.mk (blk_below (g := gb517) (o := .cells #[.bool t509, .slice Ao23 t510.length co23] 37 (0, 0)) (by (with_reducible repeat (first | refine blk_drewN ?_ _ | refine blk_drew ?_ | refine blk_alloc ?_ _)); exact BK517.out) hb)
  have n7_ := Aside0.mk (blk_below (g := gb518) (o := .cells #[.bool t513, .slice Ao28 t514.length co28] 37 (0, 0)) (by (with_reducible repeat (first | refine blk_drewN ?_ _ | refine blk_drew ?_ | refine blk_alloc ?_ _)); exact BK518.out) hb)
  have n8_ := Aside0.mk (below_step (by repeat (first | (with_reducible first | exact HB.out | apply below_alloc | apply pw_below_drewN | apply below_drew1 | refine below_set ?_ GE506.out | refine below_set ?_ GE507.out | refine below_set ?_ GE508.out | refine below_set ?_ GE517.out | refine below_set ?_ GE518.out) | exact HB.out)) hb)
  clear HO512
  clear HO516
  clear HO522
  clear BK506
  clear BK507
  clear BK508
  clear BK517
  clear BK518
  clear HB
  have HO512 := n0_
  have HO516 := n1_
  have HO522 := n2_
  have BK506 := n3_
  have BK507 := n4_
  have BK508 := n5_
  have BK517 := n6_
  have BK518 := n7_
  have HB := n8_
  clear n0_ n1_ n2_ n3_ n4_ n5_ n6_ n7_ n8_
  (try clear hb)
  (try clear hb2)
  (try clear hk)
  (try clear hi)
  refine hK.out _ _ ⟨(blk_cell BK518.out 0).trans rfl, (blk_cell BK518.out 1).trans rfl, (blk_cell BK507.out 0).trans rfl, (blk_cell BK507.out 1).trans rfl⟩ (fun hHeld => ?_)
  clear hK K
  refine norm_ (a' := ?_) ?_ ?_
  rotate_left
  · show Act.put _ (some 18) _ = _
    simp only [Act.put, List.setIfInBounds_toArray, List.set_cons_zero, List.set_cons_succ, i64_w, i32_w]
    rfl
  refine pure_ (i := 5) (N := some 7) (v := ?_) (a' := ?_) #[true, true, true, true, true, true] rfl rfl (by kernel_rfl) (fun _ _ _ h => h) (Or.inl ⟨by rfl, ?_⟩) ?_ ?_
  rotate_left
  · intro w'
    go_simp
    with_reducible rfl
  rotate_left
  · simp only [Act.put, List.setIfInBounds_toArray, List.set_cons_zero, List.set_cons_succ, i64_w, i32_w]
    rfl
  refine done_ (by kernel_rfl) ?_
  go_upto_region 3 with (fail)
  go_cut [30] (fun v30 wc => ∃ (kq : Nat) (x30_5 : Bool), v30 = .bool x30_5 ∧ Aside0 (spec_near.j0 kq x30_5 t509 t510 = some (r1, r2)) ∧ Aside0 (kq ≤ k) ∧ Aside0 (Kd.R (Kd.int .u8) 5 wc w.heap.size (fun k_ => some k_ ≠ ((.slice Ao28 t514.length co28) : Value).ownBlock) (.slice Ao23 t510.length co23) t510) ∧ Aside0 (Kd.R (Kd.int .u8) 5 wc w.heap.size (fun k_ => some k_ ≠ ((.slice Ao23 t510.length co23) : Value).ownBlock) (.slice Ao28 t514.length co28) t514) ∧ Aside0 (wc.heap[gb506]? = some (.cells #[.bool a0_0, (.slice A0_1 l0_1.length c0_1)] 37 (0, 0))) ∧ Aside0 (wc.heap[gb507]? = some (.cells #[.bool a1_0, (.slice A1_1 l1_1.length c1_1)] 37 (0, 0))) ∧ Aside0 (wc.heap[gb508]? = some (.cells #[.bool false, (.slice none 0 0)] 37 (0, 0))) ∧ Aside0 (wc.heap[gb517]? = some (.cells #[.bool t509, (.slice Ao23 t510.length co23)] 37 (0, 0))) ∧ Aside0 (wc.heap[gb518]? = some (.cells #[.bool t513, (.slice Ao28 t514.length co28)] 37 (0, 0))) ∧ Aside0 (Below w.heap.size w wc))
  case first =>
    have H := HC6.out
    clear HC6
    by_cases c34 : t523 > 0
    · rw [if_pos c34] at H
      have c34b0 : decide (0 < t523) = true := decide_eq_true c34
      clear c34
      (first | rw [c34b0] | (simp only [i64_w, i32_w]; rw [c34b0]) | skip)
      have H' := Aside0.mk H
      clear H
      go_wp2
      go_meet
      case rel => exact ⟨_, (true), (by first | rfl | (simp; done) | (simp [*]; done)), H', ⟨by first | omega | exact Nat.le_refl _⟩, ⟨by (with_reducible repeat (first | apply Kd.R_alloc | apply Kd.R_drewN | apply Kd.R_drew)); exact Kd.R_mono HO512.out (fun _ hk => hk.1)⟩, ⟨by (with_reducible repeat (first | apply Kd.R_alloc | apply Kd.R_drewN | apply Kd.R_drew)); exact Kd.R_mono HO516.out (fun _ hk => hk.1)⟩, ⟨by (with_reducible repeat (first | refine blk_drewN ?_ _ | refine blk_drew ?_ | refine blk_alloc ?_ _)); exact BK506.out⟩, ⟨by (with_reducible repeat (first | refine blk_drewN ?_ _ | refine blk_drew ?_ | refine blk_alloc ?_ _)); exact BK507.out⟩, ⟨by (with_reducible repeat (first | refine blk_drewN ?_ _ | refine blk_drew ?_ | refine blk_alloc ?_ _)); exact BK508.out⟩, ⟨by (with_reducible repeat (first | refine blk_drewN ?_ _ | refine blk_drew ?_ | refine blk_alloc ?_ _)); exact BK517.out⟩, ⟨by (with_reducible repeat (first | refine blk_drewN ?_ _ | refine blk_drew ?_ | refine blk_alloc ?_ _)); exact BK518.out⟩, ⟨by repeat (first | (with_reducible first | exact HB.out | apply below_alloc | apply pw_below_drewN | apply below_drew1 | refine below_set ?_ GE506.out | refine below_set ?_ GE507.out | refine below_set ?_ GE508.out | refine below_set ?_ GE517.out | refine below_set ?_ GE518.out) | exact HB.out)⟩⟩
    · rw [if_neg c34] at H
      have c34b0 : decide (0 < t523) = false := decide_eq_false c34
      clear c34
      (first | rw [c34b0] | (simp only [i64_w, i32_w]; rw [c34b0]) | skip)
      by_cases c35 : t523 = 0
      · rw [if_pos c35] at H
        have c35b0 : (t523 == 0) = true := beq_iff_eq.mpr c35
        have c35b1 : (t523 != 0) = false := bne_eq_false_iff_eq.mpr c35
        clear c35
        replace H := Option.bind_eq_some_iff.mp H
        obtain ⟨t524, A360, H⟩ := H
        replace H : (spec_near.j0 k ((Go.bits .and .u64 t524 1) == 1) t509 t510) = some (r1, r2) := H
        have A36 := Aside0.mk A360
        clear A360
        have H' := Aside0.mk H
        clear H
        have hnb37 := NB517_506.out
        have hnc37 := NB506_517.out
        have hnb38 := NB517_507.out
        have hnc38 := NB507_517.out
        have hnb39 := NB517_508.out
        have hnc39 := NB508_517.out
        have hnb40 := NB517_518.out
        have hnc40 := NB518_517.out
        have hcz41_0 : w33.cell? ⟨gb517, 0, none⟩ = some (.bool t509) := (blk_cell BK517.out 0).trans rfl
        have hcz41_1 : w33.cell? ⟨gb517, 1, none⟩ = some (.slice Ao23 t510.length co23) := (blk_cell BK517.out 1).trans rfl
        have hfz41_0 := blk_frozen BK517.out 0
        have hfz41_1 := blk_frozen BK517.out 1
        go_wp2_with (first | (go_at_call 44; (with_reducible refine (spec_Int_low.calls k t509 _ _ t510 t524 _ ?side1 ?side2 A36.out).mono ?_); (case side1 => repeat (first | exact (Kd.R_reads' HO512.out).2.2 | (with_reducible refine Kd.C_alloc ?_ _) | (with_reducible refine Kd.C_drewN ?_ _) | (with_reducible refine Kd.C_drew ?_))); (case side2 => exact (Kd.R_reads' HO512.out).2.1); rintro e w42 ⟨rfl, hb⟩; have n0_ := Aside0.mk (Kd.R_below (by (with_reducible repeat (first | apply Kd.R_alloc | apply Kd.R_drewN | apply Kd.R_drew)); exact HO512.out) hb); have n1_ := Aside0.mk (Kd.R_below (by (with_reducible repeat (first | apply Kd.R_alloc | apply Kd.R_drewN | apply Kd.R_drew)); exact HO516.out) hb); have n2_ := Aside0.mk (Kd.R_below (by (with_reducible repeat (first | apply Kd.R_alloc | apply Kd.R_drewN | apply Kd.R_drew)); exact HO522.out) hb); have n3_ := Aside0.mk (blk_below (g := gb506) (o := .cells #[.bool a0_0, .slice A0_1 l0_1.length c0_1] 37 (0, 0)) (by (with_reducible repeat (first | refine blk_drewN ?_ _ | refine blk_drew ?_ | refine blk_alloc ?_ _)); exact BK506.out) hb); have n4_ := Aside0.mk (blk_below (g := gb507) (o := .cells #[.bool a1_0, .slice A1_1 l1_1.length c1_1] 37 (0, 0)) (by (with_reducible repeat (first | refine blk_drewN ?_ _ | refine blk_drew ?_ | refine blk_alloc ?_ _)); exact BK507.out) hb); have n5_ := Aside0.mk (blk_below (g := gb508) (o := .cells #[.bool false, .slice none 0 0] 37 (0, 0)) (by (with_reducible repeat (first | refine blk_drewN ?_ _ | refine blk_drew ?_ | refine blk_alloc ?_ _)); exact BK508.out) hb); have n6_ := Aside0.mk (blk_below (g := gb517) (o := .cells #[.bool t509, .slice Ao23 t510.length co23] 37 (0, 0)) (by (with_reducible repeat (first | refine blk_drewN ?_ _ | refine blk_drew ?_ | refine blk_alloc ?_ _)); exact BK517.out) hb); have n7_ := Aside0.mk (blk_below (g := gb518) (o := .cells #[.bool t513, .slice Ao28 t514.length co28] 37 (0, 0)) (by (with_reducible repeat (first | refine blk_drewN ?_ _ | refine blk_drew ?_ | refine blk_alloc ?_ _)); exact BK518.out) hb); have n8_ := Aside0.mk (below_step (by repeat (first | (with_reducible first | exact HB.out | apply below_alloc | apply pw_below_drewN | apply below_drew1 | refine below_set ?_ GE506.out | refine below_set ?_ GE507.out | refine below_set ?_ GE508.out | refine below_set ?_ GE517.out | refine below_set ?_ GE518.out) | exact HB.out)) hb); clear HO512; clear HO516; clear HO522; clear BK506; clear BK507; clear BK508; clear BK517; clear BK518; clear HB; have HO512 := n0_; have HO516 := n1_; have HO522 := n2_; have BK506 := n3_; have BK507 := n4_; have BK508 := n5_; have BK517 := n6_; have BK518 := n7_; have HB := n8_; clear n0_ n1_ n2_ n3_ n4_ n5_ n6_ n7_ n8_; (try clear hb); (try clear hb2); (try clear hk); (try clear hi)))
        go_meet
        case rel => exact ⟨_, (((Go.bits .and .u64 t524 1) == 1)), (by first | rfl | (simp; done) | (simp [*]; done)), H', ⟨by first | omega | exact Nat.le_refl _⟩, ⟨by (with_reducible repeat (first | apply Kd.R_alloc | apply Kd.R_drewN | apply Kd.R_drew)); exact Kd.R_mono HO512.out (fun _ hk => hk.1)⟩, ⟨by (with_reducible repeat (first | apply Kd.R_alloc | apply Kd.R_drewN | apply Kd.R_drew)); exact Kd.R_mono HO516.out (fun _ hk => hk.1)⟩, ⟨by (with_reducible repeat (first | refine blk_drewN ?_ _ | refine blk_drew ?_ | refine blk_alloc ?_ _)); exact BK506.out⟩, ⟨by (with_reducible repeat (first | refine blk_drewN ?_ _ | refine blk_drew ?_ | refine blk_alloc ?_ _)); exact BK507.out⟩, ⟨by (with_reducible repeat (first | refine blk_drewN ?_ _ | refine blk_drew ?_ | refine blk_alloc ?_ _)); exact BK508.out⟩, ⟨by (with_reducible repeat (first | refine blk_drewN ?_ _ | refine blk_drew ?_ | refine blk_alloc ?_ _)); exact BK517.out⟩, ⟨by (with_reducible repeat (first | refine blk_drewN ?_ _ | refine blk_drew ?_ | refine blk_alloc ?_ _)); exact BK518.out⟩, ⟨by repeat (first | (with_reducible first | exact HB.out | apply below_alloc | apply pw_below_drewN | apply below_drew1 | refine below_set ?_ GE506.out | refine below_set ?_ GE507.out | refine below_set ?_ GE508.out | refine below_set ?_ GE517.out | refine below_set ?_ GE518.out) | exact HB.out)⟩⟩
      · rw [if_neg c35] at H
        have c35b0 : (t523 == 0) = false := beq_eq_false_iff_ne.mpr c35
        have c35b1 : (t523 != 0) = true := bne_iff_ne.mpr c35
        have H' := Aside0.mk H
        clear H
        go_wp2
        go_meet
        case rel => exact ⟨_, (false), (by first | rfl | (simp; done) | (simp [*]; done)), H', ⟨by first | omega | exact Nat.le_refl _⟩, ⟨by (with_reducible repeat (first | apply Kd.R_alloc | apply Kd.R_drewN | apply Kd.R_drew)); exact Kd.R_mono HO512.out (fun _ hk => hk.1)⟩, ⟨by (with_reducible repeat (first | apply Kd.R_alloc | apply Kd.R_drewN | apply Kd.R_drew)); exact Kd.R_mono HO516.out (fun _ hk => hk.1)⟩, ⟨by (with_reducible repeat (first | refine blk_drewN ?_ _ | refine blk_drew ?_ | refine blk_alloc ?_ _)); exact BK506.out⟩, ⟨by (with_reducible repeat (first | refine blk_drewN ?_ _ | refine blk_drew ?_ | refine blk_alloc ?_ _)); exact BK507.out⟩, ⟨by (with_reducible repeat (first | refine blk_drewN ?_ _ | refine blk_drew ?_ | refine blk_alloc ?_ _)); exact BK508.out⟩, ⟨by (with_reducible repeat (first | refine blk_drewN ?_ _ | refine blk_drew ?_ | refine blk_alloc ?_ _)); exact BK517.out⟩, ⟨by (with_reducible repeat (first | refine blk_drewN ?_ _ | refine blk_drew ?_ | refine blk_alloc ?_ _)); exact BK518.out⟩, ⟨by repeat (first | (with_reducible first | exact HB.out | apply below_alloc | apply pw_below_drewN | apply below_drew1 | refine below_set ?_ GE506.out | refine below_set ?_ GE507.out | refine below_set ?_ GE508.out | refine below_set ?_ GE517.out | refine below_set ?_ GE518.out) | exact HB.out)⟩⟩
  case rest =>
    clear HC6
    try clear c1
    try clear c2
    try clear p2
    try clear c3
    try clear c4
    try clear c10
    try clear c11
    try clear c13
    try clear c18
    try clear c19
    try clear c20
    try clear c21
    try clear c24
    try clear c25
    try clear c26
    try clear c28
    try clear c29
    try clear c34
    try clear c34b0
    try clear c35
    try clear c35b0
    try clear c35b1
    try clear c37
    try clear c38
    try clear c39
    try clear c40
    try clear c42
    try clear hcz12_0
    try clear hcz12_1
    try clear hcz14_0
    try clear hcz14_1
    try clear hcz22_0
    try clear hcz22_1
    try clear hcz27_0
    try clear hcz27_1
    try clear hcz41_0
    try clear hcz41_1
    try clear hfz12_0
    try clear hfz12_1
    try clear hfz14_0
    try clear hfz14_1
    try clear hfz22_0
    try clear hfz22_1
    try clear hfz27_0
    try clear hfz27_1
    try clear hfz41_0
    try clear hfz41_1
    obtain ⟨kq, x30_5, rfl, HA, HJ5, HO_518001, HO_519001, BK506, BK507, BK508, BK517, BK518, HB⟩ := hcut
    cases kq with
    | zero => exact absurd HA.out (by simp [spec_near.j0])
    | succ kj5 =>
      have H := HA.out
      clear HA
      simp only [spec_near.j0] at H
      by_cases c43 : x30_5 = true
      · subst c43
        have H1 : ((spec_Small.f kj5 1).bind fun bt525 => ((spec_Int_Add.f kj5 t509 t510 bt525.1 bt525.2).bind fun bt529 => (some (bt529.1, bt529.2)))) = some (r1, r2) := by rw [if_pos rfl] at H; exact H
        clear H
        have H := H1
        clear H1
        replace H := Option.bind_eq_some_iff.mp H
        obtain ⟨⟨t525, t526⟩, A440, H⟩ := H
        replace H : ((spec_Int_Add.f kj5 t509 t510 t525 t526).bind fun bt529 => (some (bt529.1, bt529.2))) = some (r1, r2) := H
        have A44 := Aside0.mk A440
        clear A440
        replace H := Option.bind_eq_some_iff.mp H
        obtain ⟨⟨t529, t530⟩, A450, H⟩ := H
        replace H : (some (t529, t530)) = some (r1, r2) := H
        have A45 := Aside0.mk A450
        clear A450
        simp only [Option.some.injEq, Prod.mk.injEq] at H
        obtain ⟨rfl, rfl⟩ := H
        try go_wp2
        have n0_ := Aside0.mk (Kd.R_drew HO_518001.out)
        have n1_ := Aside0.mk (Kd.R_drew HO_519001.out)
        have n2_ := Aside0.mk (blk_drew BK506.out)
        have n3_ := Aside0.mk (blk_drew BK507.out)
        have n4_ := Aside0.mk (blk_drew BK508.out)
        have n5_ := Aside0.mk (blk_drew BK517.out)
        have n6_ := Aside0.mk (blk_drew BK518.out)
        have n7_ := Aside0.mk (below_drew1 HB.out)
        clear HO_518001
        clear HO_519001
        clear BK506
        clear BK507
        clear BK508
        clear BK517
        clear BK518
        clear HB
        have HO_518001 := n0_
        have HO_519001 := n1_
        have BK506 := n2_
        have BK507 := n3_
        have BK508 := n4_
        have BK517 := n5_
        have BK518 := n6_
        have HB := n7_
        clear n0_ n1_ n2_ n3_ n4_ n5_ n6_ n7_
        refine start_ (n := 4) (S := fun w' => w'.cell? ⟨gb517, 0, none⟩ = some (.bool t509) ∧ w'.cell? ⟨gb517, 1, none⟩ = some (.slice Ao23 t510.length co23)) (ds := [3]) #[false, false, false, false] (by kernel_rfl) rfl rfl ⟨(blk_cell BK517.out 0).trans rfl, (blk_cell BK517.out 1).trans rfl⟩ (fun hHeld => ?_)
        generalize wc.drew = w46 at HO_518001 HO_519001 BK506 BK507 BK508 BK517 BK518 HB hHeld ⊢
        refine take_ (i := 0) (N := some 31) (v := ?_) (a' := ?_) #[true, false, false, false] rfl rfl (by kernel_rfl) (fun _ _ _ h => h) (Or.inl ⟨by rfl, ?_⟩) hHeld ?_ ?_
        rotate_left
        · rintro w' ⟨s0, s1⟩
          go_simp
          with_reducible rfl
        rotate_left
        · simp only [Act.put, List.setIfInBounds_toArray, List.set_cons_zero, List.set_cons_succ, i64_w, i32_w]
          rfl
        refine one_ (i := 1) (N := some 32) #[true, true, false, false] rfl rfl (by kernel_rfl) (by decide) (fun K hK => ?_)
        refine goes_ Tryz.func17 (by kernel_rfl) rfl #[.int .i64 1] (by rfl) rfl rfl (by (try simp only [List.map_toArray, List.map_cons, List.map_nil]); first | done | rfl | (simp only [List.length_drop, List.length_take]; rfl)) ?_
        with_reducible refine (spec_Small.calls kj5 1 t525 t526 _ A44.out).mono ?_
        rintro e w47 ⟨v527, rfl, ho0, hb⟩
        refine ⟨_, rfl, ?_⟩
        have n0_ := Aside0.mk (Kd.R_elder' (by (with_reducible repeat (first | apply Kd.R_alloc | apply Kd.R_drewN | apply Kd.R_drew)); exact HO_518001.out) (Kd.R_base ho0) hb)
        have n1_ := Aside0.mk (Kd.R_elder' (by (with_reducible repeat (first | apply Kd.R_alloc | apply Kd.R_drewN | apply Kd.R_drew)); exact HO_519001.out) (Kd.R_base ho0) hb)
        have n2_ := Aside0.mk (Kd.R_lower (Kd.R_new' (Kd.R_new' ho0 (Kd.R_lt (by (with_reducible repeat (first | apply Kd.R_alloc | apply Kd.R_drewN | apply Kd.R_drew)); exact HO_518001.out))) (Kd.R_lt (by (with_reducible repeat (first | apply Kd.R_alloc | apply Kd.R_drewN | apply Kd.R_drew)); exact HO_519001.out))) (below_size (by repeat (first | (with_reducible first | exact HB.out | apply below_alloc | apply pw_below_drewN | apply below_drew1 | refine below_set ?_ GE506.out | refine below_set ?_ GE507.out | refine below_set ?_ GE508.out | refine below_set ?_ GE517.out | refine below_set ?_ GE518.out) | exact HB.out))))
        have n3_ := Aside0.mk (blk_below (g := gb506) (o := .cells #[.bool a0_0, .slice A0_1 l0_1.length c0_1] 37 (0, 0)) (by (with_reducible repeat (first | refine blk_drewN ?_ _ | refine blk_drew ?_ | refine blk_alloc ?_ _)); exact BK506.out) hb)
        have n4_ := Aside0.mk (blk_below (g := gb507) (o := .cells #[.bool a1_0, .slice A1_1 l1_1.length c1_1] 37 (0, 0)) (by (with_reducible repeat (first | refine blk_drewN ?_ _ | refine blk_drew ?_ | refine blk_alloc ?_ _)); exact BK507.out) hb)
        have n5_ := Aside0.mk (blk_below (g := gb508) (o := .cells #[.bool false, .slice none 0 0] 37 (0, 0)) (by (with_reducible repeat (first | refine blk_drewN ?_ _ | refine blk_drew ?_ | refine blk_alloc ?_ _)); exact BK508.out) hb)
        have n6_ := Aside0.mk (blk_below (g := gb517) (o := .cells #[.bool t509, .slice Ao23 t510.length co23] 37 (0, 0)) (by (with_reducible repeat (first | refine blk_drewN ?_ _ | refine blk_drew ?_ | refine blk_alloc ?_ _)); exact BK517.out) hb)
        have n7_ := Aside0.mk (blk_below (g := gb518) (o := .cells #[.bool t513, .slice Ao28 t514.length co28] 37 (0, 0)) (by (with_reducible repeat (first | refine blk_drewN ?_ _ | refine blk_drew ?_ | refine blk_alloc ?_ _)); exact BK518.out) hb)
        have n8_ := Aside0.mk (below_step (by repeat (first | (with_reducible first | exact HB.out | apply below_alloc | apply pw_below_drewN | apply below_drew1 | refine below_set ?_ GE506.out | refine below_set ?_ GE507.out | refine below_set ?_ GE508.out | refine below_set ?_ GE517.out | refine below_set ?_ GE518.out) | exact HB.out)) hb)
        clear HO_518001
        clear HO_519001
        clear BK506
        clear BK507
        clear BK508
        clear BK517
        clear BK518
        clear HB
        have HO_518001 := n0_
        have HO_519001 := n1_
        have HO528 := n2_
        have BK506 := n3_
        have BK507 := n4_
        have BK508 := n5_
        have BK517 := n6_
        have BK518 := n7_
        have HB := n8_
        clear n0_ n1_ n2_ n3_ n4_ n5_ n6_ n7_ n8_
        (try clear hb)
        (try clear hb2)
        (try clear hk)
        (try clear hi)
        (try clear ho0)
        obtain ⟨Ao48, co48, eo48⟩ := Kd.R_slice HO528.out
        (first | subst eo48 | (injection eo48 with f1_ f2_ f3_; have f4_ := f1_.symm; have f5_ := f3_.symm; clear f1_ f2_ f3_; subst f4_; subst f5_))
        refine hK.out _ _ ⟨(blk_cell BK517.out 0).trans rfl, (blk_cell BK517.out 1).trans rfl⟩ (fun hHeld => ?_)
        clear hK K
        refine norm_ (a' := ?_) ?_ ?_
        rotate_left
        · show Act.put _ (some 32) _ = _
          simp only [Act.put, List.setIfInBounds_toArray, List.set_cons_zero, List.set_cons_succ, i64_w, i32_w]
          rfl
        refine one_ (i := 2) (N := some 33) #[true, true, true, false] rfl rfl (by kernel_rfl) (by decide) (fun K hK => ?_)
        refine goes_ Tryz.func43 (by kernel_rfl) rfl #[.agg #[.bool t509, .slice Ao23 t510.length co23], .agg #[.bool t525, .slice Ao48 t526.length co48]] (by rfl) rfl rfl (by (try simp only [List.map_toArray, List.map_cons, List.map_nil]); first | done | rfl | (simp only [List.length_drop, List.length_take]; rfl)) ?_
        with_reducible refine (spec_Int_Add.calls kj5 t509 _ _ t510 t525 _ _ t526 t529 t530 _ ?side1 ?side2 ?side3 ?side4 A45.out).mono ?_
        (case side1 => repeat (first | exact (Kd.R_reads' HO_518001.out).2.2 | (with_reducible refine Kd.C_alloc ?_ _) | (with_reducible refine Kd.C_drewN ?_ _) | (with_reducible refine Kd.C_drew ?_)))
        (case side2 => exact (Kd.R_reads' HO_518001.out).2.1)
        (case side3 => repeat (first | exact (Kd.R_reads' HO528.out).2.2 | (with_reducible refine Kd.C_alloc ?_ _) | (with_reducible refine Kd.C_drewN ?_ _) | (with_reducible refine Kd.C_drew ?_)))
        (case side4 => exact (Kd.R_reads' HO528.out).2.1)
        rintro e w49 ⟨v531, rfl, ho0, hb⟩
        refine ⟨_, rfl, ?_⟩
        have n0_ := Aside0.mk (Kd.R_elder' (by (with_reducible repeat (first | apply Kd.R_alloc | apply Kd.R_drewN | apply Kd.R_drew)); exact HO_518001.out) (Kd.R_base ho0) hb)
        have n1_ := Aside0.mk (Kd.R_elder' (by (with_reducible repeat (first | apply Kd.R_alloc | apply Kd.R_drewN | apply Kd.R_drew)); exact HO_519001.out) (Kd.R_base ho0) hb)
        have n2_ := Aside0.mk (Kd.R_elder' (by (with_reducible repeat (first | apply Kd.R_alloc | apply Kd.R_drewN | apply Kd.R_drew)); exact HO528.out) (Kd.R_base ho0) hb)
        have n3_ := Aside0.mk (Kd.R_lower (Kd.R_new' (Kd.R_new' (Kd.R_new' ho0 (Kd.R_lt (by (with_reducible repeat (first | apply Kd.R_alloc | apply Kd.R_drewN | apply Kd.R_drew)); exact HO_518001.out))) (Kd.R_lt (by (with_reducible repeat (first | apply Kd.R_alloc | apply Kd.R_drewN | apply Kd.R_drew)); exact HO_519001.out))) (Kd.R_lt (by (with_reducible repeat (first | apply Kd.R_alloc | apply Kd.R_drewN | apply Kd.R_drew)); exact HO528.out))) (below_size (by repeat (first | (with_reducible first | exact HB.out | apply below_alloc | apply pw_below_drewN | apply below_drew1 | refine below_set ?_ GE506.out | refine below_set ?_ GE507.out | refine below_set ?_ GE508.out | refine below_set ?_ GE517.out | refine below_set ?_ GE518.out) | exact HB.out))))
        have n4_ := Aside0.mk (blk_below (g := gb506) (o := .cells #[.bool a0_0, .slice A0_1 l0_1.length c0_1] 37 (0, 0)) (by (with_reducible repeat (first | refine blk_drewN ?_ _ | refine blk_drew ?_ | refine blk_alloc ?_ _)); exact BK506.out) hb)
        have n5_ := Aside0.mk (blk_below (g := gb507) (o := .cells #[.bool a1_0, .slice A1_1 l1_1.length c1_1] 37 (0, 0)) (by (with_reducible repeat (first | refine blk_drewN ?_ _ | refine blk_drew ?_ | refine blk_alloc ?_ _)); exact BK507.out) hb)
        have n6_ := Aside0.mk (blk_below (g := gb508) (o := .cells #[.bool false, .slice none 0 0] 37 (0, 0)) (by (with_reducible repeat (first | refine blk_drewN ?_ _ | refine blk_drew ?_ | refine blk_alloc ?_ _)); exact BK508.out) hb)
        have n7_ := Aside0.mk (blk_below (g := gb517) (o := .cells #[.bool t509, .slice Ao23 t510.length co23] 37 (0, 0)) (by (with_reducible repeat (first | refine blk_drewN ?_ _ | refine blk_drew ?_ | refine blk_alloc ?_ _)); exact BK517.out) hb)
        have n8_ := Aside0.mk (blk_below (g := gb518) (o := .cells #[.bool t513, .slice Ao28 t514.length co28] 37 (0, 0)) (by (with_reducible repeat (first | refine blk_drewN ?_ _ | refine blk_drew ?_ | refine blk_alloc ?_ _)); exact BK518.out) hb)
        have n9_ := Aside0.mk (below_step (by repeat (first | (with_reducible first | exact HB.out | apply below_alloc | apply pw_below_drewN | apply below_drew1 | refine below_set ?_ GE506.out | refine below_set ?_ GE507.out | refine below_set ?_ GE508.out | refine below_set ?_ GE517.out | refine below_set ?_ GE518.out) | exact HB.out)) hb)
        clear HO_518001
        clear HO_519001
        clear HO528
        clear BK506
        clear BK507
        clear BK508
        clear BK517
        clear BK518
        clear HB
        have HO_518001 := n0_
        have HO_519001 := n1_
        have HO528 := n2_
        have HO532 := n3_
        have BK506 := n4_
        have BK507 := n5_
        have BK508 := n6_
        have BK517 := n7_
        have BK518 := n8_
        have HB := n9_
        clear n0_ n1_ n2_ n3_ n4_ n5_ n6_ n7_ n8_ n9_
        (try clear hb)
        (try clear hb2)
        (try clear hk)
        (try clear hi)
        (try clear ho0)
        obtain ⟨Ao51, co51, eo51⟩ := Kd.R_slice HO532.out
        (first | subst eo51 | (injection eo51 with f1_ f2_ f3_; have f4_ := f1_.symm; have f5_ := f3_.symm; clear f1_ f2_ f3_; subst f4_; subst f5_))
        refine hK.out _ _ ⟨(blk_cell BK517.out 0).trans rfl, (blk_cell BK517.out 1).trans rfl⟩ (fun hHeld => ?_)
        clear hK K
        refine norm_ (a' := ?_) ?_ ?_
        rotate_left
        · show Act.put _ (some 33) _ = _
          simp only [Act.put, List.setIfInBounds_toArray, List.set_cons_zero, List.set_cons_succ, i64_w, i32_w]
          rfl
        refine last_ (i := 3) (N := none) #[true, true, true, true] rfl rfl (by kernel_rfl) (by decide) (fun K hK => ?_)
        have hs50 : w49.cell? ⟨gb517, 0, none⟩ = some (.bool t509) := (blk_cell BK517.out 0).trans rfl
        have hfs50 := blk_frozen BK517.out 0
        have hns50_0 := NB506_517.out
        have hns50_1 := NB507_517.out
        have hns50_2 := NB508_517.out
        have hns50_4 := NB518_517.out
        have hms50_0 := NB517_506.out
        have hms50_1 := NB517_507.out
        have hms50_2 := NB517_508.out
        have hms50_4 := NB517_518.out
        have hs52 : w49.cell? ⟨gb517, 1, none⟩ = some (.slice Ao23 t510.length co23) := (blk_cell BK517.out 1).trans rfl
        have hfs52 := blk_frozen BK517.out 1
        have hns52_0 := NB506_517.out
        have hns52_1 := NB507_517.out
        have hns52_2 := NB508_517.out
        have hns52_4 := NB518_517.out
        have hms52_0 := NB517_506.out
        have hms52_1 := NB517_507.out
        have hms52_2 := NB517_508.out
        have hms52_4 := NB517_518.out
        refine skip_ (w1 := ?_) (by rfl) rfl ?_ ?_
        rotate_left
        · go_simp
          rfl
        refine hK.out _ _ ?_
        clear hK K
        refine done_ (by kernel_rfl) ?_
        have hnb53 := NB517_506.out
        have hnc53 := NB506_517.out
        have hnb54 := NB517_507.out
        have hnc54 := NB507_517.out
        have hnb55 := NB517_508.out
        have hnc55 := NB508_517.out
        have hnb56 := NB517_518.out
        have hnc56 := NB518_517.out
        have hcz57_0 : w49.cell? ⟨gb517, 0, none⟩ = some (.bool t509) := (blk_cell BK517.out 0).trans rfl
        have hcz57_1 : w49.cell? ⟨gb517, 1, none⟩ = some (.slice Ao23 t510.length co23) := (blk_cell BK517.out 1).trans rfl
        have hfz57_0 := blk_frozen BK517.out 0
        have hfz57_1 := blk_frozen BK517.out 1
        have hnb58 := NB508_506.out
        have hnc58 := NB506_508.out
        have hnb59 := NB508_507.out
        have hnc59 := NB507_508.out
        have hnb60 := NB508_518.out
        have hnc60 := NB518_508.out
        have hcz61_0 : w49.cell? ⟨gb508, 0, none⟩ = some (.bool false) := (blk_cell BK508.out 0).trans rfl
        have hcz61_1 : w49.cell? ⟨gb508, 1, none⟩ = some (.slice none 0 0) := (blk_cell BK508.out 1).trans rfl
        have hfz61_0 := blk_frozen BK508.out 0
        have hfz61_1 := blk_frozen BK508.out 1
        try go_wp2
        refine bodyPost_ret (results_cell_row rfl _ _ gb508 37 #[.bool t529, .slice Ao51 t530.length co51] (0, 0) _ rfl (by (with_reducible repeat (first | refine blk_drewN ?_ _ | refine blk_drew ?_ | refine blk_alloc ?_ _)); refine blk_put (cs := #[.bool t529, .slice none 0 0]) ?_ 1 _ rfl; (with_reducible repeat (first | refine blk_drewN ?_ _ | refine blk_drew ?_ | refine blk_alloc ?_ _)); refine blk_put (cs := #[.bool false, .slice none 0 0]) ?_ 0 _ rfl; (with_reducible repeat (first | refine blk_drewN ?_ _ | refine blk_drew ?_ | refine blk_alloc ?_ _)); refine blk_far ?_ NB508_517.out _; (with_reducible repeat (first | refine blk_drewN ?_ _ | refine blk_drew ?_ | refine blk_alloc ?_ _)); refine blk_far ?_ NB508_517.out _; (with_reducible repeat (first | refine blk_drewN ?_ _ | refine blk_drew ?_ | refine blk_alloc ?_ _)); exact BK508.out) Tryz.underlying37 rfl (by kernel_rfl)) rfl ?_
        exact ⟨_, by first | rfl | (simp [errW_none, errW_some] <;> rfl) | (simp [*, errW_none, errW_some] <;> rfl), by (with_reducible repeat (first | apply Kd.R_alloc | apply Kd.R_drewN | apply Kd.R_drew)); exact Kd.R_mono (Kd.R_far (p := ⟨gb508, 1, none⟩) (Kd.R_far (p := ⟨gb508, 0, none⟩) (Kd.R_far (p := ⟨gb517, 1, none⟩) (Kd.R_far (p := ⟨gb517, 0, none⟩) (Kd.R_types (Kd.R_types HO532.out BK517.out (by decide)) BK508.out (by decide)) (fun _ hk => hk.1.2) (.bool t529)) (fun _ hk => hk.1.2) (.slice Ao51 t530.length co51)) (fun _ hk => hk.2) (.bool t529)) (fun _ hk => hk.2) (.slice Ao51 t530.length co51)) (fun _ hk => trivial), by repeat (first | (with_reducible first | exact HB.out | apply below_alloc | apply pw_below_drewN | apply below_drew1 | refine below_set ?_ GE506.out | refine below_set ?_ GE507.out | refine below_set ?_ GE508.out | refine below_set ?_ GE517.out | refine below_set ?_ GE518.out) | exact HB.out)⟩
      · replace c43 := Bool.eq_false_iff.mpr c43
        subst c43
        have H1 : (some (t509, t510)) = some (r1, r2) := by rw [if_neg (show ¬ (false = true) by decide)] at H; exact H
        clear H
        have H := H1
        clear H1
        simp only [Option.some.injEq, Prod.mk.injEq] at H
        obtain ⟨rfl, rfl⟩ := H
        have hnb62 := NB517_506.out
        have hnc62 := NB506_517.out
        have hnb63 := NB517_507.out
        have hnc63 := NB507_517.out
        have hnb64 := NB517_508.out
        have hnc64 := NB508_517.out
        have hnb65 := NB517_518.out
        have hnc65 := NB518_517.out
        have hcz66_0 : wc.cell? ⟨gb517, 0, none⟩ = some (.bool t509) := (blk_cell BK517.out 0).trans rfl
        have hcz66_1 : wc.cell? ⟨gb517, 1, none⟩ = some (.slice Ao23 t510.length co23) := (blk_cell BK517.out 1).trans rfl
        have hfz66_0 := blk_frozen BK517.out 0
        have hfz66_1 := blk_frozen BK517.out 1
        have hnb67 := NB508_506.out
        have hnc67 := NB506_508.out
        have hnb68 := NB508_507.out
        have hnc68 := NB507_508.out
        have hnb69 := NB508_518.out
        have hnc69 := NB518_508.out
        have hcz70_0 : wc.cell? ⟨gb508, 0, none⟩ = some (.bool false) := (blk_cell BK508.out 0).trans rfl
        have hcz70_1 : wc.cell? ⟨gb508, 1, none⟩ = some (.slice none 0 0) := (blk_cell BK508.out 1).trans rfl
        have hfz70_0 := blk_frozen BK508.out 0
        have hfz70_1 := blk_frozen BK508.out 1
        go_wp2
        refine bodyPost_ret (results_cell_row rfl _ _ gb508 37 #[.bool t509, .slice Ao23 t510.length co23] (0, 0) _ rfl (by (with_reducible repeat (first | refine blk_drewN ?_ _ | refine blk_drew ?_ | refine blk_alloc ?_ _)); refine blk_put (cs := #[.bool t509, .slice none 0 0]) ?_ 1 _ rfl; (with_reducible repeat (first | refine blk_drewN ?_ _ | refine blk_drew ?_ | refine blk_alloc ?_ _)); refine blk_put (cs := #[.bool false, .slice none 0 0]) ?_ 0 _ rfl; (with_reducible repeat (first | refine blk_drewN ?_ _ | refine blk_drew ?_ | refine blk_alloc ?_ _)); exact BK508.out) Tryz.underlying37 rfl (by kernel_rfl)) rfl ?_
        exact ⟨_, by first | rfl | (simp [errW_none, errW_some] <;> rfl) | (simp [*, errW_none, errW_some] <;> rfl), by (with_reducible repeat (first | apply Kd.R_alloc | apply Kd.R_drewN | apply Kd.R_drew)); exact Kd.R_mono (Kd.R_far (p := ⟨gb508, 1, none⟩) (Kd.R_far (p := ⟨gb508, 0, none⟩) (Kd.R_types HO_518001.out BK508.out (by decide)) (fun _ hk => hk.2) (.bool t509)) (fun _ hk => hk.2) (.slice Ao23 t510.length co23)) (fun _ hk => trivial), by repeat (first | (with_reducible first | exact HB.out | apply below_alloc | apply pw_below_drewN | apply below_drew1 | refine below_set ?_ GE506.out | refine below_set ?_ GE507.out | refine below_set ?_ GE508.out | refine below_set ?_ GE517.out | refine below_set ?_ GE518.out) | exact HB.out)⟩



end Go.Proofs.YtgjfjbghdpcllaaGreatDoor.I
