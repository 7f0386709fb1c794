/- Contracts of this claim's functions: each call gives what the plain mirror (in the text D) gives; the proofs are the kit's print, over D's definitions. -/
import Derived.Test.YtgjfjbghdpcllaaGreatDoorC3
namespace Go.Proofs.YtgjfjbghdpcllaaGreatDoor.I
open Go.RowKit Go.Proofs.YtgjfjbghdpcllaaGreatDoorW.PrintWords Go.Proofs.YtgjfjbghdpcllaaGreatDoorW.PrintLast Go.Proofs.YtgjfjbghdpcllaaGreatDoorW.PrintMore
attribute [local go_sem] max2_int min2_int max_two min_two max_three min_three max_four min_four
set_option linter.unusedVariables false
set_option linter.unusedSimpArgs false

/-! ### spec_Int_Base: function 30 -/
theorem spec_Int_Base.mono_l : ∀ k, (∀ y0 y1 y2 y3 y4, LeO (spec_Int_Base.l0 k y0 y1 y2 y3 y4) (spec_Int_Base.l0 (k + 1) y0 y1 y2 y3 y4)) ∧ (∀ y0 y1 y2 y3 y4 y5 y6, LeO (spec_Int_Base.l1 k y0 y1 y2 y3 y4 y5 y6) (spec_Int_Base.l1 (k + 1) y0 y1 y2 y3 y4 y5 y6)) ∧ (∀ y0, LeO (spec_Int_Base.j2 k y0) (spec_Int_Base.j2 (k + 1) y0)) ∧ (∀ y0 y1 y2, LeO (spec_Int_Base.l2 k y0 y1 y2) (spec_Int_Base.l2 (k + 1) y0 y1 y2))
  | 0 => ⟨fun _ _ _ _ _ r h => by simp [spec_Int_Base.l0] at h, fun _ _ _ _ _ _ _ r h => by simp [spec_Int_Base.l1] at h, fun _ r h => by simp [spec_Int_Base.j2] at h, fun _ _ _ r h => by simp [spec_Int_Base.l2] at h⟩
  | k + 1 => by
    obtain ⟨ih0, ih1, ih2, ih3⟩ := spec_Int_Base.mono_l k
    refine ⟨?_, ?_, ?_, ?_⟩
    · intro y0 y1 y2 y3 y4
      unfold spec_Int_Base.l0
      repeat' first
      | (with_reducible exact ih0 _ _ _ _ _)
      | (with_reducible exact ih1 _ _ _ _ _ _ _)
      | (with_reducible exact ih2 _)
      | (with_reducible exact ih3 _ _ _)
      | (with_reducible exact spec_cut.mono _ _)
      | (with_reducible exact LeO.refl _)
      | (with_reducible exact LeO.none _)
      | (with_reducible refine LeO.ite ?_ ?_)
      | (with_reducible refine LeO.bind ?_ (fun _ => ?_))
      | exact ih0 _ _ _ _ _
      | exact ih1 _ _ _ _ _ _ _
      | exact ih2 _
      | exact ih3 _ _ _
      | exact spec_cut.mono _ _
      | exact LeO.none _
      | refine LeO.ite ?_ ?_
      | refine LeO.bind ?_ (fun _ => ?_)
    · intro y0 y1 y2 y3 y4 y5 y6
      unfold spec_Int_Base.l1
      repeat' first
      | (with_reducible exact ih0 _ _ _ _ _)
      | (with_reducible exact ih1 _ _ _ _ _ _ _)
      | (with_reducible exact ih2 _)
      | (with_reducible exact ih3 _ _ _)
      | (with_reducible exact spec_cut.mono _ _)
      | (with_reducible exact LeO.refl _)
      | (with_reducible exact LeO.none _)
      | (with_reducible refine LeO.ite ?_ ?_)
      | (with_reducible refine LeO.bind ?_ (fun _ => ?_))
      | exact ih0 _ _ _ _ _
      | exact ih1 _ _ _ _ _ _ _
      | exact ih2 _
      | exact ih3 _ _ _
      | exact spec_cut.mono _ _
      | exact LeO.none _
      | refine LeO.ite ?_ ?_
      | refine LeO.bind ?_ (fun _ => ?_)
    · intro y0
      unfold spec_Int_Base.j2
      repeat' first
      | (with_reducible exact ih0 _ _ _ _ _)
      | (with_reducible exact ih1 _ _ _ _ _ _ _)
      | (with_reducible exact ih2 _)
      | (with_reducible exact ih3 _ _ _)
      | (with_reducible exact spec_cut.mono _ _)
      | (with_reducible exact LeO.refl _)
      | (with_reducible exact LeO.none _)
      | (with_reducible refine LeO.ite ?_ ?_)
      | (with_reducible refine LeO.bind ?_ (fun _ => ?_))
      | exact ih0 _ _ _ _ _
      | exact ih1 _ _ _ _ _ _ _
      | exact ih2 _
      | exact ih3 _ _ _
      | exact spec_cut.mono _ _
      | exact LeO.none _
      | refine LeO.ite ?_ ?_
      | refine LeO.bind ?_ (fun _ => ?_)
    · intro y0 y1 y2
      unfold spec_Int_Base.l2
      repeat' first
      | (with_reducible exact ih0 _ _ _ _ _)
      | (with_reducible exact ih1 _ _ _ _ _ _ _)
      | (with_reducible exact ih2 _)
      | (with_reducible exact ih3 _ _ _)
      | (with_reducible exact spec_cut.mono _ _)
      | (with_reducible exact LeO.refl _)
      | (with_reducible exact LeO.none _)
      | (with_reducible refine LeO.ite ?_ ?_)
      | (with_reducible refine LeO.bind ?_ (fun _ => ?_))
      | exact ih0 _ _ _ _ _
      | exact ih1 _ _ _ _ _ _ _
      | exact ih2 _
      | exact ih3 _ _ _
      | exact spec_cut.mono _ _
      | exact LeO.none _
      | refine LeO.ite ?_ ?_
      | refine LeO.bind ?_ (fun _ => ?_)
theorem spec_Int_Base.mono : ∀ a0 a1 a2 k, LeO (spec_Int_Base.f k a0 a1 a2) (spec_Int_Base.f (k + 1) a0 a1 a2) := by
  intro a0 a1 a2 k
  obtain ⟨ih0, ih1, ih2, ih3⟩ := spec_Int_Base.mono_l k
  unfold spec_Int_Base.f
  repeat' first
      | (with_reducible exact ih0 _ _ _ _ _)
      | (with_reducible exact ih1 _ _ _ _ _ _ _)
      | (with_reducible exact ih2 _)
      | (with_reducible exact ih3 _ _ _)
      | (with_reducible exact spec_cut.mono _ _)
      | (with_reducible exact LeO.refl _)
      | (with_reducible exact LeO.none _)
      | (with_reducible refine LeO.ite ?_ ?_)
      | (with_reducible refine LeO.bind ?_ (fun _ => ?_))
      | exact ih0 _ _ _ _ _
      | exact ih1 _ _ _ _ _ _ _
      | exact ih2 _
      | exact ih3 _ _ _
      | exact spec_cut.mono _ _
      | exact LeO.none _
      | refine LeO.ite ?_ ?_
      | refine LeO.bind ?_ (fun _ => ?_)
def spec_Int_Base.T20 : Bool × List (List Nat × List Nat) := (true, [([], []), ([], []), ([], []), ([], []), ([], []), ([], []), ([4, 5], [4, 5]), ([6], [6]), ([], []), ([], []), ([8, 9], [8, 9]), ([10], [10]), ([0, 1, 0, 1, 4, 5, 6, 7, 11], [0, 1]), ([12, 7, 0, 1, 4, 5, 6, 7, 11], [7, 12]), ([2, 3, 0, 1, 2, 3, 4, 5, 6, 7, 8, 9, 10, 11, 12, 13], [2, 3]), ([14, 11, 13, 0, 1, 2, 3, 4, 5, 6, 7, 8, 9, 10, 11, 12, 13], [11, 14])])
def spec_Int_Base.B20 : List Nat := [0, 0, 0, 0, 0, 0, 48, 112, 0, 0, 768, 1792, 4083, 8179, 16383, 32767]
theorem spec_Int_Base.tab20 : rtab .any (opsOf Tryz.f30 20) = spec_Int_Base.T20 := by kernel_rfl
theorem spec_Int_Base.bits20 : waitsOk spec_Int_Base.T20.2 spec_Int_Base.B20 = true := by kernel_rfl
set_option maxHeartbeats 8000000 in
set_option maxRecDepth 100000 in
theorem spec_Int_Base.calls (k : Nat) (a0_0 : Bool) (A0_1 : Option Addr) (c0_1 : Nat) (l0_1 : List Int) (a1 : Int) (r : ByteArray) (w : World) (hr0_1 : Kd.C (Kd.int .u8) w A0_1 l0_1.length l0_1) (hc0_1 : l0_1.length ≤ c0_1) (h : spec_Int_Base.f k a0_0 l0_1 a1 = some r) :
    Calls Tryz.prog 30 #[.agg #[.bool a0_0, .slice A0_1 l0_1.length c0_1], .int .i64 a1] w fun e w' => e = .returned (.string r) ∧ Below w.heap.size w w' := by
  have hu37 := Tryz.underlying37
  have HR0_1 := Aside0.mk hr0_1
  have HC0_1 := Aside0.mk hc0_1
  clear hr0_1 hc0_1
  have HB := Aside0.mk (Below.refl w.heap.size w)
  have H : ((spec_Int_Zero.f a0_0 l0_1).bind fun t534 => (if t534 = true then (some (⟨#[48]⟩ : ByteArray)) else ((some (([] : List Int) : List Int)).bind fun y538 => (if y538.length + l0_1.length < 140737488355328 then (spec_Int_Base.l0 k a1 (([] : List Int)) (y538 ++ l0_1) a0_0 l0_1) else (none))))) = some r := h
  clear h
  replace H := Option.bind_eq_some_iff.mp H
  obtain ⟨t534, A30, H⟩ := H
  replace H : (if t534 = true then (some (⟨#[48]⟩ : ByteArray)) else ((some (([] : List Int) : List Int)).bind fun y538 => (if y538.length + l0_1.length < 140737488355328 then (spec_Int_Base.l0 k a1 (([] : List Int)) (y538 ++ l0_1) a0_0 l0_1) else (none)))) = some r := H
  have A3 := Aside0.mk A30
  clear A30
  by_cases c4 : t534 = true
  · subst c4
    have H1 : (some (⟨#[48]⟩ : ByteArray)) = some r := by rw [if_pos rfl] at H; exact H
    clear H
    have H := H1
    clear H1
    obtain rfl := Option.some.inj H
    go_enter Tryz.func30, Tryz.ntmps30
    go_wp2_with (first | ((with_reducible refine gate_dst (N := 2) rfl ?_); refine box_event ?hg (N := 2) ?hd (cs := #[.bool a0_0, .slice A0_1 l0_1.length c0_1]) (t := 37) ?hr ?_; (case hd => rfl); (case hg => rfl); (case hr => first | (go_simp; done) | (go_simp; rfl)); intro gb533 hg w5 hbox hb; have n0_ := Aside0.mk (below_step (by repeat (first | (with_reducible first | exact HB.out | apply below_alloc | apply pw_below_drewN | apply below_drew1) | exact HB.out)) hb); have n1_ := Aside0.mk (hbox); have n2_ := Aside0.mk ((by rw [hg]; exact (below_size (by repeat (first | (with_reducible first | exact HB.out | apply below_alloc | apply pw_below_drewN | apply below_drew1) | exact HB.out))) : w.heap.size ≤ gb533)); have n3_ := Aside0.mk ((by rw [hg]; exact (below_size (by repeat (first | (with_reducible first | exact HB.out | apply below_alloc | apply pw_below_drewN | apply below_drew1) | exact HB.out))) : w.heap.size ≤ gb533)); clear HB; have HB := n0_; have BK533 := n1_; have GW533 := n2_; have GE533 := n3_; clear n0_ n1_ n2_ n3_; clear hb hbox hg; have hcz6_0 : w5.cell? ⟨gb533, 0, none⟩ = some (.bool a0_0) := (blk_cell BK533.out 0).trans rfl; have hcz6_1 : w5.cell? ⟨gb533, 1, none⟩ = some (.slice A0_1 l0_1.length c0_1) := (blk_cell BK533.out 1).trans rfl; have hfz6_0 := blk_frozen BK533.out 0; have hfz6_1 := blk_frozen BK533.out 1) | ((with_reducible refine gate_callee (f := 37) rfl ?_); refine goesL_ (some 12) rfl rfl Tryz.func37 (by kernel_rfl) rfl #[.agg #[.bool a0_0, .slice A0_1 l0_1.length c0_1]] rfl (by (try simp only [List.map_toArray, List.map_cons, List.map_nil]); first | done | rfl | (simp only [List.length_drop, List.length_take]; rfl)) ?_; (with_reducible refine (spec_Int_Zero.calls a0_0 _ _ l0_1 true _ ?side1 ?side2 A3.out).mono ?_); (case side1 => repeat (first | exact (Kd.C_below HR0_1.out HB.out) | (with_reducible refine Kd.C_alloc ?_ _) | (with_reducible refine Kd.C_drewN ?_ _) | (with_reducible refine Kd.C_drew ?_))); (case side2 => exact HC0_1.out); rintro e w7 ⟨rfl, hb⟩; refine ⟨_, rfl, ?_⟩; have n0_ := Aside0.mk (blk_below (g := gb533) (o := .cells #[.bool a0_0, .slice A0_1 l0_1.length c0_1] 37 (0, 0)) (by (with_reducible repeat (first | refine blk_drewN ?_ _ | refine blk_drew ?_ | refine blk_alloc ?_ _)); exact BK533.out) hb); have n1_ := Aside0.mk (below_step (by repeat (first | (with_reducible first | exact HB.out | apply below_alloc | apply pw_below_drewN | apply below_drew1 | refine below_set ?_ GE533.out) | exact HB.out)) hb); clear BK533; clear HB; have BK533 := n0_; have HB := n1_; clear n0_ n1_; (try clear hb); (try clear hb2); (try clear hk); (try clear hi)))
    go_ret
    exact ⟨by first | rfl | (simp [errW_none, errW_some] <;> rfl) | (simp [*, errW_none, errW_some] <;> rfl), by repeat (first | (with_reducible first | exact HB.out | apply below_alloc | apply pw_below_drewN | apply below_drew1 | refine below_set ?_ GE533.out) | exact HB.out)⟩
  · replace c4 := Bool.eq_false_iff.mpr c4
    subst c4
    have H1 : ((some (([] : List Int) : List Int)).bind fun y538 => (if y538.length + l0_1.length < 140737488355328 then (spec_Int_Base.l0 k a1 (([] : List Int)) (y538 ++ l0_1) a0_0 l0_1) else (none))) = some r := by rw [if_neg (show ¬ (false = true) by decide)] at H; exact H
    clear H
    have H := H1
    clear H1
    obtain ⟨y535, hy535⟩ : ∃ y_ : List Int, y_ = (([] : List Int)) := ⟨_, rfl⟩
    replace H : ((some (([] : List Int) : List Int)).bind fun y538 => (if y538.length + l0_1.length < 140737488355328 then (spec_Int_Base.l0 k a1 y535 (y538 ++ l0_1) a0_0 l0_1) else (none))) = some r := by first | (rw [hy535]; with_reducible exact H) | (have H2_ := (Option.bind_some _ _).symm.trans H; rw [hy535]; with_reducible exact H2_) | (have H2_ := (Option.bind_some _ _).symm.trans H; with_reducible exact H2_) | with_reducible exact H | (rw [hy535]; exact H) | exact H
    have Ny535 := Aside0.mk hy535
    clear hy535
    obtain ⟨y538, hy538⟩ : ∃ y_ : List Int, y_ = (([] : List Int)) := ⟨_, rfl⟩
    replace H : (if y538.length + l0_1.length < 140737488355328 then (spec_Int_Base.l0 k a1 y535 (y538 ++ l0_1) a0_0 l0_1) else (none)) = some r := by first | (rw [hy538]; with_reducible exact H) | (have H2_ := (Option.bind_some _ _).symm.trans H; rw [hy538]; with_reducible exact H2_) | (have H2_ := (Option.bind_some _ _).symm.trans H; with_reducible exact H2_) | with_reducible exact H | (rw [hy538]; exact H) | exact H
    have Ny538 := Aside0.mk hy538
    clear hy538
    by_cases c8 : y538.length + l0_1.length < 140737488355328
    · rw [if_pos c8] at H
      have LMc8 := Aside0.mk c8
      clear c8
      obtain ⟨y541, hy541⟩ : ∃ y_ : List Int, y_ = (y538 ++ l0_1) := ⟨_, rfl⟩
      replace H : (spec_Int_Base.l0 k a1 y535 y541 a0_0 l0_1) = some r := by first | (rw [hy541]; with_reducible exact H) | (have H2_ := (Option.bind_some _ _).symm.trans H; rw [hy541]; with_reducible exact H2_) | (have H2_ := (Option.bind_some _ _).symm.trans H; with_reducible exact H2_) | with_reducible exact H | (rw [hy541]; exact H) | exact H
      have Ny541 := Aside0.mk hy541
      clear hy541
      have H' := Aside0.mk H
      clear H
      go_enter Tryz.func30, Tryz.ntmps30
      go_wp2_with (first | ((with_reducible refine gate_dst (N := 2) rfl ?_); refine box_event ?hg (N := 2) ?hd (cs := #[.bool a0_0, .slice A0_1 l0_1.length c0_1]) (t := 37) ?hr ?_; (case hd => rfl); (case hg => rfl); (case hr => first | (go_simp; done) | (go_simp; rfl)); intro gb533 hg w9 hbox hb; have n0_ := Aside0.mk (below_step (by repeat (first | (with_reducible first | exact HB.out | apply below_alloc | apply pw_below_drewN | apply below_drew1) | exact HB.out)) hb); have n1_ := Aside0.mk (hbox); have n2_ := Aside0.mk ((by rw [hg]; exact (below_size (by repeat (first | (with_reducible first | exact HB.out | apply below_alloc | apply pw_below_drewN | apply below_drew1) | exact HB.out))) : w.heap.size ≤ gb533)); have n3_ := Aside0.mk ((by rw [hg]; exact (below_size (by repeat (first | (with_reducible first | exact HB.out | apply below_alloc | apply pw_below_drewN | apply below_drew1) | exact HB.out))) : w.heap.size ≤ gb533)); clear HB; have HB := n0_; have BK533 := n1_; have GW533 := n2_; have GE533 := n3_; clear n0_ n1_ n2_ n3_; clear hb hbox hg; have hcz10_0 : w9.cell? ⟨gb533, 0, none⟩ = some (.bool a0_0) := (blk_cell BK533.out 0).trans rfl; have hcz10_1 : w9.cell? ⟨gb533, 1, none⟩ = some (.slice A0_1 l0_1.length c0_1) := (blk_cell BK533.out 1).trans rfl; have hfz10_0 := blk_frozen BK533.out 0; have hfz10_1 := blk_frozen BK533.out 1) | ((with_reducible refine gate_callee (f := 37) rfl ?_); refine goesL_ (some 12) rfl rfl Tryz.func37 (by kernel_rfl) rfl #[.agg #[.bool a0_0, .slice A0_1 l0_1.length c0_1]] rfl (by (try simp only [List.map_toArray, List.map_cons, List.map_nil]); first | done | rfl | (simp only [List.length_drop, List.length_take]; rfl)) ?_; (with_reducible refine (spec_Int_Zero.calls a0_0 _ _ l0_1 false _ ?side1 ?side2 A3.out).mono ?_); (case side1 => repeat (first | exact (Kd.C_below HR0_1.out HB.out) | (with_reducible refine Kd.C_alloc ?_ _) | (with_reducible refine Kd.C_drewN ?_ _) | (with_reducible refine Kd.C_drew ?_))); (case side2 => exact HC0_1.out); rintro e w11 ⟨rfl, hb⟩; refine ⟨_, rfl, ?_⟩; have n0_ := Aside0.mk (blk_below (g := gb533) (o := .cells #[.bool a0_0, .slice A0_1 l0_1.length c0_1] 37 (0, 0)) (by (with_reducible repeat (first | refine blk_drewN ?_ _ | refine blk_drew ?_ | refine blk_alloc ?_ _)); exact BK533.out) hb); have n1_ := Aside0.mk (below_step (by repeat (first | (with_reducible first | exact HB.out | apply below_alloc | apply pw_below_drewN | apply below_drew1 | refine below_set ?_ GE533.out) | exact HB.out)) hb); clear BK533; clear HB; have BK533 := n0_; have HB := n1_; clear n0_ n1_; (try clear hb); (try clear hb2); (try clear hk); (try clear hi)) | ((with_reducible refine gate_dst (N := 13) rfl ?_); refine Kd.R_lit (Kd.int .u8) _ 5 ?hg (N := 13) ?hd (xs := ([] : List Int)) (inner := []) (ok := fun _ => True) (okp := fun _ => True) ?hr ?hp (fun _ hk => hk) trivial (Below.refl _ _) (Nat.le_refl _) (by simp) ?_; (case hd => rfl); (case hg => rfl); (case hr => first | (go_simp; done) | (go_simp; rfl)); (case hp => exact (Reps.none _ _)); intro v536 w12 ho13 hb hg_ hnew_; clear hg_ hnew_; (first | rw [← Ny535.out] at ho13 | (simp only [Int.reduceToNat] at ho13; rw [← Ny535.out] at ho13)); have n0_ := Aside0.mk (Kd.R_lower ho13 (below_size (by repeat (first | (with_reducible first | exact HB.out | apply below_alloc | apply pw_below_drewN | apply below_drew1 | refine below_set ?_ GE533.out) | exact HB.out)))); have n1_ := Aside0.mk (blk_below (g := gb533) (o := .cells #[.bool a0_0, .slice A0_1 l0_1.length c0_1] 37 (0, 0)) (by (with_reducible repeat (first | refine blk_drewN ?_ _ | refine blk_drew ?_ | refine blk_alloc ?_ _)); exact BK533.out) hb); have n2_ := Aside0.mk (below_step (by repeat (first | (with_reducible first | exact HB.out | apply below_alloc | apply pw_below_drewN | apply below_drew1 | refine below_set ?_ GE533.out) | exact HB.out)) hb); clear BK533; clear HB; have HO537 := n0_; have BK533 := n1_; have HB := n2_; clear n0_ n1_ n2_; clear hb ho13) | ((with_reducible refine gate_dst (N := 14) rfl ?_); refine Kd.R_lit (Kd.int .u8) _ 5 ?hg (N := 14) ?hd (xs := ([] : List Int)) (inner := []) (ok := fun _ => True) (okp := fun _ => True) ?hr ?hp (fun _ hk => hk) trivial (Below.refl _ _) (Nat.le_refl _) (by simp) ?_; (case hd => rfl); (case hg => rfl); (case hr => first | (go_simp; done) | (go_simp; rfl)); (case hp => exact (Reps.none _ _)); intro v539 w14 ho15 hb hg_ hnew_; clear hg_ hnew_; (first | rw [← Ny538.out] at ho15 | (simp only [Int.reduceToNat] at ho15; rw [← Ny538.out] at ho15)); have n0_ := Aside0.mk (Kd.R_elder' (by (with_reducible repeat (first | apply Kd.R_alloc | apply Kd.R_drewN | apply Kd.R_drew)); exact HO537.out) (Kd.R_base ho15) hb); have n1_ := Aside0.mk (Kd.R_lower (Kd.R_new' ho15 (Kd.R_lt (by (with_reducible repeat (first | apply Kd.R_alloc | apply Kd.R_drewN | apply Kd.R_drew)); exact HO537.out))) (below_size (by repeat (first | (with_reducible first | exact HB.out | apply below_alloc | apply pw_below_drewN | apply below_drew1 | refine below_set ?_ GE533.out) | exact HB.out)))); have n2_ := Aside0.mk (blk_below (g := gb533) (o := .cells #[.bool a0_0, .slice A0_1 l0_1.length c0_1] 37 (0, 0)) (by (with_reducible repeat (first | refine blk_drewN ?_ _ | refine blk_drew ?_ | refine blk_alloc ?_ _)); exact BK533.out) hb); have n3_ := Aside0.mk (below_step (by repeat (first | (with_reducible first | exact HB.out | apply below_alloc | apply pw_below_drewN | apply below_drew1 | refine below_set ?_ GE533.out) | exact HB.out)) hb); clear HO537; clear BK533; clear HB; have HO537 := n0_; have HO540 := n1_; have BK533 := n2_; have HB := n3_; clear n0_ n1_ n2_ n3_; clear hb ho15; have hcz16_0 : w14.cell? ⟨gb533, 0, none⟩ = some (.bool a0_0) := (blk_cell BK533.out 0).trans rfl; have hcz16_1 : w14.cell? ⟨gb533, 1, none⟩ = some (.slice A0_1 l0_1.length c0_1) := (blk_cell BK533.out 1).trans rfl; have hfz16_0 := blk_frozen BK533.out 0; have hfz16_1 := blk_frozen BK533.out 1) | ((with_reducible refine gate_builtin (b := .append) (xs := #[.tmp 14, .tmp 16]) rfl ?_); at_builtin; refine Kd.R_append_rows (Kd.int .u8) (w0 := w) w.heap.size rfl (.tmp 14) (.tmp 16) 35 5 (.int .u8 0) 1 rfl Tryz.underlying35 info5 rfl (by decide) (by omega) v539 y538 l0_1 _ _ _ (fun k_ => some k_ ≠ (v536 : Value).ownBlock) (fun _ => False) rfl rfl ?aO ?aR (fun _ _ h => h) (fun _ h => h.elim) ?aF ?aB ?aS ?aL ?_; (case aR => repeat (first | exact (Kd.C_below HR0_1.out HB.out) | (with_reducible refine Kd.C_alloc ?_ _) | (with_reducible refine Kd.C_drewN ?_ _) | (with_reducible refine Kd.C_drew ?_))); (case aB => exact (by repeat (first | (with_reducible first | exact HB.out | apply below_alloc | apply pw_below_drewN | apply below_drew1 | refine below_set ?_ GE533.out) | exact HB.out))); (case aF => exact (fun k_ hk => Kd.fresh' (Kd.R_lt (by (with_reducible repeat (first | apply Kd.R_alloc | apply Kd.R_drewN | apply Kd.R_drew)); exact HO537.out)) k_ hk)); (case aO => exact (by (with_reducible repeat (first | apply Kd.R_alloc | apply Kd.R_drewN | apply Kd.R_drew)); exact Kd.R_mono HO540.out (fun _ hk => hk.2))); (case aS => exact (below_size (by repeat (first | (with_reducible first | exact HB.out | apply below_alloc | apply pw_below_drewN | apply below_drew1 | refine below_set ?_ GE533.out) | exact HB.out)))); (case aL => have := LMc8.out; omega); intro v542 w17 ho hb hg hat; rw [← Ny541.out] at ho; have n0_ := Aside0.mk (blk_grown (g := gb533) (o := .cells #[.bool a0_0, .slice A0_1 l0_1.length c0_1] 37 (0, 0)) (by (with_reducible repeat (first | refine blk_drewN ?_ _ | refine blk_drew ?_ | refine blk_alloc ?_ _)); exact BK533.out) hg (Kd.R_ne HO540.out BK533.out (by decide))); have n1_ := Aside0.mk (Kd.R_after (ok := (fun _ => True)) (by (with_reducible repeat (first | apply Kd.R_alloc | apply Kd.R_drewN | apply Kd.R_drew)); exact HO537.out) hg hat); have n2_ := Aside0.mk (hb); have n3_ := Aside0.mk (ho); clear BK533; clear HO537; clear HB; clear HO540; have BK533 := n0_; have HO537 := n1_; have HB := n2_; have HO543 := n3_; clear n0_ n1_ n2_ n3_; clear ho hb hg hat))
      go_loopg [5, 6] k (fun kq v5 v6 w' => ∃ (x5_1 : List Int) (x6_1 : List Int), Aside0 (spec_Int_Base.l0 kq a1 x5_1 x6_1 a0_0 l0_1 = some r) ∧ Aside0 (kq ≤ k) ∧ Aside0 (Kd.R (Kd.int .u8) 5 w' w.heap.size (fun k_ => some k_ ≠ (v6 : Value).ownBlock) v5 x5_1) ∧ Aside0 (Kd.R (Kd.int .u8) 5 w' w.heap.size (fun k_ => some k_ ≠ (v5 : Value).ownBlock) v6 x6_1) ∧ Aside0 (w'.heap[gb533]? = some (.cells #[.bool a0_0, (.slice A0_1 l0_1.length c0_1)] 37 (0, 0))) ∧ Aside0 (Below w.heap.size w w'))
      case atStart => exact ⟨(y535), (y541), H', ⟨Nat.le_refl _⟩, ⟨by (with_reducible repeat (first | apply Kd.R_alloc | apply Kd.R_drewN | apply Kd.R_drew)); exact Kd.R_mono HO537.out (fun _ hk => hk.2)⟩, ⟨by (with_reducible repeat (first | apply Kd.R_alloc | apply Kd.R_drewN | apply Kd.R_drew)); exact HO543.out⟩, ⟨by (with_reducible repeat (first | refine blk_drewN ?_ _ | refine blk_drew ?_ | refine blk_alloc ?_ _)); exact BK533.out⟩, ⟨by repeat (first | (with_reducible first | exact HB.out | apply below_alloc | apply pw_below_drewN | apply below_drew1 | refine below_set ?_ GE533.out) | exact HB.out)⟩⟩
      case round =>
        clear H'
        try clear p2
        try clear c3
        try clear c4
        try clear c8
        try clear hcz10_0
        try clear hcz10_1
        try clear hcz16_0
        try clear hcz16_1
        try clear hcz6_0
        try clear hcz6_1
        try clear hfz10_0
        try clear hfz10_1
        try clear hfz16_0
        try clear hfz16_1
        try clear hfz6_0
        try clear hfz6_1
        obtain ⟨x5_1, x6_1, HA, HK1, HO_5, HO_6, BK533, HB⟩ := hrel
        cases gk with
        | zero => exact absurd HA.out (by simp [spec_Int_Base.l0])
        | succ k1 =>
          have H := HA.out
          clear HA
          simp only [spec_Int_Base.l0] at H
          by_cases c18 : (x6_1.length : Int) > 0
          · rw [if_pos c18] at H
            have c18b0 : decide (0 < (x6_1.length : Int)) = true := decide_eq_true c18
            have c18b1 : decide (0 < x6_1.length) = true := decide_eq_true (by omega)
            clear c18
            have H' := Aside0.mk H
            clear H
            obtain ⟨Ao19, co19, eo19⟩ := Kd.R_slice HO_6.out
            subst eo19
            go_wp2
            go_loopg [7, 8] k1 (fun kq v7 v8 w' => ∃ (x6_2 : List Int) (x7_2 : Int) (x8_2 : Int), v7 = .int .i64 x7_2 ∧ v8 = .int .i64 x8_2 ∧ Aside0 (spec_Int_Base.l1 kq a1 x5_1 x6_2 x7_2 x8_2 a0_0 l0_1 = some r) ∧ Aside0 (kq ≤ k1) ∧ Aside0 (Kd.R (Kd.int .u8) 5 w' w.heap.size (fun k_ => some k_ ≠ ((.slice Ao19 x6_1.length co19) : Value).ownBlock) u5 x5_1) ∧ Aside0 (Kd.R (Kd.int .u8) 5 w' w.heap.size (fun k_ => some k_ ≠ (u5 : Value).ownBlock) (.slice Ao19 x6_1.length co19) x6_2) ∧ Aside0 (w'.heap[gb533]? = some (.cells #[.bool a0_0, (.slice A0_1 l0_1.length c0_1)] 37 (0, 0))) ∧ Aside0 (Below w.heap.size w w'))
            case atStart => exact ⟨(x6_1), (0), (0), (by first | rfl | (simp; done) | (simp [*]; done)), (by first | rfl | (simp; done) | (simp [*]; done)), H', ⟨Nat.le_refl _⟩, ⟨by (with_reducible repeat (first | apply Kd.R_alloc | apply Kd.R_drewN | apply Kd.R_drew)); exact HO_5.out⟩, ⟨by (with_reducible repeat (first | apply Kd.R_alloc | apply Kd.R_drewN | apply Kd.R_drew)); exact HO_6.out⟩, ⟨by (with_reducible repeat (first | refine blk_drewN ?_ _ | refine blk_drew ?_ | refine blk_alloc ?_ _)); exact BK533.out⟩, ⟨by repeat (first | (with_reducible first | exact HB.out | apply below_alloc | apply pw_below_drewN | apply below_drew1 | refine below_set ?_ GE533.out) | exact HB.out)⟩⟩
            case round =>
              clear H'
              try clear c1
              try clear p2
              try clear c3
              try clear c4
              try clear c8
              try clear c18
              try clear c18b0
              try clear c18b1
              try clear hcz10_0
              try clear hcz10_1
              try clear hcz16_0
              try clear hcz16_1
              try clear hcz6_0
              try clear hcz6_1
              try clear hfz10_0
              try clear hfz10_1
              try clear hfz16_0
              try clear hfz16_1
              try clear hfz6_0
              try clear hfz6_1
              try clear p2
              obtain ⟨x6_2, x7_2, x8_2, rfl, rfl, HA, HK2, HO_5, HO_6, BK533, HB⟩ := hrel
              have hl6_2 := (Kd.R_reads' HO_6.out).1
              rw [hl6_2] at HO_6
              (try simp only [hl6_2])
              (try simp only [hl6_2] at BK533)
              (try simp only [hl6_2] at HO_5)
              cases gk with
              | zero => exact absurd HA.out (by simp [spec_Int_Base.l1])
              | succ k2 =>
                have H := HA.out
                clear HA
                simp only [spec_Int_Base.l1] at H
                by_cases c20 : x8_2 < (x6_2.length : Int)
                · rw [if_pos c20] at H
                  have c20b0 : decide (x8_2 < (x6_2.length : Int)) = true := decide_eq_true c20
                  clear c20
                  by_cases c21 : 0 ≤ x8_2
                  · rw [if_pos c21] at H
                    have c21b0 : decide (0 ≤ x8_2) = true := decide_eq_true c21
                    clear c21
                    by_cases c22 : a1 = 0
                    · rw [if_pos c22] at H
                      exact absurd H (by simp)
                    · rw [if_neg c22] at H
                      have c22b0 : (a1 == 0) = false := beq_eq_false_iff_ne.mpr c22
                      have c22b1 : (a1 != 0) = true := bne_iff_ne.mpr c22
                      obtain ⟨y545, hy545⟩ : ∃ y_ : List Int, y_ = (x6_2.set (x8_2 : Int).toNat ((wrap64 (Int.tdiv (wrap64 ((wrap64 (x7_2 * 256)) + (wrap64 (rd x6_2 x8_2)))) a1)) % 256)) := ⟨_, rfl⟩
                      replace H : (spec_Int_Base.l1 k2 a1 x5_1 y545 (Int.tmod (wrap64 ((wrap64 (x7_2 * 256)) + (wrap64 (rd x6_2 x8_2)))) a1) (wrap64 (x8_2 + 1)) a0_0 l0_1) = some r := by first | (rw [hy545]; with_reducible exact H) | (have H2_ := (Option.bind_some _ _).symm.trans H; rw [hy545]; with_reducible exact H2_) | (have H2_ := (Option.bind_some _ _).symm.trans H; with_reducible exact H2_) | with_reducible exact H | (rw [hy545]; exact H) | exact H
                      have Ny545 := Aside0.mk hy545
                      clear hy545
                      have H' := Aside0.mk H
                      clear H
                      have p544 : 0 ≤ (x8_2 : Int) := of_decide_eq_true (by first | (with_reducible assumption) | assumption)
                      have q544 : x8_2 < (x6_2.length : Int) := of_decide_eq_true (by first | (with_reducible assumption) | assumption)
                      obtain ⟨ad544, e544, hx544_0⟩ := Kd.at_int (Kd.R_reads' HO_6.out).2.2 x8_2 p544 q544
                      cases e544
                      replace p544 := eq_true p544
                      replace q544 := eq_true q544
                      have p23 : 0 ≤ (x8_2 : Int) := of_decide_eq_true (by first | (with_reducible assumption) | assumption)
                      have q23 : (x8_2 : Int) < ((x6_2.length : Int) : Int) := of_decide_eq_true (by first | (with_reducible assumption) | assumption)
                      obtain ⟨go23, co23, eo23, gb23, gl23, cl23, HG23⟩ := Kd.R_form HO_6.out (by omega)
                      (first | cases eo23 | (injection eo23 with ea_ en_ ec_; (first | subst ea_ | (injection ea_ with ea_; subst ea_)); subst ec_; clear en_))
                      have GB23 := Aside0.mk gb23
                      have GG23 := Aside0.mk HG23
                      clear gb23 gl23 HG23
                      (first | simp only [add_plain] at hx544_0 | skip)
                      obtain ⟨hx23_0, hf23_0⟩ := Kd.R_celln 0 HO_6.out (x8_2 : Int) p23 q23
                      replace p23 := eq_true p23
                      replace q23 := eq_true q23
                      have HP24 := Kd.R_putg HO_6.out (x8_2 : Int) ((wrap64 (Int.tdiv (wrap64 ((wrap64 (x7_2 * 256)) + (wrap64 (rd x6_2 x8_2)))) a1)) % 256)
                      go_wp2_with (first | ((with_reducible refine gate_store (t := 5) (p := 41) rfl ?_); refine store_event (t := 5) (p := 41) (v := ?vo_w25) (w1 := (wr.setCell ⟨go23, (x8_2 : Int).toNat, none⟩ (.int .u8 ((wrap64 (Int.tdiv (wrap64 ((wrap64 (x7_2 * 256)) + (wrap64 (rd x6_2 x8_2)))) a1)) % 256)))) ?hg ?ho ?hn ?hr ?_; (case ho => rfl); (case hg => rfl); (case hn => rfl); (case hr => first | (go_simp; done) | (go_simp; rfl)); intro w25 hw; have hg : wr.grownBy w25 (some go23) := (by rw [hw]; exact HP24.2); have hp_ : Kd.R (Kd.int .u8) 5 w25 w.heap.size (fun k_ => some k_ ≠ (u5 : Value).ownBlock) (.slice (some ⟨go23, 0, none⟩) x6_2.length co19) y545 := (by rw [hw, Ny545.out]; exact HP24.1); clear HP24; have n0_ := Aside0.mk (Kd.R_after (v := (.slice (some ⟨go23, 0, none⟩) x6_2.length co19)) (v1 := (.slice (some ⟨go23, 0, none⟩) x6_2.length co19)) (ok := (fun _ => True)) (by (with_reducible repeat (first | apply Kd.R_alloc | apply Kd.R_drewN | apply Kd.R_drew)); exact Kd.R_mono HO_5.out (fun _ hk => ⟨trivial, hk⟩)) hg (.inl rfl)); have n1_ := Aside0.mk (hp_); have n2_ := Aside0.mk (blk_grown (g := gb533) (o := .cells #[.bool a0_0, .slice A0_1 l0_1.length c0_1] 37 (0, 0)) (by (with_reducible repeat (first | refine blk_drewN ?_ _ | refine blk_drew ?_ | refine blk_alloc ?_ _)); exact BK533.out) hg (Kd.R_ne HO_6.out BK533.out (by decide))); have n3_ := Aside0.mk ((by rw [hw]; exact below_set (HB.out) GB23.out : Below w.heap.size w w25)); clear HO_5; clear HO_6; clear BK533; clear HB; have HO_5 := n0_; have HO_6 := n1_; have BK533 := n2_; have HB := n3_; clear n0_ n1_ n2_ n3_; clear hg hw hp_))
                      (try simp only [← hl6_2])
                      go_roundg k2
                      case measure => have := HK1.out; have := HK2.out; omega
                      case rel => exact ⟨(y545), (Int.tmod (wrap64 ((wrap64 (x7_2 * 256)) + (wrap64 (rd x6_2 x8_2)))) a1), (wrap64 (x8_2 + 1)), (by first | rfl | (simp; done) | (simp [*]; done)), (by first | rfl | (simp; done) | (simp [*]; done)), H', ⟨by have := HK1.out; have := HK2.out; omega⟩, ⟨by (try simp only [hl6_2]); (with_reducible repeat (first | apply Kd.R_alloc | apply Kd.R_drewN | apply Kd.R_drew)); exact Kd.R_mono HO_5.out (fun _ hk => hk.2)⟩, ⟨by (try simp only [hl6_2]); (with_reducible repeat (first | apply Kd.R_alloc | apply Kd.R_drewN | apply Kd.R_drew)); exact HO_6.out⟩, ⟨by (try simp only [hl6_2]); (with_reducible repeat (first | refine blk_drewN ?_ _ | refine blk_drew ?_ | refine blk_alloc ?_ _)); exact BK533.out⟩, ⟨by repeat (first | (with_reducible first | exact HB.out | apply below_alloc | apply pw_below_drewN | apply below_drew1 | refine below_set ?_ GE533.out) | exact HB.out)⟩⟩
                  · rw [if_neg c21] at H
                    exact absurd H (by simp)
                · rw [if_neg c20] at H
                  have c20b0 : decide (x8_2 < (x6_2.length : Int)) = false := decide_eq_false c20
                  clear c20
                  replace H := Option.bind_eq_some_iff.mp H
                  obtain ⟨t546, A260, H⟩ := H
                  replace H : (if 0 ≤ x7_2 then (if x7_2 < 36 then (if x5_1.length < 140737488355328 then (spec_Int_Base.l0 k2 a1 (x5_1 ++ [bt (⟨#[48, 49, 50, 51, 52, 53, 54, 55, 56, 57, 97, 98, 99, 100, 101, 102, 103, 104, 105, 106, 107, 108, 109, 110, 111, 112, 113, 114, 115, 116, 117, 118, 119, 120, 121, 122]⟩ : ByteArray) x7_2]) t546 a0_0 l0_1) else (none)) else (none)) else (none)) = some r := H
                  have A26 := Aside0.mk A260
                  clear A260
                  by_cases c27 : 0 ≤ x7_2
                  · rw [if_pos c27] at H
                    have c27b0 : decide (0 ≤ x7_2) = true := decide_eq_true c27
                    clear c27
                    by_cases c28 : x7_2 < 36
                    · rw [if_pos c28] at H
                      have c28b0 : decide (x7_2 < 36) = true := decide_eq_true c28
                      clear c28
                      by_cases c30 : x5_1.length < 140737488355328
                      · rw [if_pos c30] at H
                        have LMc30 := Aside0.mk c30
                        clear c30
                        obtain ⟨y549, hy549⟩ : ∃ y_ : List Int, y_ = (x5_1 ++ [bt (⟨#[48, 49, 50, 51, 52, 53, 54, 55, 56, 57, 97, 98, 99, 100, 101, 102, 103, 104, 105, 106, 107, 108, 109, 110, 111, 112, 113, 114, 115, 116, 117, 118, 119, 120, 121, 122]⟩ : ByteArray) x7_2]) := ⟨_, rfl⟩
                        replace H : (spec_Int_Base.l0 k2 a1 y549 t546 a0_0 l0_1) = some r := by first | (rw [hy549]; with_reducible exact H) | (have H2_ := (Option.bind_some _ _).symm.trans H; rw [hy549]; with_reducible exact H2_) | (have H2_ := (Option.bind_some _ _).symm.trans H; with_reducible exact H2_) | with_reducible exact H | (rw [hy549]; exact H) | exact H
                        have Ny549 := Aside0.mk hy549
                        clear hy549
                        have H' := Aside0.mk H
                        clear H
                        go_wp2_with (first | ((with_reducible refine gate_callee (f := 35) rfl ?_); refine goesL_ (some 46) rfl rfl Tryz.func35 (by kernel_rfl) rfl #[.slice Ao19 x6_2.length co19] rfl (by (try simp only [List.map_toArray, List.map_cons, List.map_nil]); first | done | rfl | (simp only [List.length_drop, List.length_take]; rfl)) ?_; (with_reducible refine (spec_cut.calls k2 _ _ x6_2 t546 _ ?side1 ?side2 A26.out).mono ?_); (case side1 => repeat (first | exact (Kd.R_reads' HO_6.out).2.2 | (with_reducible refine Kd.C_alloc ?_ _) | (with_reducible refine Kd.C_drewN ?_ _) | (with_reducible refine Kd.C_drew ?_))); (case side2 => exact (Kd.R_reads' HO_6.out).2.1); rintro e w31 ⟨v547, rfl, ho0, hb⟩; refine ⟨_, rfl, ?_⟩; have n0_ := Aside0.mk (Kd.R_elder' (by (with_reducible repeat (first | apply Kd.R_alloc | apply Kd.R_drewN | apply Kd.R_drew)); exact HO_5.out) (Kd.R_base ho0) hb); have n1_ := Aside0.mk (Kd.R_elder' (by (with_reducible repeat (first | apply Kd.R_alloc | apply Kd.R_drewN | apply Kd.R_drew)); exact HO_6.out) (Kd.R_base ho0) hb); have n2_ := Aside0.mk (Kd.R_lower (Kd.R_new' (Kd.R_new' ho0 (Kd.R_lt (by (with_reducible repeat (first | apply Kd.R_alloc | apply Kd.R_drewN | apply Kd.R_drew)); exact HO_5.out))) (Kd.R_lt (by (with_reducible repeat (first | apply Kd.R_alloc | apply Kd.R_drewN | apply Kd.R_drew)); exact HO_6.out))) (below_size (by repeat (first | (with_reducible first | exact HB.out | apply below_alloc | apply pw_below_drewN | apply below_drew1 | refine below_set ?_ GE533.out) | exact HB.out)))); have n3_ := Aside0.mk (blk_below (g := gb533) (o := .cells #[.bool a0_0, .slice A0_1 l0_1.length c0_1] 37 (0, 0)) (by (with_reducible repeat (first | refine blk_drewN ?_ _ | refine blk_drew ?_ | refine blk_alloc ?_ _)); exact BK533.out) hb); have n4_ := Aside0.mk (below_step (by repeat (first | (with_reducible first | exact HB.out | apply below_alloc | apply pw_below_drewN | apply below_drew1 | refine below_set ?_ GE533.out) | exact HB.out)) hb); clear HO_5; clear HO_6; clear BK533; clear HB; have HO_5 := n0_; have HO_6 := n1_; have HO548 := n2_; have BK533 := n3_; have HB := n4_; clear n0_ n1_ n2_ n3_ n4_; (try clear hb); (try clear hb2); (try clear hk); (try clear hi); (try clear ho0); have p29 : 0 ≤ (x7_2 : Int) := of_decide_eq_true (by first | (with_reducible assumption) | assumption); have q29 : x7_2 < (36 : Int) := of_decide_eq_true (by first | (with_reducible assumption) | assumption); have hx29 := bt_at (⟨#[48, 49, 50, 51, 52, 53, 54, 55, 56, 57, 97, 98, 99, 100, 101, 102, 103, 104, 105, 106, 107, 108, 109, 110, 111, 112, 113, 114, 115, 116, 117, 118, 119, 120, 121, 122]⟩ : ByteArray) x7_2; replace p29 := eq_true p29; replace q29 := eq_true q29) | ((with_reducible refine gate_builtin (b := .append) (xs := #[.tmp 47, .tmp 50]) rfl ?_); at_builtin; refine Kd.R_append (Kd.int .u8) (w0 := w) w.heap.size rfl (.tmp 47) (.tmp 50) 35 5 (.int .u8 0) 1 rfl Tryz.underlying35 info5 rfl (by decide) (by omega) u5 x5_1 (bt (⟨#[48, 49, 50, 51, 52, 53, 54, 55, 56, 57, 97, 98, 99, 100, 101, 102, 103, 104, 105, 106, 107, 108, 109, 110, 111, 112, 113, 114, 115, 116, 117, 118, 119, 120, 121, 122]⟩ : ByteArray) x7_2) [.int .u8 (bt (⟨#[48, 49, 50, 51, 52, 53, 54, 55, 56, 57, 97, 98, 99, 100, 101, 102, 103, 104, 105, 106, 107, 108, 109, 110, 111, 112, 113, 114, 115, 116, 117, 118, 119, 120, 121, 122]⟩ : ByteArray) x7_2)] (fun k_ => some k_ ≠ (.slice Ao19 x6_2.length co19 : Value).ownBlock ∧ some k_ ≠ (v547 : Value).ownBlock) (fun _ => False) rfl rfl ?aP (fun _ hk => hk.elim) ?aF ?aO ?aB ?aS ?aL ?_; (case aP => exact rfl); (case aB => exact (by repeat (first | (with_reducible first | exact HB.out | apply below_alloc | apply pw_below_drewN | apply below_drew1 | refine below_set ?_ GE533.out) | exact HB.out))); (case aF => exact (fun k_ hk => ⟨Kd.fresh' (Kd.R_lt (by (with_reducible repeat (first | apply Kd.R_alloc | apply Kd.R_drewN | apply Kd.R_drew)); exact HO_6.out)) k_ hk, Kd.fresh' (Kd.R_lt (by (with_reducible repeat (first | apply Kd.R_alloc | apply Kd.R_drewN | apply Kd.R_drew)); exact HO548.out)) k_ hk⟩)); (case aO => exact (by (with_reducible repeat (first | apply Kd.R_alloc | apply Kd.R_drewN | apply Kd.R_drew)); exact HO_5.out)); (case aS => exact (below_size (by repeat (first | (with_reducible first | exact HB.out | apply below_alloc | apply pw_below_drewN | apply below_drew1 | refine below_set ?_ GE533.out) | exact HB.out)))); (case aL => have := LMc30.out; omega); intro v550 w32 ho hb hg hat; rw [← Ny549.out] at ho; have n0_ := Aside0.mk (Kd.R_after (ok := (fun k_ => some k_ ≠ (v547 : Value).ownBlock)) (by (with_reducible repeat (first | apply Kd.R_alloc | apply Kd.R_drewN | apply Kd.R_drew)); exact Kd.R_mono HO_6.out (fun _ hk => ⟨hk.2, hk.1⟩)) hg hat); have n1_ := Aside0.mk (blk_grown (g := gb533) (o := .cells #[.bool a0_0, .slice A0_1 l0_1.length c0_1] 37 (0, 0)) (by (with_reducible repeat (first | refine blk_drewN ?_ _ | refine blk_drew ?_ | refine blk_alloc ?_ _)); exact BK533.out) hg (Kd.R_ne HO_5.out BK533.out (by decide))); have n2_ := Aside0.mk (Kd.R_after (ok := (fun k_ => some k_ ≠ (.slice Ao19 x6_2.length co19 : Value).ownBlock)) (by (with_reducible repeat (first | apply Kd.R_alloc | apply Kd.R_drewN | apply Kd.R_drew)); exact Kd.R_mono HO548.out (fun _ hk => ⟨hk.2, hk.1.2⟩)) hg hat); have n3_ := Aside0.mk (hb); have n4_ := Aside0.mk (ho); clear HO_6; clear BK533; clear HO548; clear HB; clear HO_5; have HO_6 := n0_; have BK533 := n1_; have HO548 := n2_; have HB := n3_; have HO551 := n4_; clear n0_ n1_ n2_ n3_ n4_; clear ho hb hg hat))
                        (try simp only [← hl6_2])
                        go_roundg k2
                        case measure => have := HK1.out; have := HK2.out; omega
                        case rel => exact ⟨(y549), (t546), H', ⟨by have := HK1.out; have := HK2.out; omega⟩, ⟨by (try simp only [hl6_2]); (with_reducible repeat (first | apply Kd.R_alloc | apply Kd.R_drewN | apply Kd.R_drew)); exact Kd.R_mono HO551.out (fun _ hk => hk.2)⟩, ⟨by (try simp only [hl6_2]); (with_reducible repeat (first | apply Kd.R_alloc | apply Kd.R_drewN | apply Kd.R_drew)); exact Kd.R_mono HO548.out (fun _ hk => hk.2)⟩, ⟨by (try simp only [hl6_2]); (with_reducible repeat (first | refine blk_drewN ?_ _ | refine blk_drew ?_ | refine blk_alloc ?_ _)); exact BK533.out⟩, ⟨by repeat (first | (with_reducible first | exact HB.out | apply below_alloc | apply pw_below_drewN | apply below_drew1 | refine below_set ?_ GE533.out) | exact HB.out)⟩⟩
                      · rw [if_neg c30] at H
                        exact absurd H (by simp)
                    · rw [if_neg c28] at H
                      exact absurd H (by simp)
                  · rw [if_neg c27] at H
                    exact absurd H (by simp)
          · rw [if_neg c18] at H
            have c18b0 : decide (0 < (x6_1.length : Int)) = false := decide_eq_false c18
            have c18b1 : decide (0 < x6_1.length) = false := decide_eq_false (by omega)
            clear c18
            have HC33 := Aside0.mk H
            clear H
            obtain ⟨Ao34, co34, eo34⟩ := Kd.R_slice HO_6.out
            subst eo34
            have hcz35_0 : wr.cell? ⟨gb533, 0, none⟩ = some (.bool a0_0) := (blk_cell BK533.out 0).trans rfl
            have hcz35_1 : wr.cell? ⟨gb533, 1, none⟩ = some (.slice A0_1 l0_1.length c0_1) := (blk_cell BK533.out 1).trans rfl
            have hfz35_0 := blk_frozen BK533.out 0
            have hfz35_1 := blk_frozen BK533.out 1
            go_upto_if 53 with (fail)
            go_cut [5] (fun v5 wc => ∃ (kq : Nat) (x5_32 : List Int), Aside0 (spec_Int_Base.j2 kq x5_32 = some r) ∧ Aside0 (kq ≤ k1) ∧ Aside0 (Kd.R (Kd.int .u8) 5 wc w.heap.size (fun _ => True) v5 x5_32) ∧ Aside0 (wc.heap[gb533]? = some (.cells #[.bool a0_0, (.slice A0_1 l0_1.length c0_1)] 37 (0, 0))) ∧ Aside0 (Below w.heap.size w wc))
            case first =>
              have H := HC33.out
              clear HC33
              by_cases c36 : a0_0 = true
              · subst c36
                have H1 : (if x5_1.length < 140737488355328 then (spec_Int_Base.j2 k1 (x5_1 ++ [45])) else (none)) = some r := by rw [if_pos rfl] at H; exact H
                clear H
                have H := H1
                clear H1
                by_cases c37 : x5_1.length < 140737488355328
                · rw [if_pos c37] at H
                  have LMc37 := Aside0.mk c37
                  clear c37
                  obtain ⟨y552, hy552⟩ : ∃ y_ : List Int, y_ = (x5_1 ++ [45]) := ⟨_, rfl⟩
                  replace H : (spec_Int_Base.j2 k1 y552) = some r := by first | (rw [hy552]; with_reducible exact H) | (have H2_ := (Option.bind_some _ _).symm.trans H; rw [hy552]; with_reducible exact H2_) | (have H2_ := (Option.bind_some _ _).symm.trans H; with_reducible exact H2_) | with_reducible exact H | (rw [hy552]; exact H) | exact H
                  have Ny552 := Aside0.mk hy552
                  clear hy552
                  have H' := Aside0.mk H
                  clear H
                  go_wp2_with (first | ((with_reducible refine gate_builtin (b := .append) (xs := #[.tmp 54, .tmp 55]) rfl ?_); at_builtin; refine Kd.R_append (Kd.int .u8) (w0 := w) w.heap.size rfl (.tmp 54) (.tmp 55) 35 5 (.int .u8 0) 1 rfl Tryz.underlying35 info5 rfl (by decide) (by omega) u5 x5_1 45 [.int .u8 45] (fun k_ => some k_ ≠ (.slice Ao34 x6_1.length co34 : Value).ownBlock) (fun _ => False) rfl rfl ?aP (fun _ hk => hk.elim) ?aF ?aO ?aB ?aS ?aL ?_; (case aP => exact rfl); (case aB => exact (by repeat (first | (with_reducible first | exact HB.out | apply below_alloc | apply pw_below_drewN | apply below_drew1 | refine below_set ?_ GE533.out) | exact HB.out))); (case aF => exact (fun k_ hk => Kd.fresh' (Kd.R_lt (by (with_reducible repeat (first | apply Kd.R_alloc | apply Kd.R_drewN | apply Kd.R_drew)); exact HO_6.out)) k_ hk)); (case aO => exact (by (with_reducible repeat (first | apply Kd.R_alloc | apply Kd.R_drewN | apply Kd.R_drew)); exact HO_5.out)); (case aS => exact (below_size (by repeat (first | (with_reducible first | exact HB.out | apply below_alloc | apply pw_below_drewN | apply below_drew1 | refine below_set ?_ GE533.out) | exact HB.out)))); (case aL => have := LMc37.out; omega); intro v553 w38 ho hb hg hat; rw [← Ny552.out] at ho; have n0_ := Aside0.mk (Kd.R_after (ok := (fun _ => True)) (by (with_reducible repeat (first | apply Kd.R_alloc | apply Kd.R_drewN | apply Kd.R_drew)); exact Kd.R_mono HO_6.out (fun _ hk => ⟨trivial, hk⟩)) hg hat); have n1_ := Aside0.mk (blk_grown (g := gb533) (o := .cells #[.bool true, .slice A0_1 l0_1.length c0_1] 37 (0, 0)) (by (with_reducible repeat (first | refine blk_drewN ?_ _ | refine blk_drew ?_ | refine blk_alloc ?_ _)); exact BK533.out) hg (Kd.R_ne HO_5.out BK533.out (by decide))); have n2_ := Aside0.mk (hb); have n3_ := Aside0.mk (ho); clear HO_6; clear BK533; clear HB; clear HO_5; have HO_6 := n0_; have BK533 := n1_; have HB := n2_; have HO554 := n3_; clear n0_ n1_ n2_ n3_; clear ho hb hg hat))
                  go_meet
                  case rel => exact ⟨_, (y552), H', ⟨by have := HK1.out; first | omega | exact Nat.le_refl _⟩, ⟨by (with_reducible repeat (first | apply Kd.R_alloc | apply Kd.R_drewN | apply Kd.R_drew)); exact Kd.R_mono HO554.out (fun _ hk => trivial)⟩, ⟨by (with_reducible repeat (first | refine blk_drewN ?_ _ | refine blk_drew ?_ | refine blk_alloc ?_ _)); exact BK533.out⟩, ⟨by repeat (first | (with_reducible first | exact HB.out | apply below_alloc | apply pw_below_drewN | apply below_drew1 | refine below_set ?_ GE533.out) | exact HB.out)⟩⟩
                · rw [if_neg c37] at H
                  exact absurd H (by simp)
              · replace c36 := Bool.eq_false_iff.mpr c36
                subst c36
                have H1 : (spec_Int_Base.j2 k1 x5_1) = some r := by rw [if_neg (show ¬ (false = true) by decide)] at H; exact H
                clear H
                have H := H1
                clear H1
                have H' := Aside0.mk H
                clear H
                go_wp2
                go_meet
                case rel => exact ⟨_, (x5_1), H', ⟨by have := HK1.out; first | omega | exact Nat.le_refl _⟩, ⟨by (with_reducible repeat (first | apply Kd.R_alloc | apply Kd.R_drewN | apply Kd.R_drew)); exact Kd.R_mono HO_5.out (fun _ hk => trivial)⟩, ⟨by (with_reducible repeat (first | refine blk_drewN ?_ _ | refine blk_drew ?_ | refine blk_alloc ?_ _)); exact BK533.out⟩, ⟨by repeat (first | (with_reducible first | exact HB.out | apply below_alloc | apply pw_below_drewN | apply below_drew1 | refine below_set ?_ GE533.out) | exact HB.out)⟩⟩
            case rest =>
              clear HC33
              try clear c1
              try clear c2
              try clear p2
              try clear q2
              try clear hx2
              try clear hf2
              try clear c3
              try clear c4
              try clear p5
              try clear q5
              try clear hx5
              try clear p6
              try clear c8
              try clear c18
              try clear c18b0
              try clear c18b1
              try clear c20
              try clear c20b0
              try clear c21
              try clear c21b0
              try clear c22
              try clear c22b0
              try clear c22b1
              try clear p23
              try clear q23
              try clear hx23
              try clear hf23
              try clear c27
              try clear c27b0
              try clear c28
              try clear c28b0
              try clear p29
              try clear q29
              try clear hx29
              try clear c30
              try clear c35
              try clear c36
              try clear c37
              try clear hcz10_0
              try clear hcz10_1
              try clear hcz16_0
              try clear hcz16_1
              try clear hcz35_0
              try clear hcz35_1
              try clear hcz6_0
              try clear hcz6_1
              try clear hfz10_0
              try clear hfz10_1
              try clear hfz16_0
              try clear hfz16_1
              try clear hfz35_0
              try clear hfz35_1
              try clear hfz6_0
              try clear hfz6_1
              try clear hx23_0
              try clear hx544_0
              try clear p2
              try clear p23
              try clear p29
              try clear p544
              try clear q23
              try clear q29
              try clear q544
              obtain ⟨kq, x5_32, HA, HJ32, HO_5, BK533, HB⟩ := hcut
              cases kq with
              | zero => exact absurd HA.out (by simp [spec_Int_Base.j2])
              | succ kj32 =>
                have H := HA.out
                clear HA
                simp only [spec_Int_Base.j2] at H
                have H' := Aside0.mk H
                clear H
                obtain ⟨Ao39, co39, eo39⟩ := Kd.R_slice HO_5.out
                subst eo39
                go_wp2
                go_loopg [9, 10] kj32 (fun kq v9 v10 w' => ∃ (x5_3 : List Int) (x9_3 : Int) (x10_3 : Int), v9 = .int .i64 x9_3 ∧ v10 = .int .i64 x10_3 ∧ Aside0 (spec_Int_Base.l2 kq x5_3 x9_3 x10_3 = some r) ∧ Aside0 (kq ≤ kj32) ∧ Aside0 (Kd.R (Kd.int .u8) 5 w' w.heap.size (fun _ => True) (.slice Ao39 x5_32.length co39) x5_3) ∧ Aside0 (w'.heap[gb533]? = some (.cells #[.bool a0_0, (.slice A0_1 l0_1.length c0_1)] 37 (0, 0))) ∧ Aside0 (Below w.heap.size w w'))
                case atStart => exact ⟨(x5_32), (0), (wrap64 ((x5_32.length : Int) - 1)), (by first | rfl | (simp; done) | (simp [*]; done)), (by first | rfl | (simp; done) | (simp [*]; done)), H', ⟨Nat.le_refl _⟩, ⟨by (with_reducible repeat (first | apply Kd.R_alloc | apply Kd.R_drewN | apply Kd.R_drew)); exact HO_5.out⟩, ⟨by (with_reducible repeat (first | refine blk_drewN ?_ _ | refine blk_drew ?_ | refine blk_alloc ?_ _)); exact BK533.out⟩, ⟨by repeat (first | (with_reducible first | exact HB.out | apply below_alloc | apply pw_below_drewN | apply below_drew1 | refine below_set ?_ GE533.out) | exact HB.out)⟩⟩
                case round =>
                  clear H'
                  try clear c1
                  try clear c2
                  try clear p2
                  try clear q2
                  try clear hx2
                  try clear hf2
                  try clear c3
                  try clear c4
                  try clear p5
                  try clear q5
                  try clear hx5
                  try clear p6
                  try clear c8
                  try clear c18
                  try clear c18b0
                  try clear c18b1
                  try clear c20
                  try clear c20b0
                  try clear c21
                  try clear c21b0
                  try clear c22
                  try clear c22b0
                  try clear c22b1
                  try clear p23
                  try clear q23
                  try clear hx23
                  try clear hf23
                  try clear c27
                  try clear c27b0
                  try clear c28
                  try clear c28b0
                  try clear p29
                  try clear q29
                  try clear hx29
                  try clear c30
                  try clear c35
                  try clear c36
                  try clear c37
                  try clear hcz10_0
                  try clear hcz10_1
                  try clear hcz16_0
                  try clear hcz16_1
                  try clear hcz35_0
                  try clear hcz35_1
                  try clear hcz6_0
                  try clear hcz6_1
                  try clear hfz10_0
                  try clear hfz10_1
                  try clear hfz16_0
                  try clear hfz16_1
                  try clear hfz35_0
                  try clear hfz35_1
                  try clear hfz6_0
                  try clear hfz6_1
                  try clear hx23_0
                  try clear hx544_0
                  try clear p2
                  try clear p23
                  try clear p29
                  try clear p5
                  try clear p544
                  try clear p6
                  try clear q2
                  try clear q23
                  try clear q29
                  try clear q5
                  try clear q544
                  obtain ⟨x5_3, x9_3, x10_3, rfl, rfl, HA, HK3, HO_5, BK533, HB⟩ := hrel
                  have hl5_3 := (Kd.R_reads' HO_5.out).1
                  rw [hl5_3] at HO_5
                  (try simp only [hl5_3])
                  (try simp only [hl5_3] at BK533)
                  cases gk with
                  | zero => exact absurd HA.out (by simp [spec_Int_Base.l2])
                  | succ k3 =>
                    have H := HA.out
                    clear HA
                    simp only [spec_Int_Base.l2] at H
                    by_cases c40 : x9_3 < x10_3
                    · rw [if_pos c40] at H
                      have c40b0 : decide (x9_3 < x10_3) = true := decide_eq_true c40
                      clear c40
                      by_cases c41 : 0 ≤ x10_3
                      · rw [if_pos c41] at H
                        have c41b0 : decide (0 ≤ x10_3) = true := decide_eq_true c41
                        clear c41
                        by_cases c42 : x10_3 < (x5_3.length : Int)
                        · rw [if_pos c42] at H
                          have c42b0 : decide (x10_3 < (x5_3.length : Int)) = true := decide_eq_true c42
                          clear c42
                          by_cases c43 : 0 ≤ x9_3
                          · rw [if_pos c43] at H
                            have c43b0 : decide (0 ≤ x9_3) = true := decide_eq_true c43
                            clear c43
                            by_cases c44 : x9_3 < (x5_3.length : Int)
                            · rw [if_pos c44] at H
                              have c44b0 : decide (x9_3 < (x5_3.length : Int)) = true := decide_eq_true c44
                              clear c44
                              obtain ⟨y557, hy557⟩ : ∃ y_ : List Int, y_ = (x5_3.set (x9_3 : Int).toNat (rd x5_3 x10_3)) := ⟨_, rfl⟩
                              replace H : (spec_Int_Base.l2 k3 (y557.set (x10_3 : Int).toNat (rd x5_3 x9_3)) (wrap64 (x9_3 + 1)) (wrap64 (x10_3 - 1))) = some r := by first | (rw [hy557]; with_reducible exact H) | (have H2_ := (Option.bind_some _ _).symm.trans H; rw [hy557]; with_reducible exact H2_) | (have H2_ := (Option.bind_some _ _).symm.trans H; with_reducible exact H2_) | with_reducible exact H | (rw [hy557]; exact H) | exact H
                              have Ny557 := Aside0.mk hy557
                              clear hy557
                              obtain ⟨y558, hy558⟩ : ∃ y_ : List Int, y_ = (y557.set (x10_3 : Int).toNat (rd x5_3 x9_3)) := ⟨_, rfl⟩
                              replace H : (spec_Int_Base.l2 k3 y558 (wrap64 (x9_3 + 1)) (wrap64 (x10_3 - 1))) = some r := by first | (rw [hy558]; with_reducible exact H) | (have H2_ := (Option.bind_some _ _).symm.trans H; rw [hy558]; with_reducible exact H2_) | (have H2_ := (Option.bind_some _ _).symm.trans H; with_reducible exact H2_) | with_reducible exact H | (rw [hy558]; exact H) | exact H
                              have Ny558 := Aside0.mk hy558
                              clear hy558
                              have H' := Aside0.mk H
                              clear H
                              try go_wp2
                              have n0_ := Aside0.mk (Kd.R_drew HO_5.out)
                              have n1_ := Aside0.mk (blk_drew BK533.out)
                              have n2_ := Aside0.mk (below_drew1 HB.out)
                              clear HO_5
                              clear BK533
                              clear HB
                              have HO_5 := n0_
                              have BK533 := n1_
                              have HB := n2_
                              clear n0_ n1_ n2_
                              have p555 : 0 ≤ (x10_3 : Int) := of_decide_eq_true (by first | (with_reducible assumption) | assumption)
                              have q555 : x10_3 < (x5_3.length : Int) := of_decide_eq_true (by first | (with_reducible assumption) | assumption)
                              obtain ⟨ad555, e555, hx555_0⟩ := Kd.at_int (Kd.R_reads' HO_5.out).2.2 x10_3 p555 q555
                              cases e555
                              replace p555 := eq_true p555
                              replace q555 := eq_true q555
                              have p556 : 0 ≤ (x9_3 : Int) := of_decide_eq_true (by first | (with_reducible assumption) | assumption)
                              have q556 : x9_3 < (x5_3.length : Int) := of_decide_eq_true (by first | (with_reducible assumption) | assumption)
                              obtain ⟨ad556, e556, hx556_0⟩ := Kd.at_int (Kd.R_reads' HO_5.out).2.2 x9_3 p556 q556
                              obtain rfl : ad555 = ad556 := (by injection e556)
                              replace p556 := eq_true p556
                              replace q556 := eq_true q556
                              have p45 : 0 ≤ (x9_3 : Int) := of_decide_eq_true (by first | (with_reducible assumption) | assumption)
                              have q45 : (x9_3 : Int) < ((x5_3.length : Int) : Int) := of_decide_eq_true (by first | (with_reducible assumption) | assumption)
                              obtain ⟨go45, co45, eo45, gb45, gl45, cl45, HG45⟩ := Kd.R_form HO_5.out (by omega)
                              (first | cases eo45 | (injection eo45 with ea_ en_ ec_; (first | subst ea_ | (injection ea_ with ea_; subst ea_)); subst ec_; clear en_))
                              have GB45 := Aside0.mk gb45
                              have GG45 := Aside0.mk HG45
                              clear gb45 gl45 HG45
                              (first | simp only [add_plain] at hx555_0 | skip)
                              (first | simp only [add_plain] at hx556_0 | skip)
                              obtain ⟨hx45_0, hf45_0⟩ := Kd.R_celln 0 HO_5.out (x9_3 : Int) p45 q45
                              replace p45 := eq_true p45
                              replace q45 := eq_true q45
                              have HP48 := Kd.R_putn HO_5.out (x9_3 : Int) (rd x5_3 x10_3)
                              rw [← Ny557.out] at HP48
                              have HQ48 := Aside0.mk HP48
                              clear HP48
                              have p46 : 0 ≤ (x10_3 : Int) := of_decide_eq_true (by first | (with_reducible assumption) | assumption)
                              have q46 : (x10_3 : Int) < ((x5_3.length : Int) : Int) := of_decide_eq_true (by first | (with_reducible assumption) | assumption)
                              obtain ⟨hx46_0, hf46_0⟩ := Kd.R_celln 0 HQ48.out (x10_3 : Int) p46 q46
                              replace p46 := eq_true p46
                              replace q46 := eq_true q46
                              have HP49 := Kd.R_putn HQ48.out (x10_3 : Int) (rd x5_3 x9_3)
                              rw [← Ny558.out] at HP49
                              have HQ49 := Aside0.mk HP49
                              clear HP49
                              refine start_ (n := 16) (S := fun w' => w'.cell? ⟨go45, (x10_3).toNat, none⟩ = some (.int .u8 (rd x5_3 x10_3)) ∧ w'.cell? ⟨go45, (x9_3).toNat, none⟩ = some (.int .u8 (rd x5_3 x9_3))) (ds := [13, 15]) #[false, false, false, false, false, false, false, false, false, false, false, false, false, false, false, false] (by kernel_rfl) rfl rfl ⟨hx555_0, hx556_0⟩ (fun hHeld => ?_); refine with_tabW spec_Int_Base.tab20 spec_Int_Base.bits20 (fun HT_ HW_ => ?_)
                              generalize wr.drew = w47 at HO_5 BK533 HB GG45 HQ48 HQ49 hf45_0 hf46_0 hx45_0 hx46_0 hx555_0 hx556_0 hHeld ⊢
                              refine pure_ (i := 0) (N := some 67) (v := ?_) (a' := ?_) #[true, false, false, false, false, false, false, false, false, false, false, false, false, false, false, false] rfl rfl (any_of HT_.out (by kernel_rfl)) (fun _ _ _ h => h) (Or.inl ⟨by rfl, ?_⟩) ?_ ?_
                              rotate_left
                              · intro w'
                                go_simp
                                with_reducible rfl
                              rotate_left
                              · simp only [Act.put, List.setIfInBounds_toArray, List.set_cons_zero, List.set_cons_succ, i64_w, i32_w]
                                rfl
                              refine pure_ (i := 1) (N := some 68) (v := ?_) (a' := ?_) #[true, true, false, false, false, false, false, false, false, false, false, false, false, false, false, false] rfl rfl (any_of HT_.out (by kernel_rfl)) (fun _ _ _ h => h) (Or.inl ⟨by rfl, ?_⟩) ?_ ?_
                              rotate_left
                              · intro w'
                                go_simp
                                with_reducible rfl
                              rotate_left
                              · simp only [Act.put, List.setIfInBounds_toArray, List.set_cons_zero, List.set_cons_succ, i64_w, i32_w]
                                rfl
                              refine pure_ (i := 2) (N := some 69) (v := ?_) (a' := ?_) #[true, true, true, false, false, false, false, false, false, false, false, false, false, false, false, false] rfl rfl (any_of HT_.out (by kernel_rfl)) (fun _ _ _ h => h) (Or.inl ⟨by rfl, ?_⟩) ?_ ?_
                              rotate_left
                              · intro w'
                                go_simp
                                with_reducible rfl
                              rotate_left
                              · simp only [Act.put, List.setIfInBounds_toArray, List.set_cons_zero, List.set_cons_succ, i64_w, i32_w]
                                rfl
                              refine pure_ (i := 3) (N := some 70) (v := ?_) (a' := ?_) #[true, true, true, true, false, false, false, false, false, false, false, false, false, false, false, false] rfl rfl (any_of HT_.out (by kernel_rfl)) (fun _ _ _ h => h) (Or.inl ⟨by rfl, ?_⟩) ?_ ?_
                              rotate_left
                              · intro w'
                                go_simp
                                with_reducible rfl
                              rotate_left
                              · simp only [Act.put, List.setIfInBounds_toArray, List.set_cons_zero, List.set_cons_succ, i64_w, i32_w]
                                rfl
                              refine pure_ (i := 4) (N := some 71) (v := ?_) (a' := ?_) #[true, true, true, true, true, false, false, false, false, false, false, false, false, false, false, false] rfl rfl (any_of HT_.out (by kernel_rfl)) (fun _ _ _ h => h) (Or.inl ⟨by rfl, ?_⟩) ?_ ?_
                              rotate_left
                              · intro w'
                                go_simp
                                with_reducible rfl
                              rotate_left
                              · simp only [Act.put, List.setIfInBounds_toArray, List.set_cons_zero, List.set_cons_succ, i64_w, i32_w]
                                rfl
                              refine pure_ (i := 5) (N := some 72) (v := ?_) (a' := ?_) #[true, true, true, true, true, true, false, false, false, false, false, false, false, false, false, false] rfl rfl (any_of HT_.out (by kernel_rfl)) (fun _ _ _ h => h) (Or.inl ⟨by rfl, ?_⟩) ?_ ?_
                              rotate_left
                              · intro w'
                                go_simp
                                with_reducible rfl
                              rotate_left
                              · simp only [Act.put, List.setIfInBounds_toArray, List.set_cons_zero, List.set_cons_succ, i64_w, i32_w]
                                rfl
                              refine pure_ (i := 6) (N := some 73) (v := ?_) (a' := ?_) #[true, true, true, true, true, true, true, false, false, false, false, false, false, false, false, false] rfl rfl (any_of HT_.out (by kernel_rfl)) (fun _ _ _ h => h) (Or.inl ⟨by rfl, ?_⟩) ?_ ?_
                              rotate_left
                              · intro w'
                                go_simp
                                with_reducible rfl
                              rotate_left
                              · simp only [Act.put, List.setIfInBounds_toArray, List.set_cons_zero, List.set_cons_succ, i64_w, i32_w]
                                rfl
                              refine pure_ (i := 8) (N := some 75) (v := ?_) (a' := ?_) #[true, true, true, true, true, true, true, false, true, false, false, false, false, false, false, false] rfl rfl (any_of HT_.out (by kernel_rfl)) (fun _ _ _ h => h) (Or.inl ⟨by rfl, ?_⟩) ?_ ?_
                              rotate_left
                              · intro w'
                                go_simp
                                with_reducible rfl
                              rotate_left
                              · simp only [Act.put, List.setIfInBounds_toArray, List.set_cons_zero, List.set_cons_succ, i64_w, i32_w]
                                rfl
                              refine pure_ (i := 9) (N := some 76) (v := ?_) (a' := ?_) #[true, true, true, true, true, true, true, false, true, true, false, false, false, false, false, false] rfl rfl (any_of HT_.out (by kernel_rfl)) (fun _ _ _ h => h) (Or.inl ⟨by rfl, ?_⟩) ?_ ?_
                              rotate_left
                              · intro w'
                                go_simp
                                with_reducible rfl
                              rotate_left
                              · simp only [Act.put, List.setIfInBounds_toArray, List.set_cons_zero, List.set_cons_succ, i64_w, i32_w]
                                rfl
                              refine pure_ (i := 10) (N := some 77) (v := ?_) (a' := ?_) #[true, true, true, true, true, true, true, false, true, true, true, false, false, false, false, false] rfl rfl (any_of HT_.out (by kernel_rfl)) (fun _ _ _ h => h) (Or.inl ⟨by rfl, ?_⟩) ?_ ?_
                              rotate_left
                              · intro w'
                                go_simp
                                with_reducible rfl
                              rotate_left
                              · simp only [Act.put, List.setIfInBounds_toArray, List.set_cons_zero, List.set_cons_succ, i64_w, i32_w]
                                rfl
                              refine take_ (i := 7) (N := some 74) (v := ?_) (a' := ?_) #[true, true, true, true, true, true, true, true, true, true, true, false, false, false, false, false] rfl rfl (take_ofW HT_.out HW_.out (by kernel_rfl)) (fun _ _ _ h => h) (Or.inl ⟨by rfl, ?_⟩) hHeld ?_ ?_
                              rotate_left
                              · rintro w' ⟨s0, s1⟩
                                go_simp
                                with_reducible rfl
                              rotate_left
                              · simp only [Act.put, List.setIfInBounds_toArray, List.set_cons_zero, List.set_cons_succ, i64_w, i32_w]
                                rfl
                              refine take_ (i := 11) (N := some 78) (v := ?_) (a' := ?_) #[true, true, true, true, true, true, true, true, true, true, true, true, false, false, false, false] rfl rfl (take_ofW HT_.out HW_.out (by kernel_rfl)) (fun _ _ _ h => h) (Or.inl ⟨by rfl, ?_⟩) hHeld ?_ ?_
                              rotate_left
                              · rintro w' ⟨s0, s1⟩
                                go_simp
                                with_reducible rfl
                              rotate_left
                              · simp only [Act.put, List.setIfInBounds_toArray, List.set_cons_zero, List.set_cons_succ, i64_w, i32_w]
                                rfl
                              refine pure_ (i := 12) (N := some 79) (v := ?_) (a' := ?_) #[true, true, true, true, true, true, true, true, true, true, true, true, true, false, false, false] rfl rfl (any_of HT_.out (by kernel_rfl)) (fun _ _ _ h => h) (Or.inl ⟨by rfl, ?_⟩) ?_ ?_
                              rotate_left
                              · intro w'
                                go_simp
                                with_reducible rfl
                              rotate_left
                              · simp only [Act.put, List.setIfInBounds_toArray, List.set_cons_zero, List.set_cons_succ, i64_w, i32_w]
                                rfl
                              refine last_ (i := 13) (N := none) #[true, true, true, true, true, true, true, true, true, true, true, true, true, true, false, false] rfl rfl (one_of HT_.out (by kernel_rfl)) (by decide) (fun K hK => ?_)
                              refine skip_ (w1 := ?_) (by rfl) rfl ?_ ?_
                              rotate_left
                              · go_simp
                                rfl
                              refine hK.out _ _ ?_
                              clear hK K
                              refine pure_ (i := 14) (N := some 80) (v := ?_) (a' := ?_) #[true, true, true, true, true, true, true, true, true, true, true, true, true, true, true, false] rfl rfl (any_of HT_.out (by kernel_rfl)) (fun _ _ _ h => h) (Or.inl ⟨by rfl, ?_⟩) ?_ ?_
                              rotate_left
                              · intro w'
                                go_simp
                                with_reducible rfl
                              rotate_left
                              · simp only [Act.put, List.setIfInBounds_toArray, List.set_cons_zero, List.set_cons_succ, i64_w, i32_w]
                                rfl
                              refine last_ (i := 15) (N := none) #[true, true, true, true, true, true, true, true, true, true, true, true, true, true, true, true] rfl rfl (one_of HT_.out (by kernel_rfl)) (by decide) (fun K hK => ?_)
                              refine skip_ (w1 := ?_) (by rfl) rfl ?_ ?_
                              rotate_left
                              · go_simp
                                rfl
                              refine hK.out _ _ ?_
                              clear hK K
                              refine done_ (done_of HT_.out (by kernel_rfl)) ?_
                              try go_wp2
                              (try simp only [← hl5_3])
                              go_roundg k3
                              case measure => have := HK1.out; have := HJ32.out; have := HK3.out; omega
                              case rel => exact ⟨(y558), (wrap64 (x9_3 + 1)), (wrap64 (x10_3 - 1)), (by first | rfl | (simp; done) | (simp [*]; done)), (by first | rfl | (simp; done) | (simp [*]; done)), H', ⟨by have := HK1.out; have := HJ32.out; have := HK3.out; omega⟩, ⟨by (try simp only [hl5_3]); (with_reducible repeat (first | apply Kd.R_alloc | apply Kd.R_drewN | apply Kd.R_drew)); exact HQ49.out⟩, ⟨by (try simp only [hl5_3]); (with_reducible repeat (first | refine blk_drewN ?_ _ | refine blk_drew ?_ | refine blk_alloc ?_ _)); refine blk_far ?_ (by have h_ := Kd.R_ne HO_5.out BK533.out (by decide); intro e_; exact h_ (by rw [e_]; rfl)) _; (with_reducible repeat (first | refine blk_drewN ?_ _ | refine blk_drew ?_ | refine blk_alloc ?_ _)); refine blk_far ?_ (by have h_ := Kd.R_ne HO_5.out BK533.out (by decide); intro e_; exact h_ (by rw [e_]; rfl)) _; (with_reducible repeat (first | refine blk_drewN ?_ _ | refine blk_drew ?_ | refine blk_alloc ?_ _)); exact BK533.out⟩, ⟨by repeat (first | (with_reducible first | exact HB.out | apply below_alloc | apply pw_below_drewN | apply below_drew1 | refine below_set ?_ GB45.out | refine below_set ?_ GB45.out | refine below_set ?_ GE533.out) | exact HB.out)⟩⟩
                            · rw [if_neg c44] at H
                              exact absurd H (by simp)
                          · rw [if_neg c43] at H
                            exact absurd H (by simp)
                        · rw [if_neg c42] at H
                          exact absurd H (by simp)
                      · rw [if_neg c41] at H
                        exact absurd H (by simp)
                    · rw [if_neg c40] at H
                      have c40b0 : decide (x9_3 < x10_3) = false := decide_eq_false c40
                      clear c40
                      obtain rfl := Option.some.inj H
                      have hcv50 := own_string (P := Tryz.prog) Tryz.underlying35 Tryz.underlying5 Tryz.underlying9 (Kd.own_of_R HO_5.out)
                      go_wp2
                      go_ret
                      exact ⟨by first | rfl | (simp [errW_none, errW_some] <;> rfl) | (simp [*, errW_none, errW_some] <;> rfl), by repeat (first | (with_reducible first | exact HB.out | apply below_alloc | apply pw_below_drewN | apply below_drew1 | refine below_set ?_ GE533.out) | exact HB.out)⟩
    · rw [if_neg c8] at H
      exact absurd H (by simp)


/-! ### spec_Int_Text: function 15 -/
theorem spec_Int_Text.mono : ∀ a0 a1 k, LeO (spec_Int_Text.f k a0 a1) (spec_Int_Text.f (k + 1) a0 a1) := by
  intro a0 a1 k
  unfold spec_Int_Text.f
  repeat' first
      | (with_reducible exact spec_Int_Base.mono _ _ _ _)
      | (with_reducible exact LeO.refl _)
      | (with_reducible exact LeO.none _)
      | (with_reducible refine LeO.ite ?_ ?_)
      | (with_reducible refine LeO.bind ?_ (fun _ => ?_))
      | exact spec_Int_Base.mono _ _ _ _
      | exact LeO.none _
      | refine LeO.ite ?_ ?_
      | refine LeO.bind ?_ (fun _ => ?_)
set_option maxHeartbeats 8000000 in
set_option maxRecDepth 100000 in
theorem spec_Int_Text.calls (k : Nat) (a0_0 : Bool) (A0_1 : Option Addr) (c0_1 : Nat) (l0_1 : List Int) (r : ByteArray) (w : World) (hr0_1 : Kd.C (Kd.int .u8) w A0_1 l0_1.length l0_1) (hc0_1 : l0_1.length ≤ c0_1) (h : spec_Int_Text.f k a0_0 l0_1 = some r) :
    Calls Tryz.prog 15 #[.agg #[.bool a0_0, .slice A0_1 l0_1.length c0_1]] w fun e w' => e = .returned (.string r) ∧ Below w.heap.size w w' := by
  have hu37 := Tryz.underlying37
  have HR0_1 := Aside0.mk hr0_1
  have HC0_1 := Aside0.mk hc0_1
  clear hr0_1 hc0_1
  have HB := Aside0.mk (Below.refl w.heap.size w)
  have H : ((spec_Int_Base.f k a0_0 l0_1 10).bind fun t560 => (some t560)) = some r := h
  clear h
  replace H := Option.bind_eq_some_iff.mp H
  obtain ⟨t560, A20, H⟩ := H
  replace H : (some t560) = some r := H
  have A2 := Aside0.mk A20
  clear A20
  obtain rfl := Option.some.inj H
  go_enter Tryz.func15, Tryz.ntmps15
  go_wp2_with (first | ((with_reducible refine gate_dst (N := 1) rfl ?_); refine box_event ?hg (N := 1) ?hd (cs := #[.bool a0_0, .slice A0_1 l0_1.length c0_1]) (t := 37) ?hr ?_; (case hd => rfl); (case hg => rfl); (case hr => first | (go_simp; done) | (go_simp; rfl)); intro gb559 hg w3 hbox hb; have n0_ := Aside0.mk (below_step (by repeat (first | (with_reducible first | exact HB.out | apply below_alloc | apply pw_below_drewN | apply below_drew1) | exact HB.out)) hb); have n1_ := Aside0.mk (hbox); have n2_ := Aside0.mk ((by rw [hg]; exact (below_size (by repeat (first | (with_reducible first | exact HB.out | apply below_alloc | apply pw_below_drewN | apply below_drew1) | exact HB.out))) : w.heap.size ≤ gb559)); have n3_ := Aside0.mk ((by rw [hg]; exact (below_size (by repeat (first | (with_reducible first | exact HB.out | apply below_alloc | apply pw_below_drewN | apply below_drew1) | exact HB.out))) : w.heap.size ≤ gb559)); clear HB; have HB := n0_; have BK559 := n1_; have GW559 := n2_; have GE559 := n3_; clear n0_ n1_ n2_ n3_; clear hb hbox hg; have hcz4_0 : w3.cell? ⟨gb559, 0, none⟩ = some (.bool a0_0) := (blk_cell BK559.out 0).trans rfl; have hcz4_1 : w3.cell? ⟨gb559, 1, none⟩ = some (.slice A0_1 l0_1.length c0_1) := (blk_cell BK559.out 1).trans rfl; have hfz4_0 := blk_frozen BK559.out 0; have hfz4_1 := blk_frozen BK559.out 1) | ((with_reducible refine gate_callee (f := 30) rfl ?_); refine goesL_ (some 4) rfl rfl Tryz.func30 (by kernel_rfl) rfl #[.agg #[.bool a0_0, .slice A0_1 l0_1.length c0_1], .int .i64 10] rfl (by (try simp only [List.map_toArray, List.map_cons, List.map_nil]); first | done | rfl | (simp only [List.length_drop, List.length_take]; rfl)) ?_; (with_reducible refine (spec_Int_Base.calls k a0_0 _ _ l0_1 10 t560 _ ?side1 ?side2 A2.out).mono ?_); (case side1 => repeat (first | exact (Kd.C_below HR0_1.out HB.out) | (with_reducible refine Kd.C_alloc ?_ _) | (with_reducible refine Kd.C_drewN ?_ _) | (with_reducible refine Kd.C_drew ?_))); (case side2 => exact HC0_1.out); rintro e w5 ⟨rfl, hb⟩; refine ⟨_, rfl, ?_⟩; have n0_ := Aside0.mk (blk_below (g := gb559) (o := .cells #[.bool a0_0, .slice A0_1 l0_1.length c0_1] 37 (0, 0)) (by (with_reducible repeat (first | refine blk_drewN ?_ _ | refine blk_drew ?_ | refine blk_alloc ?_ _)); exact BK559.out) hb); have n1_ := Aside0.mk (below_step (by repeat (first | (with_reducible first | exact HB.out | apply below_alloc | apply pw_below_drewN | apply below_drew1 | refine below_set ?_ GE559.out) | exact HB.out)) hb); clear BK559; clear HB; have BK559 := n0_; have HB := n1_; clear n0_ n1_; (try clear hb); (try clear hb2); (try clear hk); (try clear hi)))
  go_ret
  exact ⟨by first | rfl | (simp [errW_none, errW_some] <;> rfl) | (simp [*, errW_none, errW_some] <;> rfl), by repeat (first | (with_reducible first | exact HB.out | apply below_alloc | apply pw_below_drewN | apply below_drew1 | refine below_set ?_ GE559.out) | exact HB.out)⟩


/-! ### spec_padded: function 16 -/
theorem spec_padded.mono_l : ∀ k, (∀ y0 y1, LeO (spec_padded.l0 k y0 y1) (spec_padded.l0 (k + 1) y0 y1))
  | 0 => fun _ _ r h => by simp [spec_padded.l0] at h
  | k + 1 => by
    have ih0 := spec_padded.mono_l k
    · intro y0 y1
      unfold spec_padded.l0
      repeat' first
      | (with_reducible exact ih0 _ _)
      | (with_reducible exact LeO.refl _)
      | (with_reducible exact LeO.none _)
      | (with_reducible refine LeO.ite ?_ ?_)
      | (with_reducible refine LeO.bind ?_ (fun _ => ?_))
      | exact ih0 _ _
      | exact LeO.none _
      | refine LeO.ite ?_ ?_
      | refine LeO.bind ?_ (fun _ => ?_)
theorem spec_padded.mono : ∀ a0 a1 k, LeO (spec_padded.f k a0 a1) (spec_padded.f (k + 1) a0 a1) := by
  intro a0 a1 k
  have ih0 := spec_padded.mono_l k
  unfold spec_padded.f
  repeat' first
      | (with_reducible exact ih0 _ _)
      | (with_reducible exact LeO.refl _)
      | (with_reducible exact LeO.none _)
      | (with_reducible refine LeO.ite ?_ ?_)
      | (with_reducible refine LeO.bind ?_ (fun _ => ?_))
      | exact ih0 _ _
      | exact LeO.none _
      | refine LeO.ite ?_ ?_
      | refine LeO.bind ?_ (fun _ => ?_)
set_option maxHeartbeats 8000000 in
set_option maxRecDepth 100000 in
theorem spec_padded.calls (k : Nat) (a0 : ByteArray) (a1 : Int) (r : ByteArray) (w : World) (h : spec_padded.f k a0 a1 = some r) :
    Calls Tryz.prog 16 #[.string a0, .int .i64 a1] w fun e w' => e = .returned (.string r) ∧ Drawn0 w w' := by
  have H : (spec_padded.l0 k a0 a1) = some r := h
  clear h
  have H' := Aside0.mk H
  clear H
  go_enter Tryz.func16, Tryz.ntmps16
  go_wp2
  go_loopg [0] k (fun kq v0 w' => ∃ (x0_1 : ByteArray), v0 = .string x0_1 ∧ Aside0 (spec_padded.l0 kq x0_1 a1 = some r) ∧ Aside0 (kq ≤ k) ∧ Drawn0 w w')
  case atStart => exact ⟨(a0), (by first | rfl | (simp; done) | (simp [*]; done)), H', ⟨Nat.le_refl _⟩, by repeat (first | exact Drawn0.refl _ | apply Drawn0.step)⟩
  case round =>
    clear H'
    try clear c1
    try clear p2
    obtain ⟨x0_1, rfl, HA, HK1, ⟨m1, rfl⟩⟩ := hrel
    cases gk with
    | zero => exact absurd HA.out (by simp [spec_padded.l0])
    | succ k1 =>
      have H := HA.out
      clear HA
      simp only [spec_padded.l0] at H
      by_cases c3 : (x0_1.size : Int) < a1
      · rw [if_pos c3] at H
        have c3b0 : decide ((x0_1.size : Int) < a1) = true := decide_eq_true c3
        clear c3
        by_cases c4 : 1 + x0_1.size ≤ 9223372036854775807
        · rw [if_pos c4] at H
          have c4b0 := eq_true c4
          have c4b1 : decide (1 + x0_1.size ≤ 9223372036854775807) = true := decide_eq_true c4
          try have c4b2 : (9223372036854775807 < 1 + x0_1.size) = False := eq_false (Nat.not_lt.2 c4)
          have H' := Aside0.mk H
          clear H
          go_wp2
          go_roundg k1
          case measure => have := HK1.out; omega
          case rel => exact ⟨((⟨#[48]⟩ : ByteArray) ++ x0_1), (by first | rfl | (simp; done) | (simp [*]; done)), H', ⟨by have := HK1.out; omega⟩, by repeat (first | exact Drawn0.refl _ | apply Drawn0.step)⟩
        · rw [if_neg c4] at H
          exact absurd H (by simp)
      · rw [if_neg c3] at H
        have c3b0 : decide ((x0_1.size : Int) < a1) = false := decide_eq_false c3
        clear c3
        obtain rfl := Option.some.inj H
        go_wp2
        go_ret
        exact ⟨by first | rfl | (simp; done) | (simp [*]; done), by repeat (first | exact Drawn0.refl _ | apply Drawn0.step)⟩




end Go.Proofs.YtgjfjbghdpcllaaGreatDoor.I
