/- Contracts of this claim's functions: each call gives what the plain mirror (in the text D) gives; the proofs are the kit's print, over D's definitions. -/
import Derived.Test.YtodipcgilgigbaaGreatDoorC0
namespace Go.Proofs.YtodipcgilgigbaaGreatDoor.I
open Go.RowKit Go.Proofs.YtodipcgilgigbaaGreatDoorW.PrintWords Go.Proofs.YtodipcgilgigbaaGreatDoorW.PrintLast Go.Proofs.YtodipcgilgigbaaGreatDoorW.PrintMore
attribute [local go_sem] max2_int min2_int max_two min_two max_three min_three max_four min_four
set_option linter.unusedVariables false
set_option linter.unusedSimpArgs false

/-! ### spec_cut: function 33 -/
theorem spec_cut.mono_l : ∀ k, (∀ y0 y1, LeO (spec_cut.l0 k y0 y1) (spec_cut.l0 (k + 1) y0 y1))
  | 0 => fun _ _ r h => by simp [spec_cut.l0] at h
  | k + 1 => by
    have ih0 := spec_cut.mono_l k
    · intro y0 y1
      unfold spec_cut.l0
      repeat' first
      | (with_reducible exact ih0 _ _)
      | (with_reducible exact LeO.refl _)
      | (with_reducible exact LeO.none _)
      | (with_reducible refine LeO.ite ?_ ?_)
      | (with_reducible refine LeO.bind ?_ (fun _ => ?_))
      | exact ih0 _ _
      | exact LeO.none _
      | refine LeO.ite ?_ ?_
      | refine LeO.bind ?_ (fun _ => ?_)
theorem spec_cut.mono : ∀ a0 k, LeO (spec_cut.f k a0) (spec_cut.f (k + 1) a0) := by
  intro a0 k
  have ih0 := spec_cut.mono_l k
  unfold spec_cut.f
  repeat' first
      | (with_reducible exact ih0 _ _)
      | (with_reducible exact LeO.refl _)
      | (with_reducible exact LeO.none _)
      | (with_reducible refine LeO.ite ?_ ?_)
      | (with_reducible refine LeO.bind ?_ (fun _ => ?_))
      | exact ih0 _ _
      | exact LeO.none _
      | refine LeO.ite ?_ ?_
      | refine LeO.bind ?_ (fun _ => ?_)
set_option maxHeartbeats 8000000 in
set_option maxRecDepth 100000 in
theorem spec_cut.calls (k : Nat) (A0 : Option Addr) (c0 : Nat) (l0 : List Int) (r : List Int) (w : World) (hr0 : Kd.C (Kd.int .u8) w A0 l0.length l0) (hc0 : l0.length ≤ c0) (h : spec_cut.f k l0 = some r) :
    Calls Tryz.prog 33 #[.slice A0 l0.length c0] w fun e w' => ∃ v0_ : Value, e = .returned (v0_) ∧ Kd.R (Kd.int .u8) 5 w' w.heap.size (fun _ => True) v0_ r ∧ Below w.heap.size w w' := by
  have HR0 := Aside0.mk hr0
  have HC0 := Aside0.mk hc0
  clear hr0 hc0
  have HB := Aside0.mk (Below.refl w.heap.size w)
  have H : (spec_cut.l0 k l0 0) = some r := h
  clear h
  have H' := Aside0.mk H
  clear H
  go_enter Tryz.func33, Tryz.ntmps33
  go_wp2
  go_loopg [3] k (fun kq v3 w' => ∃ (x3_1 : Int), v3 = .int .i64 x3_1 ∧ Aside0 (spec_cut.l0 kq l0 x3_1 = some r) ∧ Aside0 (kq ≤ k) ∧ Aside0 (Below w.heap.size w w'))
  case atStart => exact ⟨(0), (by first | rfl | (simp; done) | (simp [*]; done)), H', ⟨Nat.le_refl _⟩, ⟨by repeat (first | (with_reducible first | exact HB.out | apply below_alloc | apply pw_below_drewN | apply below_drew1) | exact HB.out)⟩⟩
  case round =>
    clear H'
    obtain ⟨x3_1, rfl, HA, HK1, HB⟩ := hrel
    cases gk with
    | zero => exact absurd HA.out (by simp [spec_cut.l0])
    | succ k1 =>
      have H := HA.out
      clear HA
      simp only [spec_cut.l0] at H
      by_cases c2 : x3_1 < (l0.length : Int)
      · rw [if_pos c2] at H
        have c2b0 : decide (x3_1 < (l0.length : Int)) = true := decide_eq_true c2
        clear c2
        by_cases c3 : 0 ≤ x3_1
        · rw [if_pos c3] at H
          have c3b0 : decide (0 ≤ x3_1) = true := decide_eq_true c3
          clear c3
          by_cases c4 : (rd l0 x3_1) = 0
          · rw [if_pos c4] at H
            have c4b0 : ((rd l0 x3_1) == 0) = true := beq_iff_eq.mpr c4
            have c4b1 : ((rd l0 x3_1) != 0) = false := bne_eq_false_iff_eq.mpr c4
            clear c4
            have H' := Aside0.mk H
            clear H
            have p109 : 0 ≤ (x3_1 : Int) := of_decide_eq_true (by first | (with_reducible assumption) | assumption)
            have q109 : x3_1 < (l0.length : Int) := of_decide_eq_true (by first | (with_reducible assumption) | assumption)
            obtain ⟨ad109, e109, hx109_0⟩ := Kd.at_int HR0.out x3_1 p109 q109
            cases e109
            replace hx109_0 := (HB.out.cell (World.block_lt_of_cell? w _ hx109_0)).trans hx109_0
            replace p109 := eq_true p109
            replace q109 := eq_true q109
            go_wp2
            go_roundg k1
            case measure => have := HK1.out; omega
            case rel => exact ⟨(wrap64 (x3_1 + 1)), (by first | rfl | (simp; done) | (simp [*]; done)), H', ⟨by have := HK1.out; omega⟩, ⟨by repeat (first | (with_reducible first | exact HB.out | apply below_alloc | apply pw_below_drewN | apply below_drew1) | exact HB.out)⟩⟩
          · rw [if_neg c4] at H
            have c4b0 : ((rd l0 x3_1) == 0) = false := beq_eq_false_iff_ne.mpr c4
            have c4b1 : ((rd l0 x3_1) != 0) = true := bne_iff_ne.mpr c4
            obtain ⟨y110, hy110⟩ : ∃ y_ : List Int, y_ = (([] : List Int)) := ⟨_, rfl⟩
            replace H : (if x3_1 ≤ (l0.length : Int) then (if y110.length + (l0.drop (x3_1 : Int).toNat).length < 140737488355328 then (some (y110 ++ (l0.drop (x3_1 : Int).toNat))) else (none)) else (none)) = some r := by first | (rw [hy110]; with_reducible exact H) | (have H2_ := (Option.bind_some _ _).symm.trans H; rw [hy110]; with_reducible exact H2_) | (have H2_ := (Option.bind_some _ _).symm.trans H; with_reducible exact H2_) | with_reducible exact H | (rw [hy110]; exact H) | exact H
            have Ny110 := Aside0.mk hy110
            clear hy110
            have c5b0 := eq_true (of_decide_eq_true (by first | (with_reducible assumption) | assumption) : 0 ≤ x3_1)
            by_cases c6 : x3_1 ≤ (l0.length : Int)
            · rw [if_pos c6] at H
              have c6b0 := eq_true c6
              have c6b1 : decide (x3_1 ≤ (l0.length : Int)) = true := decide_eq_true c6
              clear c6
              by_cases c7 : y110.length + (l0.drop (x3_1 : Int).toNat).length < 140737488355328
              · rw [if_pos c7] at H
                have LMc7 := Aside0.mk c7
                clear c7
                obtain ⟨y114, hy114⟩ : ∃ y_ : List Int, y_ = (y110 ++ (l0.drop (x3_1 : Int).toNat)) := ⟨_, rfl⟩
                replace H : (some y114) = some r := by first | (rw [hy114]; with_reducible exact H) | (have H2_ := (Option.bind_some _ _).symm.trans H; rw [hy114]; with_reducible exact H2_) | (have H2_ := (Option.bind_some _ _).symm.trans H; with_reducible exact H2_) | with_reducible exact H | (rw [hy114]; exact H) | exact H
                have Ny114 := Aside0.mk hy114
                clear hy114
                obtain rfl := Option.some.inj H
                have p109 : 0 ≤ (x3_1 : Int) := of_decide_eq_true (by first | (with_reducible assumption) | assumption)
                have q109 : x3_1 < (l0.length : Int) := of_decide_eq_true (by first | (with_reducible assumption) | assumption)
                obtain ⟨ad109, e109, hx109_0⟩ := Kd.at_int HR0.out x3_1 p109 q109
                cases e109
                replace hx109_0 := (HB.out.cell (World.block_lt_of_cell? w _ hx109_0)).trans hx109_0
                replace p109 := eq_true p109
                replace q109 := eq_true q109
                go_wp2_with (first | ((with_reducible refine gate_dst (N := 17) rfl ?_); refine Kd.R_lit (Kd.int .u8) _ 5 ?hg (N := 17) ?hd (xs := ([] : List Int)) (inner := []) (ok := fun _ => True) (okp := fun _ => True) ?hr ?hp (fun _ hk => hk) trivial (Below.refl _ _) (Nat.le_refl _) (by simp) ?_; (case hd => rfl); (case hg => rfl); (case hr => first | (go_simp; done) | (go_simp; rfl)); (case hp => exact (Reps.none _ _)); intro v111 w8 ho9 hb hg_ hnew_; clear hg_ hnew_; (first | rw [← Ny110.out] at ho9 | (simp only [Int.reduceToNat] at ho9; rw [← Ny110.out] at ho9)); have n0_ := Aside0.mk (Kd.R_lower ho9 (below_size HB.out)); have n1_ := Aside0.mk (below_step HB.out hb); clear HB; have HO112 := n0_; have HB := n1_; clear n0_ n1_; clear hb ho9; obtain ⟨i010, hi010, _, hsz10, _⟩ := info_parts info5; obtain ⟨A10, hcut10, hA10, hC10⟩ := print_drop_of (P := Tryz.prog) (Value.int .u8) 0 22 5 .i64 Tryz.underlying22 hi010 hsz10 (some ad109) c0 l0 x3_1 (of_decide_eq_true (by first | (with_reducible assumption) | assumption)) (of_decide_eq_true (by first | (with_reducible assumption) | assumption)) HC0.out; have HR113 := Aside0.mk (Kd.C_of_reads (h1 := fun _ => rfl) (hA10 _ (Kd.reads_of_C HR0.out))); have HC113 := Aside0.mk hC10; clear hA10 hC10 hi010 hsz10) | ((with_reducible refine gate_builtin (b := .append) (xs := #[.tmp 17, .tmp 20]) rfl ?_); at_builtin; refine Kd.R_append_rows (Kd.int .u8) (w0 := w) w.heap.size rfl (.tmp 17) (.tmp 20) 22 5 (.int .u8 0) 1 rfl Tryz.underlying22 info5 rfl (by decide) (by omega) v111 y110 (l0.drop (x3_1 : Int).toNat) _ _ _ (fun _ => True) (fun _ => False) rfl rfl ?aO ?aR (fun _ _ h => h) (fun _ h => h.elim) ?aF ?aB ?aS ?aL ?_; (case aR => first | (rw [← show (l0.drop (x3_1 : Int).toNat).length = (l0.length - x3_1.toNat) from List.length_drop]; repeat (first | exact (Kd.C_below HR113.out HB.out) | (with_reducible refine Kd.C_alloc ?_ _) | (with_reducible refine Kd.C_drewN ?_ _) | (with_reducible refine Kd.C_drew ?_))) | (repeat (first | exact (Kd.C_below HR113.out HB.out) | (with_reducible refine Kd.C_alloc ?_ _) | (with_reducible refine Kd.C_drewN ?_ _) | (with_reducible refine Kd.C_drew ?_)))); (case aB => exact HB.out); (case aF => exact (fun _ _ => trivial)); (case aO => exact HO112.out); (case aS => exact (below_size HB.out)); (case aL => have := LMc7.out; have hlx_ := (show (l0.drop (x3_1 : Int).toNat).length = (l0.length - x3_1.toNat) from List.length_drop); omega); intro v115 w11 ho hb hg hat; rw [← Ny114.out] at ho; have n0_ := Aside0.mk (hb); have n1_ := Aside0.mk (ho); clear HB; clear HO112; have HB := n0_; have HO116 := n1_; clear n0_ n1_; clear ho hb hg hat))
                go_ret
                exact ⟨_, by first | rfl | (simp [errW_none, errW_some] <;> rfl) | (simp [*, errW_none, errW_some] <;> rfl), by (with_reducible repeat (first | apply Kd.R_alloc | apply Kd.R_drewN | apply Kd.R_drew)); exact HO116.out, by repeat (first | (with_reducible first | exact HB.out | apply below_alloc | apply pw_below_drewN | apply below_drew1) | exact HB.out)⟩
              · rw [if_neg c7] at H
                exact absurd H (by simp)
            · rw [if_neg c6] at H
              exact absurd H (by simp)
        · rw [if_neg c3] at H
          exact absurd H (by simp)
      · rw [if_neg c2] at H
        have c2b0 : decide (x3_1 < (l0.length : Int)) = false := decide_eq_false c2
        clear c2
        obtain ⟨y117, hy117⟩ : ∃ y_ : List Int, y_ = (([] : List Int)) := ⟨_, rfl⟩
        replace H : (if 0 ≤ x3_1 then (if x3_1 ≤ (l0.length : Int) then (if y117.length + (l0.drop (x3_1 : Int).toNat).length < 140737488355328 then (some (y117 ++ (l0.drop (x3_1 : Int).toNat))) else (none)) else (none)) else (none)) = some r := by first | (rw [hy117]; with_reducible exact H) | (have H2_ := (Option.bind_some _ _).symm.trans H; rw [hy117]; with_reducible exact H2_) | (have H2_ := (Option.bind_some _ _).symm.trans H; with_reducible exact H2_) | with_reducible exact H | (rw [hy117]; exact H) | exact H
        have Ny117 := Aside0.mk hy117
        clear hy117
        by_cases c12 : 0 ≤ x3_1
        · rw [if_pos c12] at H
          have c12b0 := eq_true c12
          have c12b1 : decide (0 ≤ x3_1) = true := decide_eq_true c12
          clear c12
          by_cases c13 : x3_1 ≤ (l0.length : Int)
          · rw [if_pos c13] at H
            have c13b0 := eq_true c13
            have c13b1 : decide (x3_1 ≤ (l0.length : Int)) = true := decide_eq_true c13
            clear c13
            by_cases c14 : y117.length + (l0.drop (x3_1 : Int).toNat).length < 140737488355328
            · rw [if_pos c14] at H
              have LMc14 := Aside0.mk c14
              clear c14
              obtain ⟨y121, hy121⟩ : ∃ y_ : List Int, y_ = (y117 ++ (l0.drop (x3_1 : Int).toNat)) := ⟨_, rfl⟩
              replace H : (some y121) = some r := by first | (rw [hy121]; with_reducible exact H) | (have H2_ := (Option.bind_some _ _).symm.trans H; rw [hy121]; with_reducible exact H2_) | (have H2_ := (Option.bind_some _ _).symm.trans H; with_reducible exact H2_) | with_reducible exact H | (rw [hy121]; exact H) | exact H
              have Ny121 := Aside0.mk hy121
              clear hy121
              obtain rfl := Option.some.inj H
              go_wp2_with (first | ((with_reducible refine gate_dst (N := 17) rfl ?_); refine Kd.R_lit (Kd.int .u8) _ 5 ?hg (N := 17) ?hd (xs := ([] : List Int)) (inner := []) (ok := fun _ => True) (okp := fun _ => True) ?hr ?hp (fun _ hk => hk) trivial (Below.refl _ _) (Nat.le_refl _) (by simp) ?_; (case hd => rfl); (case hg => rfl); (case hr => first | (go_simp; done) | (go_simp; rfl)); (case hp => exact (Reps.none _ _)); intro v118 w15 ho16 hb hg_ hnew_; clear hg_ hnew_; (first | rw [← Ny117.out] at ho16 | (simp only [Int.reduceToNat] at ho16; rw [← Ny117.out] at ho16)); have n0_ := Aside0.mk (Kd.R_lower ho16 (below_size HB.out)); have n1_ := Aside0.mk (below_step HB.out hb); clear HB; have HO119 := n0_; have HB := n1_; clear n0_ n1_; clear hb ho16; obtain ⟨i017, hi017, _, hsz17, _⟩ := info_parts info5; obtain ⟨A17, hcut17, hA17, hC17⟩ := print_drop_of (P := Tryz.prog) (Value.int .u8) 0 22 5 .i64 Tryz.underlying22 hi017 hsz17 A0 c0 l0 x3_1 (of_decide_eq_true (by first | (with_reducible assumption) | assumption)) (of_decide_eq_true (by first | (with_reducible assumption) | assumption)) HC0.out; have HR120 := Aside0.mk (Kd.C_of_reads (h1 := fun _ => rfl) (hA17 _ (Kd.reads_of_C HR0.out))); have HC120 := Aside0.mk hC17; clear hA17 hC17 hi017 hsz17) | ((with_reducible refine gate_builtin (b := .append) (xs := #[.tmp 17, .tmp 20]) rfl ?_); at_builtin; refine Kd.R_append_rows (Kd.int .u8) (w0 := w) w.heap.size rfl (.tmp 17) (.tmp 20) 22 5 (.int .u8 0) 1 rfl Tryz.underlying22 info5 rfl (by decide) (by omega) v118 y117 (l0.drop (x3_1 : Int).toNat) _ _ _ (fun _ => True) (fun _ => False) rfl rfl ?aO ?aR (fun _ _ h => h) (fun _ h => h.elim) ?aF ?aB ?aS ?aL ?_; (case aR => first | (rw [← show (l0.drop (x3_1 : Int).toNat).length = (l0.length - x3_1.toNat) from List.length_drop]; repeat (first | exact (Kd.C_below HR120.out HB.out) | (with_reducible refine Kd.C_alloc ?_ _) | (with_reducible refine Kd.C_drewN ?_ _) | (with_reducible refine Kd.C_drew ?_))) | (repeat (first | exact (Kd.C_below HR120.out HB.out) | (with_reducible refine Kd.C_alloc ?_ _) | (with_reducible refine Kd.C_drewN ?_ _) | (with_reducible refine Kd.C_drew ?_)))); (case aB => exact HB.out); (case aF => exact (fun _ _ => trivial)); (case aO => exact HO119.out); (case aS => exact (below_size HB.out)); (case aL => have := LMc14.out; have hlx_ := (show (l0.drop (x3_1 : Int).toNat).length = (l0.length - x3_1.toNat) from List.length_drop); omega); intro v122 w18 ho hb hg hat; rw [← Ny121.out] at ho; have n0_ := Aside0.mk (hb); have n1_ := Aside0.mk (ho); clear HB; clear HO119; have HB := n0_; have HO123 := n1_; clear n0_ n1_; clear ho hb hg hat))
              go_ret
              exact ⟨_, by first | rfl | (simp [errW_none, errW_some] <;> rfl) | (simp [*, errW_none, errW_some] <;> rfl), by (with_reducible repeat (first | apply Kd.R_alloc | apply Kd.R_drewN | apply Kd.R_drew)); exact HO123.out, by repeat (first | (with_reducible first | exact HB.out | apply below_alloc | apply pw_below_drewN | apply below_drew1) | exact HB.out)⟩
            · rw [if_neg c14] at H
              exact absurd H (by simp)
          · rw [if_neg c13] at H
            exact absurd H (by simp)
        · rw [if_neg c12] at H
          exact absurd H (by simp)


/-! ### spec_Of: function 15 -/
theorem spec_Of.mono : ∀ a0 a1 k, LeO (spec_Of.f k a0 a1) (spec_Of.f (k + 1) a0 a1) := by
  intro a0 a1 k
  unfold spec_Of.f
  repeat' first
      | (with_reducible exact spec_cut.mono _ _)
      | (with_reducible exact LeO.refl _)
      | (with_reducible exact LeO.none _)
      | (with_reducible refine LeO.ite ?_ ?_)
      | (with_reducible refine LeO.bind ?_ (fun _ => ?_))
      | exact spec_cut.mono _ _
      | exact LeO.none _
      | refine LeO.ite ?_ ?_
      | refine LeO.bind ?_ (fun _ => ?_)
set_option maxHeartbeats 8000000 in
set_option maxRecDepth 100000 in
theorem spec_Of.calls (k : Nat) (a0 : Bool) (A1 : Option Addr) (c1 : Nat) (l1 : List Int) (r1 : Bool) (r2 : List Int) (w : World) (hr1 : Kd.C (Kd.int .u8) w A1 l1.length l1) (hc1 : l1.length ≤ c1) (h : spec_Of.f k a0 l1 = some (r1, r2)) :
    Calls Tryz.prog 15 #[.bool a0, .slice A1 l1.length c1] w fun e w' => ∃ v1_ : Value, e = .returned (.agg #[.bool r1, v1_]) ∧ Kd.R (Kd.int .u8) 5 w' w.heap.size (fun _ => True) v1_ r2 ∧ Below w.heap.size w w' := by
  have hu24 := Tryz.underlying24
  have HR1 := Aside0.mk hr1
  have HC1 := Aside0.mk hc1
  clear hr1 hc1
  have HB := Aside0.mk (Below.refl w.heap.size w)
  have H : ((spec_cut.f k l1).bind fun t125 => (if a0 = true then (some (decide (0 < t125.length), t125)) else (some (false, t125)))) = some (r1, r2) := h
  clear h
  replace H := Option.bind_eq_some_iff.mp H
  obtain ⟨t125, A30, H⟩ := H
  replace H : (if a0 = true then (some (decide (0 < t125.length), t125)) else (some (false, t125))) = some (r1, r2) := H
  have A3 := Aside0.mk A30
  clear A30
  by_cases c4 : a0 = true
  · subst c4
    have H1 : (some (decide (0 < t125.length), t125)) = some (r1, r2) := by rw [if_pos rfl] at H; exact H
    clear H
    have H := H1
    clear H1
    simp only [Option.some.injEq, Prod.mk.injEq] at H
    obtain ⟨rfl, rfl⟩ := H
    go_enter Tryz.func15, Tryz.ntmps15
    go_wp2_with (first | ((with_reducible refine gate_dst (N := 4) rfl ?_); (try (refine gate_guard (by rfl) ?_; dsimp only)); refine box_event ?hg (N := 4) ?hd (cs := #[.bool false, .slice none 0 0]) (t := 24) ?hr ?_; (case hd => rfl); (case hg => rfl); (case hr => first | (go_simp; done) | (go_simp; rfl)); intro gb124 hg w5 hbox hb; have n0_ := Aside0.mk (below_step HB.out hb); have n1_ := Aside0.mk (hbox); have n2_ := Aside0.mk ((by rw [hg]; exact (below_size HB.out) : w.heap.size ≤ gb124)); have n3_ := Aside0.mk ((by rw [hg]; exact (below_size HB.out) : w.heap.size ≤ gb124)); clear HB; have HB := n0_; have BK124 := n1_; have GW124 := n2_; have GE124 := n3_; clear n0_ n1_ n2_ n3_; clear hb hbox hg) | ((with_reducible refine gate_callee (f := 33) rfl ?_); refine goesL_ (some 7) rfl rfl Tryz.func33 (by kernel_rfl) rfl #[.slice A1 l1.length c1] rfl (by (try simp only [List.map_toArray, List.map_cons, List.map_nil]); first | done | rfl | (simp only [List.length_drop, List.length_take]; rfl)) ?_; (with_reducible refine (spec_cut.calls k _ _ l1 t125 _ ?side1 ?side2 A3.out).mono ?_); (case side1 => repeat (first | exact (Kd.C_below HR1.out HB.out) | (with_reducible refine Kd.C_alloc ?_ _) | (with_reducible refine Kd.C_drewN ?_ _) | (with_reducible refine Kd.C_drew ?_))); (case side2 => exact HC1.out); rintro e w6 ⟨v126, rfl, ho0, hb⟩; refine ⟨_, rfl, ?_⟩; have n0_ := Aside0.mk (Kd.R_lower ho0 (below_size HB.out)); have n1_ := Aside0.mk (blk_below BK124.out hb); have n2_ := Aside0.mk (below_step HB.out hb); clear BK124; clear HB; have HO127 := n0_; have BK124 := n1_; have HB := n2_; clear n0_ n1_ n2_; (try clear hb); (try clear hb2); (try clear hk); (try clear hi); (try clear ho0); obtain ⟨Ao7, co7, eo7⟩ := Kd.R_slice HO127.out; subst eo7; have hcz8_0 : w6.cell? ⟨gb124, 0, none⟩ = some (.bool false) := (blk_cell BK124.out 0).trans rfl; have hcz8_1 : w6.cell? ⟨gb124, 1, none⟩ = some (.slice none 0 0) := (blk_cell BK124.out 1).trans rfl; have hfz8_0 := blk_frozen BK124.out 0; have hfz8_1 := blk_frozen BK124.out 1))
    refine bodyPost_ret (results_cell_row rfl _ _ gb124 24 #[.bool (decide (0 < t125.length)), .slice Ao7 t125.length co7] (0, 0) _ rfl (by (with_reducible repeat (first | refine blk_drewN ?_ _ | refine blk_drew ?_ | refine blk_alloc ?_ _)); refine blk_put (cs := #[.bool (decide (0 < t125.length)), .slice none 0 0]) ?_ 1 _ rfl; (with_reducible repeat (first | refine blk_drewN ?_ _ | refine blk_drew ?_ | refine blk_alloc ?_ _)); refine blk_put (cs := #[.bool false, .slice none 0 0]) ?_ 0 _ rfl; (with_reducible repeat (first | refine blk_drewN ?_ _ | refine blk_drew ?_ | refine blk_alloc ?_ _)); exact BK124.out) Tryz.underlying24 rfl (by kernel_rfl)) rfl ?_
    exact ⟨_, by first | rfl | (simp [errW_none, errW_some] <;> rfl) | (simp [*, errW_none, errW_some] <;> rfl), by (with_reducible repeat (first | apply Kd.R_alloc | apply Kd.R_drewN | apply Kd.R_drew)); exact Kd.R_mono (Kd.R_far (p := ⟨gb124, 1, none⟩) (Kd.R_far (p := ⟨gb124, 0, none⟩) (Kd.R_types HO127.out BK124.out (by decide)) (fun _ hk => hk.2) (.bool (decide (0 < t125.length)))) (fun _ hk => hk.2) (.slice Ao7 t125.length co7)) (fun _ hk => trivial), by repeat (first | (with_reducible first | exact HB.out | apply below_alloc | apply pw_below_drewN | apply below_drew1 | refine below_set ?_ GE124.out) | exact HB.out)⟩
  · replace c4 := Bool.eq_false_iff.mpr c4
    subst c4
    have H1 : (some (false, t125)) = some (r1, r2) := by rw [if_neg (show ¬ (false = true) by decide)] at H; exact H
    clear H
    have H := H1
    clear H1
    simp only [Option.some.injEq, Prod.mk.injEq] at H
    obtain ⟨rfl, rfl⟩ := H
    go_enter Tryz.func15, Tryz.ntmps15
    go_wp2_with (first | ((with_reducible refine gate_dst (N := 4) rfl ?_); (try (refine gate_guard (by rfl) ?_; dsimp only)); refine box_event ?hg (N := 4) ?hd (cs := #[.bool false, .slice none 0 0]) (t := 24) ?hr ?_; (case hd => rfl); (case hg => rfl); (case hr => first | (go_simp; done) | (go_simp; rfl)); intro gb124 hg w9 hbox hb; have n0_ := Aside0.mk (below_step HB.out hb); have n1_ := Aside0.mk (hbox); have n2_ := Aside0.mk ((by rw [hg]; exact (below_size HB.out) : w.heap.size ≤ gb124)); have n3_ := Aside0.mk ((by rw [hg]; exact (below_size HB.out) : w.heap.size ≤ gb124)); clear HB; have HB := n0_; have BK124 := n1_; have GW124 := n2_; have GE124 := n3_; clear n0_ n1_ n2_ n3_; clear hb hbox hg) | ((with_reducible refine gate_callee (f := 33) rfl ?_); refine goesL_ (some 7) rfl rfl Tryz.func33 (by kernel_rfl) rfl #[.slice A1 l1.length c1] rfl (by (try simp only [List.map_toArray, List.map_cons, List.map_nil]); first | done | rfl | (simp only [List.length_drop, List.length_take]; rfl)) ?_; (with_reducible refine (spec_cut.calls k _ _ l1 t125 _ ?side1 ?side2 A3.out).mono ?_); (case side1 => repeat (first | exact (Kd.C_below HR1.out HB.out) | (with_reducible refine Kd.C_alloc ?_ _) | (with_reducible refine Kd.C_drewN ?_ _) | (with_reducible refine Kd.C_drew ?_))); (case side2 => exact HC1.out); rintro e w10 ⟨v126, rfl, ho0, hb⟩; refine ⟨_, rfl, ?_⟩; have n0_ := Aside0.mk (Kd.R_lower ho0 (below_size HB.out)); have n1_ := Aside0.mk (blk_below BK124.out hb); have n2_ := Aside0.mk (below_step HB.out hb); clear BK124; clear HB; have HO127 := n0_; have BK124 := n1_; have HB := n2_; clear n0_ n1_ n2_; (try clear hb); (try clear hb2); (try clear hk); (try clear hi); (try clear ho0); obtain ⟨Ao11, co11, eo11⟩ := Kd.R_slice HO127.out; subst eo11; have hcz12_0 : w10.cell? ⟨gb124, 0, none⟩ = some (.bool false) := (blk_cell BK124.out 0).trans rfl; have hcz12_1 : w10.cell? ⟨gb124, 1, none⟩ = some (.slice none 0 0) := (blk_cell BK124.out 1).trans rfl; have hfz12_0 := blk_frozen BK124.out 0; have hfz12_1 := blk_frozen BK124.out 1))
    refine bodyPost_ret (results_cell_row rfl _ _ gb124 24 #[.bool false, .slice Ao11 t125.length co11] (0, 0) _ rfl (by (with_reducible repeat (first | refine blk_drewN ?_ _ | refine blk_drew ?_ | refine blk_alloc ?_ _)); refine blk_put (cs := #[.bool false, .slice none 0 0]) ?_ 1 _ rfl; (with_reducible repeat (first | refine blk_drewN ?_ _ | refine blk_drew ?_ | refine blk_alloc ?_ _)); refine blk_put (cs := #[.bool false, .slice none 0 0]) ?_ 0 _ rfl; (with_reducible repeat (first | refine blk_drewN ?_ _ | refine blk_drew ?_ | refine blk_alloc ?_ _)); exact BK124.out) Tryz.underlying24 rfl (by kernel_rfl)) rfl ?_
    exact ⟨_, by first | rfl | (simp [errW_none, errW_some] <;> rfl) | (simp [*, errW_none, errW_some] <;> rfl), by (with_reducible repeat (first | apply Kd.R_alloc | apply Kd.R_drewN | apply Kd.R_drew)); exact Kd.R_mono (Kd.R_far (p := ⟨gb124, 1, none⟩) (Kd.R_far (p := ⟨gb124, 0, none⟩) (Kd.R_types HO127.out BK124.out (by decide)) (fun _ hk => hk.2) (.bool false)) (fun _ hk => hk.2) (.slice Ao11 t125.length co11)) (fun _ hk => trivial), by repeat (first | (with_reducible first | exact HB.out | apply below_alloc | apply pw_below_drewN | apply below_drew1 | refine below_set ?_ GE124.out) | exact HB.out)⟩


/-! ### spec_bytesOf: function 28 -/
theorem spec_bytesOf.mono_l : ∀ k, (∀ y0 y1 y2, LeO (spec_bytesOf.l0 k y0 y1 y2) (spec_bytesOf.l0 (k + 1) y0 y1 y2))
  | 0 => fun _ _ _ r h => by simp [spec_bytesOf.l0] at h
  | k + 1 => by
    have ih0 := spec_bytesOf.mono_l k
    · intro y0 y1 y2
      unfold spec_bytesOf.l0
      repeat' first
      | (with_reducible exact ih0 _ _ _)
      | (with_reducible exact LeO.refl _)
      | (with_reducible exact LeO.none _)
      | (with_reducible refine LeO.ite ?_ ?_)
      | (with_reducible refine LeO.bind ?_ (fun _ => ?_))
      | exact ih0 _ _ _
      | exact LeO.none _
      | refine LeO.ite ?_ ?_
      | refine LeO.bind ?_ (fun _ => ?_)
theorem spec_bytesOf.mono : ∀ a0 k, LeO (spec_bytesOf.f k a0) (spec_bytesOf.f (k + 1) a0) := by
  intro a0 k
  have ih0 := spec_bytesOf.mono_l k
  unfold spec_bytesOf.f
  repeat' first
      | (with_reducible exact ih0 _ _ _)
      | (with_reducible exact LeO.refl _)
      | (with_reducible exact LeO.none _)
      | (with_reducible refine LeO.ite ?_ ?_)
      | (with_reducible refine LeO.bind ?_ (fun _ => ?_))
      | exact ih0 _ _ _
      | exact LeO.none _
      | refine LeO.ite ?_ ?_
      | refine LeO.bind ?_ (fun _ => ?_)
set_option maxHeartbeats 8000000 in
set_option maxRecDepth 100000 in
theorem spec_bytesOf.calls (k : Nat) (a0 : Int) (r : List Int) (w : World) (h : spec_bytesOf.f k a0 = some r) :
    Calls Tryz.prog 28 #[.int .u64 a0] w fun e w' => ∃ v0_ : Value, e = .returned (v0_) ∧ Kd.R (Kd.int .u8) 5 w' w.heap.size (fun _ => True) v0_ r ∧ Below w.heap.size w w' := by
  have HB := Aside0.mk (Below.refl w.heap.size w)
  have H : (if 8 ≤ 281474976710656 then (spec_bytesOf.l0 k a0 (List.replicate 8 0) 7) else (none)) = some r := h
  clear h
  by_cases c2 : 8 ≤ 281474976710656
  · rw [if_pos c2] at H
    have c2b0 := eq_true c2
    have c2b1 : decide (8 ≤ 281474976710656) = true := decide_eq_true c2
    clear c2
    obtain ⟨y159, hy159⟩ : ∃ y_ : List Int, y_ = (List.replicate 8 0) := ⟨_, rfl⟩
    replace H : (spec_bytesOf.l0 k a0 y159 7) = some r := by first | (rw [hy159]; with_reducible exact H) | (have H2_ := (Option.bind_some _ _).symm.trans H; rw [hy159]; with_reducible exact H2_) | (have H2_ := (Option.bind_some _ _).symm.trans H; with_reducible exact H2_) | with_reducible exact H | (rw [hy159]; exact H) | exact H
    have Ny159 := Aside0.mk hy159
    clear hy159
    have H' := Aside0.mk H
    clear H
    go_enter Tryz.func28, Tryz.ntmps28
    go_wp2_with (first | ((with_reducible refine gate_dst (N := 5) rfl ?_); refine Kd.R_make (Kd.int .u8) _ 5 rfl (N := 5) rfl 22 _ _ rfl 8 rfl rfl Tryz.underlying22 (.int .u8 0) 1 info5 rfl (by decide) (by omega) 0 (ok := fun _ => True) (okp := fun _ => True) rfl (fun _ hk => hk) trivial (by omega) (by omega) (Below.refl _ _) (Nat.le_refl _) ?_; intro v160 w3 ho4 hb hg_ hnew_; clear hg_ hnew_; (first | rw [← Ny159.out] at ho4 | (simp only [Int.reduceToNat] at ho4; rw [← Ny159.out] at ho4)); have n0_ := Aside0.mk (Kd.R_lower ho4 (below_size HB.out)); have n1_ := Aside0.mk (below_step HB.out hb); clear HB; have HO161 := n0_; have HB := n1_; clear n0_ n1_; clear hb ho4))
    go_loopg [0, 4] k (fun kq v0 v4 w' => ∃ (x0_1 : Int) (x3_1 : List Int) (x4_1 : Int), v0 = .int .u64 x0_1 ∧ v4 = .int .i64 x4_1 ∧ Aside0 (spec_bytesOf.l0 kq x0_1 x3_1 x4_1 = some r) ∧ Aside0 (kq ≤ k) ∧ Aside0 (Kd.R (Kd.int .u8) 5 w' w.heap.size (fun _ => True) v160 x3_1) ∧ Aside0 (Below w.heap.size w w'))
    case atStart => exact ⟨(a0), (y159), (7), (by first | rfl | (simp; done) | (simp [*]; done)), (by first | rfl | (simp; done) | (simp [*]; done)), H', ⟨Nat.le_refl _⟩, ⟨by (with_reducible repeat (first | apply Kd.R_alloc | apply Kd.R_drewN | apply Kd.R_drew)); exact HO161.out⟩, ⟨by repeat (first | (with_reducible first | exact HB.out | apply below_alloc | apply pw_below_drewN | apply below_drew1) | exact HB.out)⟩⟩
    case round =>
      clear H'
      try clear c2
      try clear c2b0
      try clear c2b1
      try clear p2
      obtain ⟨x0_1, x3_1, x4_1, rfl, rfl, HA, HK1, HO_3, HB⟩ := hrel
      cases gk with
      | zero => exact absurd HA.out (by simp [spec_bytesOf.l0])
      | succ k1 =>
        have H := HA.out
        clear HA
        simp only [spec_bytesOf.l0] at H
        by_cases c5 : x4_1 ≥ 0
        · rw [if_pos c5] at H
          have c5b0 : decide (0 ≤ x4_1) = true := decide_eq_true c5
          clear c5
          by_cases c6 : 0 ≤ x4_1
          · rw [if_pos c6] at H
            have c6b0 : decide (0 ≤ x4_1) = true := decide_eq_true c6
            clear c6
            by_cases c7 : x4_1 < (x3_1.length : Int)
            · rw [if_pos c7] at H
              have c7b0 : decide (x4_1 < (x3_1.length : Int)) = true := decide_eq_true c7
              clear c7
              obtain ⟨y162, hy162⟩ : ∃ y_ : List Int, y_ = (x3_1.set (x4_1 : Int).toNat ((x0_1) % 256)) := ⟨_, rfl⟩
              replace H : (spec_bytesOf.l0 k1 (x0_1 / 256) y162 (wrap64 (x4_1 - 1))) = some r := by first | (rw [hy162]; with_reducible exact H) | (have H2_ := (Option.bind_some _ _).symm.trans H; rw [hy162]; with_reducible exact H2_) | (have H2_ := (Option.bind_some _ _).symm.trans H; with_reducible exact H2_) | with_reducible exact H | (rw [hy162]; exact H) | exact H
              have Ny162 := Aside0.mk hy162
              clear hy162
              have H' := Aside0.mk H
              clear H
              have p8 : 0 ≤ (x4_1 : Int) := of_decide_eq_true (by first | (with_reducible assumption) | assumption)
              have q8 : (x4_1 : Int) < ((x3_1.length : Int) : Int) := of_decide_eq_true (by first | (with_reducible assumption) | assumption)
              obtain ⟨go8, co8, eo8, gb8, gl8, cl8, HG8⟩ := Kd.R_form HO_3.out (by omega)
              (first | cases eo8 | (injection eo8 with ea_ en_ ec_; (first | subst ea_ | (injection ea_ with ea_; subst ea_)); subst ec_; clear en_))
              have GB8 := Aside0.mk gb8
              have GG8 := Aside0.mk HG8
              clear gb8 gl8 HG8
              obtain ⟨hx8_0, hf8_0⟩ := Kd.R_celln 0 HO_3.out (x4_1 : Int) p8 q8
              replace p8 := eq_true p8
              replace q8 := eq_true q8
              have HP9 := Kd.R_putg HO_3.out (x4_1 : Int) ((x0_1) % 256)
              go_wp2_with (first | ((with_reducible refine gate_store (t := 5) (p := 14) rfl ?_); refine store_event (t := 5) (p := 14) (v := ?vo_w10) (w1 := (wr.setCell ⟨go8, (x4_1 : Int).toNat, none⟩ (.int .u8 ((x0_1) % 256)))) ?hg ?ho ?hn ?hr ?_; (case ho => rfl); (case hg => rfl); (case hn => rfl); (case hr => first | (go_simp; done) | (go_simp; rfl)); intro w10 hw; have hg : wr.grownBy w10 (some go8) := (by rw [hw]; exact HP9.2); have hp_ : Kd.R (Kd.int .u8) 5 w10 w.heap.size (fun _ => True) (.slice (some ⟨go8, 0, none⟩) x3_1.length co8) y162 := (by rw [hw, Ny162.out]; exact HP9.1); clear HP9; have n0_ := Aside0.mk (hp_); have n1_ := Aside0.mk ((by rw [hw]; exact below_set (HB.out) GB8.out : Below w.heap.size w w10)); clear HO_3; clear HB; have HO_3 := n0_; have HB := n1_; clear n0_ n1_; clear hg hw hp_))
              go_roundg k1
              case measure => have := HK1.out; omega
              case rel => exact ⟨(x0_1 / 256), (y162), (wrap64 (x4_1 - 1)), (by first | rfl | (simp; done) | (simp [*]; done)), (by first | rfl | (simp; done) | (simp [*]; done)), H', ⟨by have := HK1.out; omega⟩, ⟨by (with_reducible repeat (first | apply Kd.R_alloc | apply Kd.R_drewN | apply Kd.R_drew)); exact HO_3.out⟩, ⟨by repeat (first | (with_reducible first | exact HB.out | apply below_alloc | apply pw_below_drewN | apply below_drew1) | exact HB.out)⟩⟩
            · rw [if_neg c7] at H
              exact absurd H (by simp)
          · rw [if_neg c6] at H
            exact absurd H (by simp)
        · rw [if_neg c5] at H
          have c5b0 : decide (0 ≤ x4_1) = false := decide_eq_false c5
          clear c5
          obtain rfl := Option.some.inj H
          go_wp2
          go_ret
          exact ⟨_, by first | rfl | (simp [errW_none, errW_some] <;> rfl) | (simp [*, errW_none, errW_some] <;> rfl), by (with_reducible repeat (first | apply Kd.R_alloc | apply Kd.R_drewN | apply Kd.R_drew)); exact HO_3.out, by repeat (first | (with_reducible first | exact HB.out | apply below_alloc | apply pw_below_drewN | apply below_drew1) | exact HB.out)⟩
  · rw [if_neg c2] at H
    exact absurd H (by simp)


end Go.Proofs.YtodipcgilgigbaaGreatDoor.I
