/- Contracts of this claim's functions: each call gives what the plain mirror (in the text D) gives; the proofs are the kit's print, over D's definitions. -/
import Derived.Test.YtodipcgilgigbaaGreatDoorC6
namespace Go.Proofs.YtodipcgilgigbaaGreatDoor.I
open Go.RowKit Go.Proofs.YtodipcgilgigbaaGreatDoorW.PrintWords Go.Proofs.YtodipcgilgigbaaGreatDoorW.PrintLast Go.Proofs.YtodipcgilgigbaaGreatDoorW.PrintMore
attribute [local go_sem] max2_int min2_int max_two min_two max_three min_three max_four min_four
set_option linter.unusedVariables false
set_option linter.unusedSimpArgs false

/-! ### spec_Int_Add: function 23 -/
theorem spec_Int_Add.mono : ∀ a0 a1 a2 a3 k, LeO (spec_Int_Add.f k a0 a1 a2 a3) (spec_Int_Add.f (k + 1) a0 a1 a2 a3) := by
  intro a0 a1 a2 a3 k
  unfold spec_Int_Add.f
  repeat' first
      | (with_reducible exact spec_Of.mono _ _ _)
      | (with_reducible exact spec_less.mono _ _ _)
      | (with_reducible exact spec_order.mono _ _ _)
      | (with_reducible exact spec_sum.mono _ _ _)
      | (with_reducible exact LeO.refl _)
      | (with_reducible exact LeO.none _)
      | (with_reducible refine LeO.ite ?_ ?_)
      | (with_reducible refine LeO.bind ?_ (fun _ => ?_))
      | exact spec_Of.mono _ _ _
      | exact spec_less.mono _ _ _
      | exact spec_order.mono _ _ _
      | exact spec_sum.mono _ _ _
      | exact LeO.none _
      | refine LeO.ite ?_ ?_
      | refine LeO.bind ?_ (fun _ => ?_)
def spec_Int_Add.T2 : Bool × List (List Nat × List Nat) := (true, [([], []), ([0], [0]), ([], []), ([2], [2]), ([], []), ([4], [4]), ([3, 5], [3, 5]), ([1, 6, 6], [1, 6]), ([7, 7, 0, 1, 2, 3, 4, 5, 6, 7], [7])])
def spec_Int_Add.B2 : List Nat := [0, 1, 0, 4, 0, 16, 60, 127, 255]
theorem spec_Int_Add.tab2 : rtab .any (opsOf Tryz.f23 2) = spec_Int_Add.T2 := by kernel_rfl
theorem spec_Int_Add.bits2 : waitsOk spec_Int_Add.T2.2 spec_Int_Add.B2 = true := by kernel_rfl
def spec_Int_Add.T4 : Bool × List (List Nat × List Nat) := (true, [([], []), ([0], [0]), ([], []), ([2], [2]), ([], []), ([4], [4]), ([3, 5], [3, 5]), ([1, 6, 6], [1, 6]), ([7, 7, 0, 1, 2, 3, 4, 5, 6, 7], [7])])
def spec_Int_Add.B4 : List Nat := [0, 1, 0, 4, 0, 16, 60, 127, 255]
theorem spec_Int_Add.tab4 : rtab .any (opsOf Tryz.f23 4) = spec_Int_Add.T4 := by kernel_rfl
theorem spec_Int_Add.bits4 : waitsOk spec_Int_Add.T4.2 spec_Int_Add.B4 = true := by kernel_rfl
def spec_Int_Add.T5 : Bool × List (List Nat × List Nat) := (true, [([], []), ([0], [0]), ([], []), ([2], [2]), ([], []), ([4], [4]), ([3, 5], [3, 5]), ([1, 6, 6], [1, 6]), ([7, 7, 0, 1, 2, 3, 4, 5, 6, 7], [7])])
def spec_Int_Add.B5 : List Nat := [0, 1, 0, 4, 0, 16, 60, 127, 255]
theorem spec_Int_Add.tab5 : rtab .any (opsOf Tryz.f23 5) = spec_Int_Add.T5 := by kernel_rfl
theorem spec_Int_Add.bits5 : waitsOk spec_Int_Add.T5.2 spec_Int_Add.B5 = true := by kernel_rfl
set_option maxHeartbeats 8000000 in
set_option maxRecDepth 100000 in
theorem spec_Int_Add.calls (k : Nat) (a0_0 : Bool) (A0_1 : Option Addr) (c0_1 : Nat) (l0_1 : List Int) (a1_0 : Bool) (A1_1 : Option Addr) (c1_1 : Nat) (l1_1 : List Int) (r1 : Bool) (r2 : List Int) (w : World) (hr0_1 : Kd.C (Kd.int .u8) w A0_1 l0_1.length l0_1) (hc0_1 : l0_1.length ≤ c0_1) (hr1_1 : Kd.C (Kd.int .u8) w A1_1 l1_1.length l1_1) (hc1_1 : l1_1.length ≤ c1_1) (h : spec_Int_Add.f k a0_0 l0_1 a1_0 l1_1 = some (r1, r2)) :
    Calls Tryz.prog 23 #[.agg #[.bool a0_0, .slice A0_1 l0_1.length c0_1], .agg #[.bool a1_0, .slice A1_1 l1_1.length c1_1]] w fun e w' => ∃ v1_ : Value, e = .returned (.agg #[.bool r1, v1_]) ∧ Kd.R (Kd.int .u8) 5 w' w.heap.size (fun _ => True) v1_ r2 ∧ Below w.heap.size w w' := by
  have hu24 := Tryz.underlying24
  have HR0_1 := Aside0.mk hr0_1
  have HC0_1 := Aside0.mk hc0_1
  clear hr0_1 hc0_1
  have HR1_1 := Aside0.mk hr1_1
  have HC1_1 := Aside0.mk hc1_1
  clear hr1_1 hc1_1
  have HB := Aside0.mk (Below.refl w.heap.size w)
  have H : (if (a0_0 == a1_0) = true then ((spec_sum.f k l0_1 l1_1).bind fun t288 => ((spec_Of.f k a0_0 t288).bind fun bt291 => (some (bt291.1, bt291.2)))) else ((spec_order.f k l0_1 l1_1).bind fun t295 => (if t295 ≥ 0 then ((spec_less.f k l0_1 l1_1).bind fun t296 => ((spec_Of.f k a0_0 t296).bind fun bt299 => (some (bt299.1, bt299.2)))) else ((spec_less.f k l1_1 l0_1).bind fun t303 => ((spec_Of.f k a1_0 t303).bind fun bt306 => (some (bt306.1, bt306.2))))))) = some (r1, r2) := h
  clear h
  by_cases c3 : (a0_0 == a1_0) = true
  · rw [if_pos c3] at H
    have c3b0 : (a0_0 == a1_0) = true := c3
    (try (have c3b1 : decide (a0_0 = a1_0) = true := by simpa using c3))
    (try (have c3b2 : (a0_0 == a1_0) = true := by simpa using c3))
    clear c3
    replace H := Option.bind_eq_some_iff.mp H
    obtain ⟨t288, A40, H⟩ := H
    replace H : ((spec_Of.f k a0_0 t288).bind fun bt291 => (some (bt291.1, bt291.2))) = some (r1, r2) := H
    have A4 := Aside0.mk A40
    clear A40
    replace H := Option.bind_eq_some_iff.mp H
    obtain ⟨⟨t291, t292⟩, A50, H⟩ := H
    replace H : (some (t291, t292)) = some (r1, r2) := H
    have A5 := Aside0.mk A50
    clear A50
    simp only [Option.some.injEq, Prod.mk.injEq] at H
    obtain ⟨rfl, rfl⟩ := H
    go_enter Tryz.func23, Tryz.ntmps23
    try go_wp2_with (first | ((with_reducible refine gate_dst (N := 2) rfl ?_); refine box_event ?hg (N := 2) ?hd (cs := #[.bool a0_0, .slice A0_1 l0_1.length c0_1]) (t := 24) ?hr ?_; (case hd => rfl); (case hg => rfl); (case hr => first | (go_simp; done) | (go_simp; rfl)); intro gb285 hg w6 hbox hb; have n0_ := Aside0.mk (below_step HB.out hb); have n1_ := Aside0.mk (hbox); have n2_ := Aside0.mk ((by rw [hg]; exact (below_size HB.out) : w.heap.size ≤ gb285)); have n3_ := Aside0.mk ((by rw [hg]; exact (below_size HB.out) : w.heap.size ≤ gb285)); clear HB; have HB := n0_; have BK285 := n1_; have GW285 := n2_; have GE285 := n3_; clear n0_ n1_ n2_ n3_; clear hb hbox hg) | ((with_reducible refine gate_dst (N := 3) rfl ?_); refine box_event ?hg (N := 3) ?hd (cs := #[.bool a1_0, .slice A1_1 l1_1.length c1_1]) (t := 24) ?hr ?_; (case hd => rfl); (case hg => rfl); (case hr => first | (go_simp; done) | (go_simp; rfl)); intro gb286 hg w7 hbox hb; have n0_ := Aside0.mk (blk_below BK285.out hb); have n1_ := Aside0.mk (below_step HB.out hb); have n2_ := Aside0.mk (hbox); have n3_ := Aside0.mk ((by rw [hg]; exact (below_size HB.out) : w.heap.size ≤ gb286)); have n4_ := Aside0.mk ((by rw [hg]; exact (below_size HB.out) : w.heap.size ≤ gb286)); have n5_ := Aside0.mk ((by rw [hg]; exact Nat.ne_of_lt (blk_lt BK285.out) : gb285 ≠ gb286)); have n6_ := Aside0.mk ((by rw [hg]; exact Nat.ne_of_gt (blk_lt BK285.out) : gb286 ≠ gb285)); clear BK285; clear HB; have BK285 := n0_; have HB := n1_; have BK286 := n2_; have GW286 := n3_; have GE286 := n4_; have NB285_286 := n5_; have NB286_285 := n6_; clear n0_ n1_ n2_ n3_ n4_ n5_ n6_; clear hb hbox hg) | ((with_reducible refine gate_dst (N := 4) rfl ?_); refine box_event ?hg (N := 4) ?hd (cs := #[.bool false, .slice none 0 0]) (t := 24) ?hr ?_; (case hd => rfl); (case hg => rfl); (case hr => first | (go_simp; done) | (go_simp; rfl)); intro gb287 hg w8 hbox hb; have n0_ := Aside0.mk (blk_below BK285.out hb); have n1_ := Aside0.mk (blk_below BK286.out hb); have n2_ := Aside0.mk (below_step HB.out hb); have n3_ := Aside0.mk (hbox); have n4_ := Aside0.mk ((by rw [hg]; exact (below_size HB.out) : w.heap.size ≤ gb287)); have n5_ := Aside0.mk ((by rw [hg]; exact (below_size HB.out) : w.heap.size ≤ gb287)); have n6_ := Aside0.mk ((by rw [hg]; exact Nat.ne_of_lt (blk_lt BK285.out) : gb285 ≠ gb287)); have n7_ := Aside0.mk ((by rw [hg]; exact Nat.ne_of_gt (blk_lt BK285.out) : gb287 ≠ gb285)); have n8_ := Aside0.mk ((by rw [hg]; exact Nat.ne_of_lt (blk_lt BK286.out) : gb286 ≠ gb287)); have n9_ := Aside0.mk ((by rw [hg]; exact Nat.ne_of_gt (blk_lt BK286.out) : gb287 ≠ gb286)); clear BK285; clear BK286; clear HB; have BK285 := n0_; have BK286 := n1_; have HB := n2_; have BK287 := n3_; have GW287 := n4_; have GE287 := n5_; have NB285_287 := n6_; have NB287_285 := n7_; have NB286_287 := n8_; have NB287_286 := n9_; clear n0_ n1_ n2_ n3_ n4_ n5_ n6_ n7_ n8_ n9_; clear hb hbox hg; have hnb9 := NB285_286.out; have hnc9 := NB286_285.out; have hnb10 := NB285_287.out; have hnc10 := NB287_285.out; have hcz11_0 : w8.cell? ⟨gb285, 0, none⟩ = some (.bool a0_0) := (blk_cell BK285.out 0).trans rfl; have hcz11_1 : w8.cell? ⟨gb285, 1, none⟩ = some (.slice A0_1 l0_1.length c0_1) := (blk_cell BK285.out 1).trans rfl; have hfz11_0 := blk_frozen BK285.out 0; have hfz11_1 := blk_frozen BK285.out 1; have hnb12 := NB286_287.out; have hnc12 := NB287_286.out; have hcz13_0 : w8.cell? ⟨gb286, 0, none⟩ = some (.bool a1_0) := (blk_cell BK286.out 0).trans rfl; have hcz13_1 : w8.cell? ⟨gb286, 1, none⟩ = some (.slice A1_1 l1_1.length c1_1) := (blk_cell BK286.out 1).trans rfl; have hfz13_0 := blk_frozen BK286.out 0; have hfz13_1 := blk_frozen BK286.out 1))
    have n0_ := Aside0.mk (blk_drew BK285.out)
    have n1_ := Aside0.mk (blk_drew BK286.out)
    have n2_ := Aside0.mk (blk_drew BK287.out)
    have n3_ := Aside0.mk (below_drew1 HB.out)
    clear BK285
    clear BK286
    clear BK287
    clear HB
    have BK285 := n0_
    have BK286 := n1_
    have BK287 := n2_
    have HB := n3_
    clear n0_ n1_ n2_ n3_
    refine start_ (n := 9) (S := fun w' => w'.cell? ⟨gb285, 0, none⟩ = some (.bool a0_0) ∧ w'.cell? ⟨gb285, 1, none⟩ = some (.slice A0_1 l0_1.length c0_1) ∧ w'.cell? ⟨gb286, 0, none⟩ = some (.bool a1_0) ∧ w'.cell? ⟨gb286, 1, none⟩ = some (.slice A1_1 l1_1.length c1_1)) (ds := []) #[false, false, false, false, false, false, false, false, false] (by kernel_rfl) rfl rfl ⟨(blk_cell BK285.out 0).trans rfl, (blk_cell BK285.out 1).trans rfl, (blk_cell BK286.out 0).trans rfl, (blk_cell BK286.out 1).trans rfl⟩ (fun hHeld => ?_); refine with_tabW spec_Int_Add.tab2 spec_Int_Add.bits2 (fun HT_ HW_ => ?_)
    generalize w8.drew = w14 at BK285 BK286 BK287 HB hHeld ⊢
    refine pure_ (i := 0) (N := some 10) (v := ?_) (a' := ?_) #[true, false, false, false, false, false, false, false, false] rfl rfl (any_of HT_.out (by kernel_rfl)) (fun _ _ _ h => h) (Or.inl ⟨by rfl, ?_⟩) ?_ ?_
    rotate_left
    · intro w'
      go_simp
      with_reducible rfl
    rotate_left
    · simp only [Act.put, List.setIfInBounds_toArray, List.set_cons_zero, List.set_cons_succ, i64_w, i32_w]
      rfl
    refine pure_ (i := 2) (N := some 12) (v := ?_) (a' := ?_) #[true, false, true, false, false, false, false, false, false] rfl rfl (any_of HT_.out (by kernel_rfl)) (fun _ _ _ h => h) (Or.inl ⟨by rfl, ?_⟩) ?_ ?_
    rotate_left
    · intro w'
      go_simp
      with_reducible rfl
    rotate_left
    · simp only [Act.put, List.setIfInBounds_toArray, List.set_cons_zero, List.set_cons_succ, i64_w, i32_w]
      rfl
    refine pure_ (i := 4) (N := some 14) (v := ?_) (a' := ?_) #[true, false, true, false, true, false, false, false, false] rfl rfl (any_of HT_.out (by kernel_rfl)) (fun _ _ _ h => h) (Or.inl ⟨by rfl, ?_⟩) ?_ ?_
    rotate_left
    · intro w'
      go_simp
      with_reducible rfl
    rotate_left
    · simp only [Act.put, List.setIfInBounds_toArray, List.set_cons_zero, List.set_cons_succ, i64_w, i32_w]
      rfl
    refine take_ (i := 1) (N := some 11) (v := ?_) (a' := ?_) #[true, true, true, false, true, false, false, false, false] rfl rfl (take_ofW HT_.out HW_.out (by kernel_rfl)) (fun _ _ _ h => h) (Or.inl ⟨by rfl, ?_⟩) hHeld ?_ ?_
    rotate_left
    · rintro w' ⟨s0, s1, s2, s3⟩
      go_simp
      with_reducible rfl
    rotate_left
    · simp only [Act.put, List.setIfInBounds_toArray, List.set_cons_zero, List.set_cons_succ, i64_w, i32_w]
      rfl
    refine take_ (i := 3) (N := some 13) (v := ?_) (a' := ?_) #[true, true, true, true, true, false, false, false, false] rfl rfl (take_ofW HT_.out HW_.out (by kernel_rfl)) (fun _ _ _ h => h) (Or.inl ⟨by rfl, ?_⟩) hHeld ?_ ?_
    rotate_left
    · rintro w' ⟨s0, s1, s2, s3⟩
      go_simp
      with_reducible rfl
    rotate_left
    · simp only [Act.put, List.setIfInBounds_toArray, List.set_cons_zero, List.set_cons_succ, i64_w, i32_w]
      rfl
    refine take_ (i := 5) (N := some 15) (v := ?_) (a' := ?_) #[true, true, true, true, true, true, false, false, false] rfl rfl (take_ofW HT_.out HW_.out (by kernel_rfl)) (fun _ _ _ h => h) (Or.inl ⟨by rfl, ?_⟩) hHeld ?_ ?_
    rotate_left
    · rintro w' ⟨s0, s1, s2, s3⟩
      go_simp
      with_reducible rfl
    rotate_left
    · simp only [Act.put, List.setIfInBounds_toArray, List.set_cons_zero, List.set_cons_succ, i64_w, i32_w]
      rfl
    refine one_ (i := 6) (N := some 16) #[true, true, true, true, true, true, true, false, false] rfl rfl (one_of HT_.out (by kernel_rfl)) (by decide) (fun K hK => ?_)
    refine goes_ Tryz.func41 (by kernel_rfl) rfl #[.slice A0_1 l0_1.length c0_1, .slice A1_1 l1_1.length c1_1] (by rfl) rfl rfl (by (try simp only [List.map_toArray, List.map_cons, List.map_nil]); first | done | rfl | (simp only [List.length_drop, List.length_take]; rfl)) ?_
    with_reducible refine (spec_sum.calls k _ _ l0_1 _ _ l1_1 t288 _ ?side1 ?side2 ?side3 ?side4 A4.out).mono ?_
    (case side1 => repeat (first | exact (Kd.C_below HR0_1.out HB.out) | (with_reducible refine Kd.C_alloc ?_ _) | (with_reducible refine Kd.C_drewN ?_ _) | (with_reducible refine Kd.C_drew ?_)))
    (case side2 => exact HC0_1.out)
    (case side3 => repeat (first | exact (Kd.C_below HR1_1.out HB.out) | (with_reducible refine Kd.C_alloc ?_ _) | (with_reducible refine Kd.C_drewN ?_ _) | (with_reducible refine Kd.C_drew ?_)))
    (case side4 => exact HC1_1.out)
    rintro e w15 ⟨v289, rfl, ho0, hb⟩
    refine ⟨_, rfl, ?_⟩
    have n0_ := Aside0.mk (Kd.R_lower ho0 (below_size HB.out))
    have n1_ := Aside0.mk (blk_below BK285.out hb)
    have n2_ := Aside0.mk (blk_below BK286.out hb)
    have n3_ := Aside0.mk (blk_below BK287.out hb)
    have n4_ := Aside0.mk (below_step HB.out hb)
    clear BK285
    clear BK286
    clear BK287
    clear HB
    have HO290 := n0_
    have BK285 := n1_
    have BK286 := n2_
    have BK287 := n3_
    have HB := n4_
    clear n0_ n1_ n2_ n3_ n4_
    (try clear hb)
    (try clear hb2)
    (try clear hk)
    (try clear hi)
    (try clear ho0)
    obtain ⟨Ao16, co16, eo16⟩ := Kd.R_slice HO290.out
    (first | subst eo16 | (injection eo16 with f1_ f2_ f3_; have f4_ := f1_.symm; have f5_ := f3_.symm; clear f1_ f2_ f3_; subst f4_; subst f5_))
    refine hK.out _ _ ⟨(blk_cell BK285.out 0).trans rfl, (blk_cell BK285.out 1).trans rfl, (blk_cell BK286.out 0).trans rfl, (blk_cell BK286.out 1).trans rfl⟩ (fun hHeld => ?_)
    clear hK K
    refine norm_ (a' := ?_) ?_ ?_
    rotate_left
    · show Act.put _ (some 16) _ = _
      simp only [Act.put, List.setIfInBounds_toArray, List.set_cons_zero, List.set_cons_succ, i64_w, i32_w]
      rfl
    refine one_ (i := 7) (N := some 17) #[true, true, true, true, true, true, true, true, false] rfl rfl (one_of HT_.out (by kernel_rfl)) (by decide) (fun K hK => ?_)
    refine goes_ Tryz.func15 (by kernel_rfl) rfl #[.bool a0_0, .slice Ao16 t288.length co16] (by rfl) rfl rfl (by (try simp only [List.map_toArray, List.map_cons, List.map_nil]); first | done | rfl | (simp only [List.length_drop, List.length_take]; rfl)) ?_
    with_reducible refine (spec_Of.calls k a0_0 _ _ t288 t291 t292 _ ?side1 ?side2 A5.out).mono ?_
    (case side1 => repeat (first | exact (Kd.R_reads' HO290.out).2.2 | (with_reducible refine Kd.C_alloc ?_ _) | (with_reducible refine Kd.C_drewN ?_ _) | (with_reducible refine Kd.C_drew ?_)))
    (case side2 => exact (Kd.R_reads' HO290.out).2.1)
    rintro e w17 ⟨v293, rfl, ho0, hb⟩
    refine ⟨_, rfl, ?_⟩
    have n0_ := Aside0.mk (Kd.R_elder' HO290.out (Kd.R_base ho0) hb)
    have n1_ := Aside0.mk (Kd.R_lower (Kd.R_new' ho0 (Kd.R_lt HO290.out)) (below_size HB.out))
    have n2_ := Aside0.mk (blk_below BK285.out hb)
    have n3_ := Aside0.mk (blk_below BK286.out hb)
    have n4_ := Aside0.mk (blk_below BK287.out hb)
    have n5_ := Aside0.mk (below_step HB.out hb)
    clear HO290
    clear BK285
    clear BK286
    clear BK287
    clear HB
    have HO290 := n0_
    have HO294 := n1_
    have BK285 := n2_
    have BK286 := n3_
    have BK287 := n4_
    have HB := n5_
    clear n0_ n1_ n2_ n3_ n4_ n5_
    (try clear hb)
    (try clear hb2)
    (try clear hk)
    (try clear hi)
    (try clear ho0)
    obtain ⟨Ao19, co19, eo19⟩ := Kd.R_slice HO294.out
    (first | subst eo19 | (injection eo19 with f1_ f2_ f3_; have f4_ := f1_.symm; have f5_ := f3_.symm; clear f1_ f2_ f3_; subst f4_; subst f5_))
    refine hK.out _ _ ⟨(blk_cell BK285.out 0).trans rfl, (blk_cell BK285.out 1).trans rfl, (blk_cell BK286.out 0).trans rfl, (blk_cell BK286.out 1).trans rfl⟩ (fun hHeld => ?_)
    clear hK K
    refine norm_ (a' := ?_) ?_ ?_
    rotate_left
    · show Act.put _ (some 17) _ = _
      simp only [Act.put, List.setIfInBounds_toArray, List.set_cons_zero, List.set_cons_succ, i64_w, i32_w]
      rfl
    refine one_ (i := 8) (N := none) #[true, true, true, true, true, true, true, true, true] rfl rfl (one_of HT_.out (by kernel_rfl)) (by decide) (fun K hK => ?_)
    have hs18 : w17.cell? ⟨gb287, 0, none⟩ = some (.bool false) := (blk_cell BK287.out 0).trans rfl
    have hfs18 := blk_frozen BK287.out 0
    have hns18_0 := NB285_287.out
    have hns18_1 := NB286_287.out
    have hms18_0 := NB287_285.out
    have hms18_1 := NB287_286.out
    have hs20 : w17.cell? ⟨gb287, 1, none⟩ = some (.slice none 0 0) := (blk_cell BK287.out 1).trans rfl
    have hfs20 := blk_frozen BK287.out 1
    have hns20_0 := NB285_287.out
    have hns20_1 := NB286_287.out
    have hms20_0 := NB287_285.out
    have hms20_1 := NB287_286.out
    refine skip_ (w1 := ?_) (by rfl) rfl ?_ ?_
    rotate_left
    · go_simp
      rfl
    refine hK.out _ _ ⟨((cell_far (p := ⟨gb287, _, none⟩) NB285_287.out _).trans (((cell_far (p := ⟨gb287, _, none⟩) NB285_287.out _).trans (hHeld.1)))), ((cell_far (p := ⟨gb287, _, none⟩) NB285_287.out _).trans (((cell_far (p := ⟨gb287, _, none⟩) NB285_287.out _).trans (hHeld.2.1)))), ((cell_far (p := ⟨gb287, _, none⟩) NB286_287.out _).trans (((cell_far (p := ⟨gb287, _, none⟩) NB286_287.out _).trans (hHeld.2.2.1)))), ((cell_far (p := ⟨gb287, _, none⟩) NB286_287.out _).trans (((cell_far (p := ⟨gb287, _, none⟩) NB286_287.out _).trans (hHeld.2.2.2))))⟩ (fun hHeld => ?_)
    clear hK K
    refine done_ (done_of HT_.out (by kernel_rfl)) ?_
    try go_wp2
    refine bodyPost_ret (results_cell_row rfl _ _ gb287 24 #[.bool t291, .slice Ao19 t292.length co19] (0, 0) _ rfl (by (with_reducible repeat (first | refine blk_drewN ?_ _ | refine blk_drew ?_ | refine blk_alloc ?_ _)); refine blk_put (cs := #[.bool t291, .slice none 0 0]) ?_ 1 _ rfl; (with_reducible repeat (first | refine blk_drewN ?_ _ | refine blk_drew ?_ | refine blk_alloc ?_ _)); refine blk_put (cs := #[.bool false, .slice none 0 0]) ?_ 0 _ rfl; (with_reducible repeat (first | refine blk_drewN ?_ _ | refine blk_drew ?_ | refine blk_alloc ?_ _)); exact BK287.out) Tryz.underlying24 rfl (by kernel_rfl)) rfl ?_
    exact ⟨_, by first | rfl | (simp [errW_none, errW_some] <;> rfl) | (simp [*, errW_none, errW_some] <;> rfl), by (with_reducible repeat (first | apply Kd.R_alloc | apply Kd.R_drewN | apply Kd.R_drew)); exact Kd.R_mono (Kd.R_far (p := ⟨gb287, 1, none⟩) (Kd.R_far (p := ⟨gb287, 0, none⟩) (Kd.R_types HO294.out BK287.out (by decide)) (fun _ hk => hk.2) (.bool t291)) (fun _ hk => hk.2) (.slice Ao19 t292.length co19)) (fun _ hk => trivial), by repeat (first | (with_reducible first | exact HB.out | apply below_alloc | apply pw_below_drewN | apply below_drew1 | refine below_set ?_ GE285.out | refine below_set ?_ GE286.out | refine below_set ?_ GE287.out) | exact HB.out)⟩
  · rw [if_neg c3] at H
    have c3b0 : (a0_0 == a1_0) = false := by simpa using c3
    (try (have c3b1 : decide (a0_0 = a1_0) = false := by simpa using c3))
    (try (have c3b2 : (a0_0 == a1_0) = false := by simpa using c3))
    (try (have c3b3 : ¬ (a0_0 = a1_0) := by simpa using c3))
    clear c3
    replace H := Option.bind_eq_some_iff.mp H
    obtain ⟨t295, A210, H⟩ := H
    replace H : (if t295 ≥ 0 then ((spec_less.f k l0_1 l1_1).bind fun t296 => ((spec_Of.f k a0_0 t296).bind fun bt299 => (some (bt299.1, bt299.2)))) else ((spec_less.f k l1_1 l0_1).bind fun t303 => ((spec_Of.f k a1_0 t303).bind fun bt306 => (some (bt306.1, bt306.2))))) = some (r1, r2) := H
    have A21 := Aside0.mk A210
    clear A210
    by_cases c22 : t295 ≥ 0
    · rw [if_pos c22] at H
      have c22b0 : decide (0 ≤ t295) = true := decide_eq_true c22
      clear c22
      replace H := Option.bind_eq_some_iff.mp H
      obtain ⟨t296, A230, H⟩ := H
      replace H : ((spec_Of.f k a0_0 t296).bind fun bt299 => (some (bt299.1, bt299.2))) = some (r1, r2) := H
      have A23 := Aside0.mk A230
      clear A230
      replace H := Option.bind_eq_some_iff.mp H
      obtain ⟨⟨t299, t300⟩, A240, H⟩ := H
      replace H : (some (t299, t300)) = some (r1, r2) := H
      have A24 := Aside0.mk A240
      clear A240
      simp only [Option.some.injEq, Prod.mk.injEq] at H
      obtain ⟨rfl, rfl⟩ := H
      go_enter Tryz.func23, Tryz.ntmps23
      try go_wp2_with (first | ((with_reducible refine gate_dst (N := 2) rfl ?_); refine box_event ?hg (N := 2) ?hd (cs := #[.bool a0_0, .slice A0_1 l0_1.length c0_1]) (t := 24) ?hr ?_; (case hd => rfl); (case hg => rfl); (case hr => first | (go_simp; done) | (go_simp; rfl)); intro gb285 hg w25 hbox hb; have n0_ := Aside0.mk (below_step (by repeat (first | (with_reducible first | exact HB.out | apply below_alloc | apply pw_below_drewN | apply below_drew1) | exact HB.out)) hb); have n1_ := Aside0.mk (hbox); have n2_ := Aside0.mk ((by rw [hg]; exact (below_size (by repeat (first | (with_reducible first | exact HB.out | apply below_alloc | apply pw_below_drewN | apply below_drew1) | exact HB.out))) : w.heap.size ≤ gb285)); have n3_ := Aside0.mk ((by rw [hg]; exact (below_size (by repeat (first | (with_reducible first | exact HB.out | apply below_alloc | apply pw_below_drewN | apply below_drew1) | exact HB.out))) : w.heap.size ≤ gb285)); clear HB; have HB := n0_; have BK285 := n1_; have GW285 := n2_; have GE285 := n3_; clear n0_ n1_ n2_ n3_; clear hb hbox hg) | ((with_reducible refine gate_dst (N := 3) rfl ?_); refine box_event ?hg (N := 3) ?hd (cs := #[.bool a1_0, .slice A1_1 l1_1.length c1_1]) (t := 24) ?hr ?_; (case hd => rfl); (case hg => rfl); (case hr => first | (go_simp; done) | (go_simp; rfl)); intro gb286 hg w26 hbox hb; have n0_ := Aside0.mk (blk_below (g := gb285) (o := .cells #[.bool a0_0, .slice A0_1 l0_1.length c0_1] 24 (0, 0)) (by (with_reducible repeat (first | refine blk_drewN ?_ _ | refine blk_drew ?_ | refine blk_alloc ?_ _)); exact BK285.out) hb); have n1_ := Aside0.mk (below_step (by repeat (first | (with_reducible first | exact HB.out | apply below_alloc | apply pw_below_drewN | apply below_drew1 | refine below_set ?_ GE285.out) | exact HB.out)) hb); have n2_ := Aside0.mk (hbox); have n3_ := Aside0.mk ((by rw [hg]; exact (below_size (by repeat (first | (with_reducible first | exact HB.out | apply below_alloc | apply pw_below_drewN | apply below_drew1 | refine below_set ?_ GE285.out) | exact HB.out))) : w.heap.size ≤ gb286)); have n4_ := Aside0.mk ((by rw [hg]; exact (below_size (by repeat (first | (with_reducible first | exact HB.out | apply below_alloc | apply pw_below_drewN | apply below_drew1 | refine below_set ?_ GE285.out) | exact HB.out))) : w.heap.size ≤ gb286)); have n5_ := Aside0.mk ((by rw [hg]; exact Nat.ne_of_lt (blk_lt (g := gb285) (o := .cells #[.bool a0_0, .slice A0_1 l0_1.length c0_1] 24 (0, 0)) (by (with_reducible repeat (first | refine blk_drewN ?_ _ | refine blk_drew ?_ | refine blk_alloc ?_ _)); exact BK285.out)) : gb285 ≠ gb286)); have n6_ := Aside0.mk ((by rw [hg]; exact Nat.ne_of_gt (blk_lt (g := gb285) (o := .cells #[.bool a0_0, .slice A0_1 l0_1.length c0_1] 24 (0, 0)) (by (with_reducible repeat (first | refine blk_drewN ?_ _ | refine blk_drew ?_ | refine blk_alloc ?_ _)); exact BK285.out)) : gb286 ≠ gb285)); clear BK285; clear HB; have BK285 := n0_; have HB := n1_; have BK286 := n2_; have GW286 := n3_; have GE286 := n4_; have NB285_286 := n5_; have NB286_285 := n6_; clear n0_ n1_ n2_ n3_ n4_ n5_ n6_; clear hb hbox hg) | ((with_reducible refine gate_dst (N := 4) rfl ?_); refine box_event ?hg (N := 4) ?hd (cs := #[.bool false, .slice none 0 0]) (t := 24) ?hr ?_; (case hd => rfl); (case hg => rfl); (case hr => first | (go_simp; done) | (go_simp; rfl)); intro gb287 hg w27 hbox hb; have n0_ := Aside0.mk (blk_below (g := gb285) (o := .cells #[.bool a0_0, .slice A0_1 l0_1.length c0_1] 24 (0, 0)) (by (with_reducible repeat (first | refine blk_drewN ?_ _ | refine blk_drew ?_ | refine blk_alloc ?_ _)); exact BK285.out) hb); have n1_ := Aside0.mk (blk_below (g := gb286) (o := .cells #[.bool a1_0, .slice A1_1 l1_1.length c1_1] 24 (0, 0)) (by (with_reducible repeat (first | refine blk_drewN ?_ _ | refine blk_drew ?_ | refine blk_alloc ?_ _)); exact BK286.out) hb); have n2_ := Aside0.mk (below_step (by repeat (first | (with_reducible first | exact HB.out | apply below_alloc | apply pw_below_drewN | apply below_drew1 | refine below_set ?_ GE285.out | refine below_set ?_ GE286.out) | exact HB.out)) hb); have n3_ := Aside0.mk (hbox); have n4_ := Aside0.mk ((by rw [hg]; exact (below_size (by repeat (first | (with_reducible first | exact HB.out | apply below_alloc | apply pw_below_drewN | apply below_drew1 | refine below_set ?_ GE285.out | refine below_set ?_ GE286.out) | exact HB.out))) : w.heap.size ≤ gb287)); have n5_ := Aside0.mk ((by rw [hg]; exact (below_size (by repeat (first | (with_reducible first | exact HB.out | apply below_alloc | apply pw_below_drewN | apply below_drew1 | refine below_set ?_ GE285.out | refine below_set ?_ GE286.out) | exact HB.out))) : w.heap.size ≤ gb287)); have n6_ := Aside0.mk ((by rw [hg]; exact Nat.ne_of_lt (blk_lt (g := gb285) (o := .cells #[.bool a0_0, .slice A0_1 l0_1.length c0_1] 24 (0, 0)) (by (with_reducible repeat (first | refine blk_drewN ?_ _ | refine blk_drew ?_ | refine blk_alloc ?_ _)); exact BK285.out)) : gb285 ≠ gb287)); have n7_ := Aside0.mk ((by rw [hg]; exact Nat.ne_of_gt (blk_lt (g := gb285) (o := .cells #[.bool a0_0, .slice A0_1 l0_1.length c0_1] 24 (0, 0)) (by (with_reducible repeat (first | refine blk_drewN ?_ _ | refine blk_drew ?_ | refine blk_alloc ?_ _)); exact BK285.out)) : gb287 ≠ gb285)); have n8_ := Aside0.mk ((by rw [hg]; exact Nat.ne_of_lt (blk_lt (g := gb286) (o := .cells #[.bool a1_0, .slice A1_1 l1_1.length c1_1] 24 (0, 0)) (by (with_reducible repeat (first | refine blk_drewN ?_ _ | refine blk_drew ?_ | refine blk_alloc ?_ _)); exact BK286.out)) : gb286 ≠ gb287)); have n9_ := Aside0.mk ((by rw [hg]; exact Nat.ne_of_gt (blk_lt (g := gb286) (o := .cells #[.bool a1_0, .slice A1_1 l1_1.length c1_1] 24 (0, 0)) (by (with_reducible repeat (first | refine blk_drewN ?_ _ | refine blk_drew ?_ | refine blk_alloc ?_ _)); exact BK286.out)) : gb287 ≠ gb286)); clear BK285; clear BK286; clear HB; have BK285 := n0_; have BK286 := n1_; have HB := n2_; have BK287 := n3_; have GW287 := n4_; have GE287 := n5_; have NB285_287 := n6_; have NB287_285 := n7_; have NB286_287 := n8_; have NB287_286 := n9_; clear n0_ n1_ n2_ n3_ n4_ n5_ n6_ n7_ n8_ n9_; clear hb hbox hg; have hnb28 := NB285_286.out; have hnc28 := NB286_285.out; have hnb29 := NB285_287.out; have hnc29 := NB287_285.out; have hcz30_0 : w27.cell? ⟨gb285, 0, none⟩ = some (.bool a0_0) := (blk_cell BK285.out 0).trans rfl; have hcz30_1 : w27.cell? ⟨gb285, 1, none⟩ = some (.slice A0_1 l0_1.length c0_1) := (blk_cell BK285.out 1).trans rfl; have hfz30_0 := blk_frozen BK285.out 0; have hfz30_1 := blk_frozen BK285.out 1; have hnb31 := NB286_287.out; have hnc31 := NB287_286.out; have hcz32_0 : w27.cell? ⟨gb286, 0, none⟩ = some (.bool a1_0) := (blk_cell BK286.out 0).trans rfl; have hcz32_1 : w27.cell? ⟨gb286, 1, none⟩ = some (.slice A1_1 l1_1.length c1_1) := (blk_cell BK286.out 1).trans rfl; have hfz32_0 := blk_frozen BK286.out 0; have hfz32_1 := blk_frozen BK286.out 1) | ((with_reducible refine gate_callee (f := 39) rfl ?_); refine goesL_ (some 22) rfl rfl Tryz.func39 (by kernel_rfl) rfl #[.slice A0_1 l0_1.length c0_1, .slice A1_1 l1_1.length c1_1] rfl (by (try simp only [List.map_toArray, List.map_cons, List.map_nil]); first | done | rfl | (simp only [List.length_drop, List.length_take]; rfl)) ?_; (with_reducible refine (spec_order.calls k _ _ l0_1 _ _ l1_1 t295 _ ?side1 ?side2 ?side3 ?side4 A21.out).mono ?_); (case side1 => repeat (first | exact (Kd.C_below HR0_1.out HB.out) | (with_reducible refine Kd.C_alloc ?_ _) | (with_reducible refine Kd.C_drewN ?_ _) | (with_reducible refine Kd.C_drew ?_))); (case side2 => exact HC0_1.out); (case side3 => repeat (first | exact (Kd.C_below HR1_1.out HB.out) | (with_reducible refine Kd.C_alloc ?_ _) | (with_reducible refine Kd.C_drewN ?_ _) | (with_reducible refine Kd.C_drew ?_))); (case side4 => exact HC1_1.out); rintro e w' ⟨rfl, ⟨nd, rfl⟩⟩; refine ⟨_, rfl, ?_⟩; (try (rw [drewN_self w27]; generalize hq_ : World.drewN w27 _ = w27; have n0_ : Aside0 (w27.heap[gb285]? = some (.cells #[.bool a0_0, .slice A0_1 l0_1.length c0_1] 24 (0, 0))) := ⟨by rw [← hq_]; exact (by (with_reducible repeat (first | refine blk_drewN ?_ _ | refine blk_drew ?_ | refine blk_alloc ?_ _)); exact BK285.out)⟩; have n1_ : Aside0 (w27.heap[gb286]? = some (.cells #[.bool a1_0, .slice A1_1 l1_1.length c1_1] 24 (0, 0))) := ⟨by rw [← hq_]; exact (by (with_reducible repeat (first | refine blk_drewN ?_ _ | refine blk_drew ?_ | refine blk_alloc ?_ _)); exact BK286.out)⟩; have n2_ : Aside0 (w27.heap[gb287]? = some (.cells #[.bool false, .slice none 0 0] 24 (0, 0))) := ⟨by rw [← hq_]; exact (by (with_reducible repeat (first | refine blk_drewN ?_ _ | refine blk_drew ?_ | refine blk_alloc ?_ _)); exact BK287.out)⟩; have n3_ : Aside0 (Below w.heap.size w w27) := ⟨by rw [← hq_]; exact (by repeat (first | (with_reducible first | exact HB.out | apply below_alloc | apply pw_below_drewN | apply below_drew1 | refine below_set ?_ GE285.out | refine below_set ?_ GE286.out | refine below_set ?_ GE287.out) | exact HB.out))⟩; clear BK285 BK286 BK287 HB hq_; have BK285 := n0_; have BK286 := n1_; have BK287 := n2_; have HB := n3_; clear n0_ n1_ n2_ n3_))))
      have n0_ := Aside0.mk (blk_drew BK285.out)
      have n1_ := Aside0.mk (blk_drew BK286.out)
      have n2_ := Aside0.mk (blk_drew BK287.out)
      have n3_ := Aside0.mk (below_drew1 HB.out)
      clear BK285
      clear BK286
      clear BK287
      clear HB
      have BK285 := n0_
      have BK286 := n1_
      have BK287 := n2_
      have HB := n3_
      clear n0_ n1_ n2_ n3_
      refine start_ (n := 9) (S := fun w' => w'.cell? ⟨gb285, 0, none⟩ = some (.bool a0_0) ∧ w'.cell? ⟨gb285, 1, none⟩ = some (.slice A0_1 l0_1.length c0_1) ∧ w'.cell? ⟨gb286, 0, none⟩ = some (.bool a1_0) ∧ w'.cell? ⟨gb286, 1, none⟩ = some (.slice A1_1 l1_1.length c1_1)) (ds := []) #[false, false, false, false, false, false, false, false, false] (by kernel_rfl) rfl rfl ⟨(blk_cell BK285.out 0).trans rfl, (blk_cell BK285.out 1).trans rfl, (blk_cell BK286.out 0).trans rfl, (blk_cell BK286.out 1).trans rfl⟩ (fun hHeld => ?_); refine with_tabW spec_Int_Add.tab4 spec_Int_Add.bits4 (fun HT_ HW_ => ?_)
      generalize w27.drew = w33 at BK285 BK286 BK287 HB hHeld ⊢
      refine pure_ (i := 0) (N := some 24) (v := ?_) (a' := ?_) #[true, false, false, false, false, false, false, false, false] rfl rfl (any_of HT_.out (by kernel_rfl)) (fun _ _ _ h => h) (Or.inl ⟨by rfl, ?_⟩) ?_ ?_
      rotate_left
      · intro w'
        go_simp
        with_reducible rfl
      rotate_left
      · simp only [Act.put, List.setIfInBounds_toArray, List.set_cons_zero, List.set_cons_succ, i64_w, i32_w]
        rfl
      refine pure_ (i := 2) (N := some 26) (v := ?_) (a' := ?_) #[true, false, true, false, false, false, false, false, false] rfl rfl (any_of HT_.out (by kernel_rfl)) (fun _ _ _ h => h) (Or.inl ⟨by rfl, ?_⟩) ?_ ?_
      rotate_left
      · intro w'
        go_simp
        with_reducible rfl
      rotate_left
      · simp only [Act.put, List.setIfInBounds_toArray, List.set_cons_zero, List.set_cons_succ, i64_w, i32_w]
        rfl
      refine pure_ (i := 4) (N := some 28) (v := ?_) (a' := ?_) #[true, false, true, false, true, false, false, false, false] rfl rfl (any_of HT_.out (by kernel_rfl)) (fun _ _ _ h => h) (Or.inl ⟨by rfl, ?_⟩) ?_ ?_
      rotate_left
      · intro w'
        go_simp
        with_reducible rfl
      rotate_left
      · simp only [Act.put, List.setIfInBounds_toArray, List.set_cons_zero, List.set_cons_succ, i64_w, i32_w]
        rfl
      refine take_ (i := 1) (N := some 25) (v := ?_) (a' := ?_) #[true, true, true, false, true, false, false, false, false] rfl rfl (take_ofW HT_.out HW_.out (by kernel_rfl)) (fun _ _ _ h => h) (Or.inl ⟨by rfl, ?_⟩) hHeld ?_ ?_
      rotate_left
      · rintro w' ⟨s0, s1, s2, s3⟩
        go_simp
        with_reducible rfl
      rotate_left
      · simp only [Act.put, List.setIfInBounds_toArray, List.set_cons_zero, List.set_cons_succ, i64_w, i32_w]
        rfl
      refine take_ (i := 3) (N := some 27) (v := ?_) (a' := ?_) #[true, true, true, true, true, false, false, false, false] rfl rfl (take_ofW HT_.out HW_.out (by kernel_rfl)) (fun _ _ _ h => h) (Or.inl ⟨by rfl, ?_⟩) hHeld ?_ ?_
      rotate_left
      · rintro w' ⟨s0, s1, s2, s3⟩
        go_simp
        with_reducible rfl
      rotate_left
      · simp only [Act.put, List.setIfInBounds_toArray, List.set_cons_zero, List.set_cons_succ, i64_w, i32_w]
        rfl
      refine take_ (i := 5) (N := some 29) (v := ?_) (a' := ?_) #[true, true, true, true, true, true, false, false, false] rfl rfl (take_ofW HT_.out HW_.out (by kernel_rfl)) (fun _ _ _ h => h) (Or.inl ⟨by rfl, ?_⟩) hHeld ?_ ?_
      rotate_left
      · rintro w' ⟨s0, s1, s2, s3⟩
        go_simp
        with_reducible rfl
      rotate_left
      · simp only [Act.put, List.setIfInBounds_toArray, List.set_cons_zero, List.set_cons_succ, i64_w, i32_w]
        rfl
      refine one_ (i := 6) (N := some 30) #[true, true, true, true, true, true, true, false, false] rfl rfl (one_of HT_.out (by kernel_rfl)) (by decide) (fun K hK => ?_)
      refine goes_ Tryz.func42 (by kernel_rfl) rfl #[.slice A0_1 l0_1.length c0_1, .slice A1_1 l1_1.length c1_1] (by rfl) rfl rfl (by (try simp only [List.map_toArray, List.map_cons, List.map_nil]); first | done | rfl | (simp only [List.length_drop, List.length_take]; rfl)) ?_
      with_reducible refine (spec_less.calls k _ _ l0_1 _ _ l1_1 t296 _ ?side1 ?side2 ?side3 ?side4 A23.out).mono ?_
      (case side1 => repeat (first | exact (Kd.C_below HR0_1.out HB.out) | (with_reducible refine Kd.C_alloc ?_ _) | (with_reducible refine Kd.C_drewN ?_ _) | (with_reducible refine Kd.C_drew ?_)))
      (case side2 => exact HC0_1.out)
      (case side3 => repeat (first | exact (Kd.C_below HR1_1.out HB.out) | (with_reducible refine Kd.C_alloc ?_ _) | (with_reducible refine Kd.C_drewN ?_ _) | (with_reducible refine Kd.C_drew ?_)))
      (case side4 => exact HC1_1.out)
      rintro e w34 ⟨v297, rfl, ho0, hb⟩
      refine ⟨_, rfl, ?_⟩
      have n0_ := Aside0.mk (Kd.R_lower ho0 (below_size (by repeat (first | (with_reducible first | exact HB.out | apply below_alloc | apply pw_below_drewN | apply below_drew1 | refine below_set ?_ GE285.out | refine below_set ?_ GE286.out | refine below_set ?_ GE287.out) | exact HB.out))))
      have n1_ := Aside0.mk (blk_below BK285.out hb)
      have n2_ := Aside0.mk (blk_below BK286.out hb)
      have n3_ := Aside0.mk (blk_below BK287.out hb)
      have n4_ := Aside0.mk (below_step HB.out hb)
      clear BK285
      clear BK286
      clear BK287
      clear HB
      have HO298 := n0_
      have BK285 := n1_
      have BK286 := n2_
      have BK287 := n3_
      have HB := n4_
      clear n0_ n1_ n2_ n3_ n4_
      (try clear hb)
      (try clear hb2)
      (try clear hk)
      (try clear hi)
      (try clear ho0)
      obtain ⟨Ao35, co35, eo35⟩ := Kd.R_slice HO298.out
      (first | subst eo35 | (injection eo35 with f1_ f2_ f3_; have f4_ := f1_.symm; have f5_ := f3_.symm; clear f1_ f2_ f3_; subst f4_; subst f5_))
      refine hK.out _ _ ⟨(blk_cell BK285.out 0).trans rfl, (blk_cell BK285.out 1).trans rfl, (blk_cell BK286.out 0).trans rfl, (blk_cell BK286.out 1).trans rfl⟩ (fun hHeld => ?_)
      clear hK K
      refine norm_ (a' := ?_) ?_ ?_
      rotate_left
      · show Act.put _ (some 30) _ = _
        simp only [Act.put, List.setIfInBounds_toArray, List.set_cons_zero, List.set_cons_succ, i64_w, i32_w]
        rfl
      refine one_ (i := 7) (N := some 31) #[true, true, true, true, true, true, true, true, false] rfl rfl (one_of HT_.out (by kernel_rfl)) (by decide) (fun K hK => ?_)
      refine goes_ Tryz.func15 (by kernel_rfl) rfl #[.bool a0_0, .slice Ao35 t296.length co35] (by rfl) rfl rfl (by (try simp only [List.map_toArray, List.map_cons, List.map_nil]); first | done | rfl | (simp only [List.length_drop, List.length_take]; rfl)) ?_
      with_reducible refine (spec_Of.calls k a0_0 _ _ t296 t299 t300 _ ?side1 ?side2 A24.out).mono ?_
      (case side1 => repeat (first | exact (Kd.R_reads' HO298.out).2.2 | (with_reducible refine Kd.C_alloc ?_ _) | (with_reducible refine Kd.C_drewN ?_ _) | (with_reducible refine Kd.C_drew ?_)))
      (case side2 => exact (Kd.R_reads' HO298.out).2.1)
      rintro e w36 ⟨v301, rfl, ho0, hb⟩
      refine ⟨_, rfl, ?_⟩
      have n0_ := Aside0.mk (Kd.R_elder' HO298.out (Kd.R_base ho0) hb)
      have n1_ := Aside0.mk (Kd.R_lower (Kd.R_new' ho0 (Kd.R_lt HO298.out)) (below_size HB.out))
      have n2_ := Aside0.mk (blk_below BK285.out hb)
      have n3_ := Aside0.mk (blk_below BK286.out hb)
      have n4_ := Aside0.mk (blk_below BK287.out hb)
      have n5_ := Aside0.mk (below_step HB.out hb)
      clear HO298
      clear BK285
      clear BK286
      clear BK287
      clear HB
      have HO298 := n0_
      have HO302 := n1_
      have BK285 := n2_
      have BK286 := n3_
      have BK287 := n4_
      have HB := n5_
      clear n0_ n1_ n2_ n3_ n4_ n5_
      (try clear hb)
      (try clear hb2)
      (try clear hk)
      (try clear hi)
      (try clear ho0)
      obtain ⟨Ao38, co38, eo38⟩ := Kd.R_slice HO302.out
      (first | subst eo38 | (injection eo38 with f1_ f2_ f3_; have f4_ := f1_.symm; have f5_ := f3_.symm; clear f1_ f2_ f3_; subst f4_; subst f5_))
      refine hK.out _ _ ⟨(blk_cell BK285.out 0).trans rfl, (blk_cell BK285.out 1).trans rfl, (blk_cell BK286.out 0).trans rfl, (blk_cell BK286.out 1).trans rfl⟩ (fun hHeld => ?_)
      clear hK K
      refine norm_ (a' := ?_) ?_ ?_
      rotate_left
      · show Act.put _ (some 31) _ = _
        simp only [Act.put, List.setIfInBounds_toArray, List.set_cons_zero, List.set_cons_succ, i64_w, i32_w]
        rfl
      refine one_ (i := 8) (N := none) #[true, true, true, true, true, true, true, true, true] rfl rfl (one_of HT_.out (by kernel_rfl)) (by decide) (fun K hK => ?_)
      have hs37 : w36.cell? ⟨gb287, 0, none⟩ = some (.bool false) := (blk_cell BK287.out 0).trans rfl
      have hfs37 := blk_frozen BK287.out 0
      have hns37_0 := NB285_287.out
      have hns37_1 := NB286_287.out
      have hms37_0 := NB287_285.out
      have hms37_1 := NB287_286.out
      have hs39 : w36.cell? ⟨gb287, 1, none⟩ = some (.slice none 0 0) := (blk_cell BK287.out 1).trans rfl
      have hfs39 := blk_frozen BK287.out 1
      have hns39_0 := NB285_287.out
      have hns39_1 := NB286_287.out
      have hms39_0 := NB287_285.out
      have hms39_1 := NB287_286.out
      refine skip_ (w1 := ?_) (by rfl) rfl ?_ ?_
      rotate_left
      · go_simp
        rfl
      refine hK.out _ _ ⟨((cell_far (p := ⟨gb287, _, none⟩) NB285_287.out _).trans (((cell_far (p := ⟨gb287, _, none⟩) NB285_287.out _).trans (hHeld.1)))), ((cell_far (p := ⟨gb287, _, none⟩) NB285_287.out _).trans (((cell_far (p := ⟨gb287, _, none⟩) NB285_287.out _).trans (hHeld.2.1)))), ((cell_far (p := ⟨gb287, _, none⟩) NB286_287.out _).trans (((cell_far (p := ⟨gb287, _, none⟩) NB286_287.out _).trans (hHeld.2.2.1)))), ((cell_far (p := ⟨gb287, _, none⟩) NB286_287.out _).trans (((cell_far (p := ⟨gb287, _, none⟩) NB286_287.out _).trans (hHeld.2.2.2))))⟩ (fun hHeld => ?_)
      clear hK K
      refine done_ (done_of HT_.out (by kernel_rfl)) ?_
      try go_wp2
      refine bodyPost_ret (results_cell_row rfl _ _ gb287 24 #[.bool t299, .slice Ao38 t300.length co38] (0, 0) _ rfl (by (with_reducible repeat (first | refine blk_drewN ?_ _ | refine blk_drew ?_ | refine blk_alloc ?_ _)); refine blk_put (cs := #[.bool t299, .slice none 0 0]) ?_ 1 _ rfl; (with_reducible repeat (first | refine blk_drewN ?_ _ | refine blk_drew ?_ | refine blk_alloc ?_ _)); refine blk_put (cs := #[.bool false, .slice none 0 0]) ?_ 0 _ rfl; (with_reducible repeat (first | refine blk_drewN ?_ _ | refine blk_drew ?_ | refine blk_alloc ?_ _)); exact BK287.out) Tryz.underlying24 rfl (by kernel_rfl)) rfl ?_
      exact ⟨_, by first | rfl | (simp [errW_none, errW_some] <;> rfl) | (simp [*, errW_none, errW_some] <;> rfl), by (with_reducible repeat (first | apply Kd.R_alloc | apply Kd.R_drewN | apply Kd.R_drew)); exact Kd.R_mono (Kd.R_far (p := ⟨gb287, 1, none⟩) (Kd.R_far (p := ⟨gb287, 0, none⟩) (Kd.R_types HO302.out BK287.out (by decide)) (fun _ hk => hk.2) (.bool t299)) (fun _ hk => hk.2) (.slice Ao38 t300.length co38)) (fun _ hk => trivial), by repeat (first | (with_reducible first | exact HB.out | apply below_alloc | apply pw_below_drewN | apply below_drew1 | refine below_set ?_ GE285.out | refine below_set ?_ GE286.out | refine below_set ?_ GE287.out) | exact HB.out)⟩
    · rw [if_neg c22] at H
      have c22b0 : decide (0 ≤ t295) = false := decide_eq_false c22
      clear c22
      replace H := Option.bind_eq_some_iff.mp H
      obtain ⟨t303, A400, H⟩ := H
      replace H : ((spec_Of.f k a1_0 t303).bind fun bt306 => (some (bt306.1, bt306.2))) = some (r1, r2) := H
      have A40 := Aside0.mk A400
      clear A400
      replace H := Option.bind_eq_some_iff.mp H
      obtain ⟨⟨t306, t307⟩, A410, H⟩ := H
      replace H : (some (t306, t307)) = some (r1, r2) := H
      have A41 := Aside0.mk A410
      clear A410
      simp only [Option.some.injEq, Prod.mk.injEq] at H
      obtain ⟨rfl, rfl⟩ := H
      go_enter Tryz.func23, Tryz.ntmps23
      try go_wp2_with (first | ((with_reducible refine gate_dst (N := 2) rfl ?_); refine box_event ?hg (N := 2) ?hd (cs := #[.bool a0_0, .slice A0_1 l0_1.length c0_1]) (t := 24) ?hr ?_; (case hd => rfl); (case hg => rfl); (case hr => first | (go_simp; done) | (go_simp; rfl)); intro gb285 hg w42 hbox hb; have n0_ := Aside0.mk (below_step (by repeat (first | (with_reducible first | exact HB.out | apply below_alloc | apply pw_below_drewN | apply below_drew1) | exact HB.out)) hb); have n1_ := Aside0.mk (hbox); have n2_ := Aside0.mk ((by rw [hg]; exact (below_size (by repeat (first | (with_reducible first | exact HB.out | apply below_alloc | apply pw_below_drewN | apply below_drew1) | exact HB.out))) : w.heap.size ≤ gb285)); have n3_ := Aside0.mk ((by rw [hg]; exact (below_size (by repeat (first | (with_reducible first | exact HB.out | apply below_alloc | apply pw_below_drewN | apply below_drew1) | exact HB.out))) : w.heap.size ≤ gb285)); clear HB; have HB := n0_; have BK285 := n1_; have GW285 := n2_; have GE285 := n3_; clear n0_ n1_ n2_ n3_; clear hb hbox hg) | ((with_reducible refine gate_dst (N := 3) rfl ?_); refine box_event ?hg (N := 3) ?hd (cs := #[.bool a1_0, .slice A1_1 l1_1.length c1_1]) (t := 24) ?hr ?_; (case hd => rfl); (case hg => rfl); (case hr => first | (go_simp; done) | (go_simp; rfl)); intro gb286 hg w43 hbox hb; have n0_ := Aside0.mk (blk_below (g := gb285) (o := .cells #[.bool a0_0, .slice A0_1 l0_1.length c0_1] 24 (0, 0)) (by (with_reducible repeat (first | refine blk_drewN ?_ _ | refine blk_drew ?_ | refine blk_alloc ?_ _)); exact BK285.out) hb); have n1_ := Aside0.mk (below_step (by repeat (first | (with_reducible first | exact HB.out | apply below_alloc | apply pw_below_drewN | apply below_drew1 | refine below_set ?_ GE285.out) | exact HB.out)) hb); have n2_ := Aside0.mk (hbox); have n3_ := Aside0.mk ((by rw [hg]; exact (below_size (by repeat (first | (with_reducible first | exact HB.out | apply below_alloc | apply pw_below_drewN | apply below_drew1 | refine below_set ?_ GE285.out) | exact HB.out))) : w.heap.size ≤ gb286)); have n4_ := Aside0.mk ((by rw [hg]; exact (below_size (by repeat (first | (with_reducible first | exact HB.out | apply below_alloc | apply pw_below_drewN | apply below_drew1 | refine below_set ?_ GE285.out) | exact HB.out))) : w.heap.size ≤ gb286)); have n5_ := Aside0.mk ((by rw [hg]; exact Nat.ne_of_lt (blk_lt (g := gb285) (o := .cells #[.bool a0_0, .slice A0_1 l0_1.length c0_1] 24 (0, 0)) (by (with_reducible repeat (first | refine blk_drewN ?_ _ | refine blk_drew ?_ | refine blk_alloc ?_ _)); exact BK285.out)) : gb285 ≠ gb286)); have n6_ := Aside0.mk ((by rw [hg]; exact Nat.ne_of_gt (blk_lt (g := gb285) (o := .cells #[.bool a0_0, .slice A0_1 l0_1.length c0_1] 24 (0, 0)) (by (with_reducible repeat (first | refine blk_drewN ?_ _ | refine blk_drew ?_ | refine blk_alloc ?_ _)); exact BK285.out)) : gb286 ≠ gb285)); clear BK285; clear HB; have BK285 := n0_; have HB := n1_; have BK286 := n2_; have GW286 := n3_; have GE286 := n4_; have NB285_286 := n5_; have NB286_285 := n6_; clear n0_ n1_ n2_ n3_ n4_ n5_ n6_; clear hb hbox hg) | ((with_reducible refine gate_dst (N := 4) rfl ?_); refine box_event ?hg (N := 4) ?hd (cs := #[.bool false, .slice none 0 0]) (t := 24) ?hr ?_; (case hd => rfl); (case hg => rfl); (case hr => first | (go_simp; done) | (go_simp; rfl)); intro gb287 hg w44 hbox hb; have n0_ := Aside0.mk (blk_below (g := gb285) (o := .cells #[.bool a0_0, .slice A0_1 l0_1.length c0_1] 24 (0, 0)) (by (with_reducible repeat (first | refine blk_drewN ?_ _ | refine blk_drew ?_ | refine blk_alloc ?_ _)); exact BK285.out) hb); have n1_ := Aside0.mk (blk_below (g := gb286) (o := .cells #[.bool a1_0, .slice A1_1 l1_1.length c1_1] 24 (0, 0)) (by (with_reducible repeat (first | refine blk_drewN ?_ _ | refine blk_drew ?_ | refine blk_alloc ?_ _)); exact BK286.out) hb); have n2_ := Aside0.mk (below_step (by repeat (first | (with_reducible first | exact HB.out | apply below_alloc | apply pw_below_drewN | apply below_drew1 | refine below_set ?_ GE285.out | refine below_set ?_ GE286.out) | exact HB.out)) hb); have n3_ := Aside0.mk (hbox); have n4_ := Aside0.mk ((by rw [hg]; exact (below_size (by repeat (first | (with_reducible first | exact HB.out | apply below_alloc | apply pw_below_drewN | apply below_drew1 | refine below_set ?_ GE285.out | refine below_set ?_ GE286.out) | exact HB.out))) : w.heap.size ≤ gb287)); have n5_ := Aside0.mk ((by rw [hg]; exact (below_size (by repeat (first | (with_reducible first | exact HB.out | apply below_alloc | apply pw_below_drewN | apply below_drew1 | refine below_set ?_ GE285.out | refine below_set ?_ GE286.out) | exact HB.out))) : w.heap.size ≤ gb287)); have n6_ := Aside0.mk ((by rw [hg]; exact Nat.ne_of_lt (blk_lt (g := gb285) (o := .cells #[.bool a0_0, .slice A0_1 l0_1.length c0_1] 24 (0, 0)) (by (with_reducible repeat (first | refine blk_drewN ?_ _ | refine blk_drew ?_ | refine blk_alloc ?_ _)); exact BK285.out)) : gb285 ≠ gb287)); have n7_ := Aside0.mk ((by rw [hg]; exact Nat.ne_of_gt (blk_lt (g := gb285) (o := .cells #[.bool a0_0, .slice A0_1 l0_1.length c0_1] 24 (0, 0)) (by (with_reducible repeat (first | refine blk_drewN ?_ _ | refine blk_drew ?_ | refine blk_alloc ?_ _)); exact BK285.out)) : gb287 ≠ gb285)); have n8_ := Aside0.mk ((by rw [hg]; exact Nat.ne_of_lt (blk_lt (g := gb286) (o := .cells #[.bool a1_0, .slice A1_1 l1_1.length c1_1] 24 (0, 0)) (by (with_reducible repeat (first | refine blk_drewN ?_ _ | refine blk_drew ?_ | refine blk_alloc ?_ _)); exact BK286.out)) : gb286 ≠ gb287)); have n9_ := Aside0.mk ((by rw [hg]; exact Nat.ne_of_gt (blk_lt (g := gb286) (o := .cells #[.bool a1_0, .slice A1_1 l1_1.length c1_1] 24 (0, 0)) (by (with_reducible repeat (first | refine blk_drewN ?_ _ | refine blk_drew ?_ | refine blk_alloc ?_ _)); exact BK286.out)) : gb287 ≠ gb286)); clear BK285; clear BK286; clear HB; have BK285 := n0_; have BK286 := n1_; have HB := n2_; have BK287 := n3_; have GW287 := n4_; have GE287 := n5_; have NB285_287 := n6_; have NB287_285 := n7_; have NB286_287 := n8_; have NB287_286 := n9_; clear n0_ n1_ n2_ n3_ n4_ n5_ n6_ n7_ n8_ n9_; clear hb hbox hg; have hnb45 := NB285_286.out; have hnc45 := NB286_285.out; have hnb46 := NB285_287.out; have hnc46 := NB287_285.out; have hcz47_0 : w44.cell? ⟨gb285, 0, none⟩ = some (.bool a0_0) := (blk_cell BK285.out 0).trans rfl; have hcz47_1 : w44.cell? ⟨gb285, 1, none⟩ = some (.slice A0_1 l0_1.length c0_1) := (blk_cell BK285.out 1).trans rfl; have hfz47_0 := blk_frozen BK285.out 0; have hfz47_1 := blk_frozen BK285.out 1; have hnb48 := NB286_287.out; have hnc48 := NB287_286.out; have hcz49_0 : w44.cell? ⟨gb286, 0, none⟩ = some (.bool a1_0) := (blk_cell BK286.out 0).trans rfl; have hcz49_1 : w44.cell? ⟨gb286, 1, none⟩ = some (.slice A1_1 l1_1.length c1_1) := (blk_cell BK286.out 1).trans rfl; have hfz49_0 := blk_frozen BK286.out 0; have hfz49_1 := blk_frozen BK286.out 1) | ((with_reducible refine gate_callee (f := 39) rfl ?_); refine goesL_ (some 22) rfl rfl Tryz.func39 (by kernel_rfl) rfl #[.slice A0_1 l0_1.length c0_1, .slice A1_1 l1_1.length c1_1] rfl (by (try simp only [List.map_toArray, List.map_cons, List.map_nil]); first | done | rfl | (simp only [List.length_drop, List.length_take]; rfl)) ?_; (with_reducible refine (spec_order.calls k _ _ l0_1 _ _ l1_1 t295 _ ?side1 ?side2 ?side3 ?side4 A21.out).mono ?_); (case side1 => repeat (first | exact (Kd.C_below HR0_1.out HB.out) | (with_reducible refine Kd.C_alloc ?_ _) | (with_reducible refine Kd.C_drewN ?_ _) | (with_reducible refine Kd.C_drew ?_))); (case side2 => exact HC0_1.out); (case side3 => repeat (first | exact (Kd.C_below HR1_1.out HB.out) | (with_reducible refine Kd.C_alloc ?_ _) | (with_reducible refine Kd.C_drewN ?_ _) | (with_reducible refine Kd.C_drew ?_))); (case side4 => exact HC1_1.out); rintro e w' ⟨rfl, ⟨nd, rfl⟩⟩; refine ⟨_, rfl, ?_⟩; (try (rw [drewN_self w44]; generalize hq_ : World.drewN w44 _ = w44; have n0_ : Aside0 (w44.heap[gb285]? = some (.cells #[.bool a0_0, .slice A0_1 l0_1.length c0_1] 24 (0, 0))) := ⟨by rw [← hq_]; exact (by (with_reducible repeat (first | refine blk_drewN ?_ _ | refine blk_drew ?_ | refine blk_alloc ?_ _)); exact BK285.out)⟩; have n1_ : Aside0 (w44.heap[gb286]? = some (.cells #[.bool a1_0, .slice A1_1 l1_1.length c1_1] 24 (0, 0))) := ⟨by rw [← hq_]; exact (by (with_reducible repeat (first | refine blk_drewN ?_ _ | refine blk_drew ?_ | refine blk_alloc ?_ _)); exact BK286.out)⟩; have n2_ : Aside0 (w44.heap[gb287]? = some (.cells #[.bool false, .slice none 0 0] 24 (0, 0))) := ⟨by rw [← hq_]; exact (by (with_reducible repeat (first | refine blk_drewN ?_ _ | refine blk_drew ?_ | refine blk_alloc ?_ _)); exact BK287.out)⟩; have n3_ : Aside0 (Below w.heap.size w w44) := ⟨by rw [← hq_]; exact (by repeat (first | (with_reducible first | exact HB.out | apply below_alloc | apply pw_below_drewN | apply below_drew1 | refine below_set ?_ GE285.out | refine below_set ?_ GE286.out | refine below_set ?_ GE287.out) | exact HB.out))⟩; clear BK285 BK286 BK287 HB hq_; have BK285 := n0_; have BK286 := n1_; have BK287 := n2_; have HB := n3_; clear n0_ n1_ n2_ n3_))))
      have n0_ := Aside0.mk (blk_drew BK285.out)
      have n1_ := Aside0.mk (blk_drew BK286.out)
      have n2_ := Aside0.mk (blk_drew BK287.out)
      have n3_ := Aside0.mk (below_drew1 HB.out)
      clear BK285
      clear BK286
      clear BK287
      clear HB
      have BK285 := n0_
      have BK286 := n1_
      have BK287 := n2_
      have HB := n3_
      clear n0_ n1_ n2_ n3_
      refine start_ (n := 9) (S := fun w' => w'.cell? ⟨gb286, 0, none⟩ = some (.bool a1_0) ∧ w'.cell? ⟨gb286, 1, none⟩ = some (.slice A1_1 l1_1.length c1_1) ∧ w'.cell? ⟨gb285, 0, none⟩ = some (.bool a0_0) ∧ w'.cell? ⟨gb285, 1, none⟩ = some (.slice A0_1 l0_1.length c0_1)) (ds := []) #[false, false, false, false, false, false, false, false, false] (by kernel_rfl) rfl rfl ⟨(blk_cell BK286.out 0).trans rfl, (blk_cell BK286.out 1).trans rfl, (blk_cell BK285.out 0).trans rfl, (blk_cell BK285.out 1).trans rfl⟩ (fun hHeld => ?_); refine with_tabW spec_Int_Add.tab5 spec_Int_Add.bits5 (fun HT_ HW_ => ?_)
      generalize w44.drew = w50 at BK285 BK286 BK287 HB hHeld ⊢
      refine pure_ (i := 0) (N := some 32) (v := ?_) (a' := ?_) #[true, false, false, false, false, false, false, false, false] rfl rfl (any_of HT_.out (by kernel_rfl)) (fun _ _ _ h => h) (Or.inl ⟨by rfl, ?_⟩) ?_ ?_
      rotate_left
      · intro w'
        go_simp
        with_reducible rfl
      rotate_left
      · simp only [Act.put, List.setIfInBounds_toArray, List.set_cons_zero, List.set_cons_succ, i64_w, i32_w]
        rfl
      refine pure_ (i := 2) (N := some 34) (v := ?_) (a' := ?_) #[true, false, true, false, false, false, false, false, false] rfl rfl (any_of HT_.out (by kernel_rfl)) (fun _ _ _ h => h) (Or.inl ⟨by rfl, ?_⟩) ?_ ?_
      rotate_left
      · intro w'
        go_simp
        with_reducible rfl
      rotate_left
      · simp only [Act.put, List.setIfInBounds_toArray, List.set_cons_zero, List.set_cons_succ, i64_w, i32_w]
        rfl
      refine pure_ (i := 4) (N := some 36) (v := ?_) (a' := ?_) #[true, false, true, false, true, false, false, false, false] rfl rfl (any_of HT_.out (by kernel_rfl)) (fun _ _ _ h => h) (Or.inl ⟨by rfl, ?_⟩) ?_ ?_
      rotate_left
      · intro w'
        go_simp
        with_reducible rfl
      rotate_left
      · simp only [Act.put, List.setIfInBounds_toArray, List.set_cons_zero, List.set_cons_succ, i64_w, i32_w]
        rfl
      refine take_ (i := 1) (N := some 33) (v := ?_) (a' := ?_) #[true, true, true, false, true, false, false, false, false] rfl rfl (take_ofW HT_.out HW_.out (by kernel_rfl)) (fun _ _ _ h => h) (Or.inl ⟨by rfl, ?_⟩) hHeld ?_ ?_
      rotate_left
      · rintro w' ⟨s0, s1, s2, s3⟩
        go_simp
        with_reducible rfl
      rotate_left
      · simp only [Act.put, List.setIfInBounds_toArray, List.set_cons_zero, List.set_cons_succ, i64_w, i32_w]
        rfl
      refine take_ (i := 3) (N := some 35) (v := ?_) (a' := ?_) #[true, true, true, true, true, false, false, false, false] rfl rfl (take_ofW HT_.out HW_.out (by kernel_rfl)) (fun _ _ _ h => h) (Or.inl ⟨by rfl, ?_⟩) hHeld ?_ ?_
      rotate_left
      · rintro w' ⟨s0, s1, s2, s3⟩
        go_simp
        with_reducible rfl
      rotate_left
      · simp only [Act.put, List.setIfInBounds_toArray, List.set_cons_zero, List.set_cons_succ, i64_w, i32_w]
        rfl
      refine take_ (i := 5) (N := some 37) (v := ?_) (a' := ?_) #[true, true, true, true, true, true, false, false, false] rfl rfl (take_ofW HT_.out HW_.out (by kernel_rfl)) (fun _ _ _ h => h) (Or.inl ⟨by rfl, ?_⟩) hHeld ?_ ?_
      rotate_left
      · rintro w' ⟨s0, s1, s2, s3⟩
        go_simp
        with_reducible rfl
      rotate_left
      · simp only [Act.put, List.setIfInBounds_toArray, List.set_cons_zero, List.set_cons_succ, i64_w, i32_w]
        rfl
      refine one_ (i := 6) (N := some 38) #[true, true, true, true, true, true, true, false, false] rfl rfl (one_of HT_.out (by kernel_rfl)) (by decide) (fun K hK => ?_)
      refine goes_ Tryz.func42 (by kernel_rfl) rfl #[.slice A1_1 l1_1.length c1_1, .slice A0_1 l0_1.length c0_1] (by rfl) rfl rfl (by (try simp only [List.map_toArray, List.map_cons, List.map_nil]); first | done | rfl | (simp only [List.length_drop, List.length_take]; rfl)) ?_
      with_reducible refine (spec_less.calls k _ _ l1_1 _ _ l0_1 t303 _ ?side1 ?side2 ?side3 ?side4 A40.out).mono ?_
      (case side1 => repeat (first | exact (Kd.C_below HR1_1.out HB.out) | (with_reducible refine Kd.C_alloc ?_ _) | (with_reducible refine Kd.C_drewN ?_ _) | (with_reducible refine Kd.C_drew ?_)))
      (case side2 => exact HC1_1.out)
      (case side3 => repeat (first | exact (Kd.C_below HR0_1.out HB.out) | (with_reducible refine Kd.C_alloc ?_ _) | (with_reducible refine Kd.C_drewN ?_ _) | (with_reducible refine Kd.C_drew ?_)))
      (case side4 => exact HC0_1.out)
      rintro e w51 ⟨v304, rfl, ho0, hb⟩
      refine ⟨_, rfl, ?_⟩
      have n0_ := Aside0.mk (Kd.R_lower ho0 (below_size (by repeat (first | (with_reducible first | exact HB.out | apply below_alloc | apply pw_below_drewN | apply below_drew1 | refine below_set ?_ GE285.out | refine below_set ?_ GE286.out | refine below_set ?_ GE287.out) | exact HB.out))))
      have n1_ := Aside0.mk (blk_below BK285.out hb)
      have n2_ := Aside0.mk (blk_below BK286.out hb)
      have n3_ := Aside0.mk (blk_below BK287.out hb)
      have n4_ := Aside0.mk (below_step HB.out hb)
      clear BK285
      clear BK286
      clear BK287
      clear HB
      have HO305 := n0_
      have BK285 := n1_
      have BK286 := n2_
      have BK287 := n3_
      have HB := n4_
      clear n0_ n1_ n2_ n3_ n4_
      (try clear hb)
      (try clear hb2)
      (try clear hk)
      (try clear hi)
      (try clear ho0)
      obtain ⟨Ao52, co52, eo52⟩ := Kd.R_slice HO305.out
      (first | subst eo52 | (injection eo52 with f1_ f2_ f3_; have f4_ := f1_.symm; have f5_ := f3_.symm; clear f1_ f2_ f3_; subst f4_; subst f5_))
      refine hK.out _ _ ⟨(blk_cell BK286.out 0).trans rfl, (blk_cell BK286.out 1).trans rfl, (blk_cell BK285.out 0).trans rfl, (blk_cell BK285.out 1).trans rfl⟩ (fun hHeld => ?_)
      clear hK K
      refine norm_ (a' := ?_) ?_ ?_
      rotate_left
      · show Act.put _ (some 38) _ = _
        simp only [Act.put, List.setIfInBounds_toArray, List.set_cons_zero, List.set_cons_succ, i64_w, i32_w]
        rfl
      refine one_ (i := 7) (N := some 39) #[true, true, true, true, true, true, true, true, false] rfl rfl (one_of HT_.out (by kernel_rfl)) (by decide) (fun K hK => ?_)
      refine goes_ Tryz.func15 (by kernel_rfl) rfl #[.bool a1_0, .slice Ao52 t303.length co52] (by rfl) rfl rfl (by (try simp only [List.map_toArray, List.map_cons, List.map_nil]); first | done | rfl | (simp only [List.length_drop, List.length_take]; rfl)) ?_
      with_reducible refine (spec_Of.calls k a1_0 _ _ t303 t306 t307 _ ?side1 ?side2 A41.out).mono ?_
      (case side1 => repeat (first | exact (Kd.R_reads' HO305.out).2.2 | (with_reducible refine Kd.C_alloc ?_ _) | (with_reducible refine Kd.C_drewN ?_ _) | (with_reducible refine Kd.C_drew ?_)))
      (case side2 => exact (Kd.R_reads' HO305.out).2.1)
      rintro e w53 ⟨v308, rfl, ho0, hb⟩
      refine ⟨_, rfl, ?_⟩
      have n0_ := Aside0.mk (Kd.R_elder' HO305.out (Kd.R_base ho0) hb)
      have n1_ := Aside0.mk (Kd.R_lower (Kd.R_new' ho0 (Kd.R_lt HO305.out)) (below_size HB.out))
      have n2_ := Aside0.mk (blk_below BK285.out hb)
      have n3_ := Aside0.mk (blk_below BK286.out hb)
      have n4_ := Aside0.mk (blk_below BK287.out hb)
      have n5_ := Aside0.mk (below_step HB.out hb)
      clear HO305
      clear BK285
      clear BK286
      clear BK287
      clear HB
      have HO305 := n0_
      have HO309 := n1_
      have BK285 := n2_
      have BK286 := n3_
      have BK287 := n4_
      have HB := n5_
      clear n0_ n1_ n2_ n3_ n4_ n5_
      (try clear hb)
      (try clear hb2)
      (try clear hk)
      (try clear hi)
      (try clear ho0)
      obtain ⟨Ao55, co55, eo55⟩ := Kd.R_slice HO309.out
      (first | subst eo55 | (injection eo55 with f1_ f2_ f3_; have f4_ := f1_.symm; have f5_ := f3_.symm; clear f1_ f2_ f3_; subst f4_; subst f5_))
      refine hK.out _ _ ⟨(blk_cell BK286.out 0).trans rfl, (blk_cell BK286.out 1).trans rfl, (blk_cell BK285.out 0).trans rfl, (blk_cell BK285.out 1).trans rfl⟩ (fun hHeld => ?_)
      clear hK K
      refine norm_ (a' := ?_) ?_ ?_
      rotate_left
      · show Act.put _ (some 39) _ = _
        simp only [Act.put, List.setIfInBounds_toArray, List.set_cons_zero, List.set_cons_succ, i64_w, i32_w]
        rfl
      refine one_ (i := 8) (N := none) #[true, true, true, true, true, true, true, true, true] rfl rfl (one_of HT_.out (by kernel_rfl)) (by decide) (fun K hK => ?_)
      have hs54 : w53.cell? ⟨gb287, 0, none⟩ = some (.bool false) := (blk_cell BK287.out 0).trans rfl
      have hfs54 := blk_frozen BK287.out 0
      have hns54_0 := NB285_287.out
      have hns54_1 := NB286_287.out
      have hms54_0 := NB287_285.out
      have hms54_1 := NB287_286.out
      have hs56 : w53.cell? ⟨gb287, 1, none⟩ = some (.slice none 0 0) := (blk_cell BK287.out 1).trans rfl
      have hfs56 := blk_frozen BK287.out 1
      have hns56_0 := NB285_287.out
      have hns56_1 := NB286_287.out
      have hms56_0 := NB287_285.out
      have hms56_1 := NB287_286.out
      refine skip_ (w1 := ?_) (by rfl) rfl ?_ ?_
      rotate_left
      · go_simp
        rfl
      refine hK.out _ _ ⟨((cell_far (p := ⟨gb287, _, none⟩) NB286_287.out _).trans (((cell_far (p := ⟨gb287, _, none⟩) NB286_287.out _).trans (hHeld.1)))), ((cell_far (p := ⟨gb287, _, none⟩) NB286_287.out _).trans (((cell_far (p := ⟨gb287, _, none⟩) NB286_287.out _).trans (hHeld.2.1)))), ((cell_far (p := ⟨gb287, _, none⟩) NB285_287.out _).trans (((cell_far (p := ⟨gb287, _, none⟩) NB285_287.out _).trans (hHeld.2.2.1)))), ((cell_far (p := ⟨gb287, _, none⟩) NB285_287.out _).trans (((cell_far (p := ⟨gb287, _, none⟩) NB285_287.out _).trans (hHeld.2.2.2))))⟩ (fun hHeld => ?_)
      clear hK K
      refine done_ (done_of HT_.out (by kernel_rfl)) ?_
      try go_wp2
      refine bodyPost_ret (results_cell_row rfl _ _ gb287 24 #[.bool t306, .slice Ao55 t307.length co55] (0, 0) _ rfl (by (with_reducible repeat (first | refine blk_drewN ?_ _ | refine blk_drew ?_ | refine blk_alloc ?_ _)); refine blk_put (cs := #[.bool t306, .slice none 0 0]) ?_ 1 _ rfl; (with_reducible repeat (first | refine blk_drewN ?_ _ | refine blk_drew ?_ | refine blk_alloc ?_ _)); refine blk_put (cs := #[.bool false, .slice none 0 0]) ?_ 0 _ rfl; (with_reducible repeat (first | refine blk_drewN ?_ _ | refine blk_drew ?_ | refine blk_alloc ?_ _)); exact BK287.out) Tryz.underlying24 rfl (by kernel_rfl)) rfl ?_
      exact ⟨_, by first | rfl | (simp [errW_none, errW_some] <;> rfl) | (simp [*, errW_none, errW_some] <;> rfl), by (with_reducible repeat (first | apply Kd.R_alloc | apply Kd.R_drewN | apply Kd.R_drew)); exact Kd.R_mono (Kd.R_far (p := ⟨gb287, 1, none⟩) (Kd.R_far (p := ⟨gb287, 0, none⟩) (Kd.R_types HO309.out BK287.out (by decide)) (fun _ hk => hk.2) (.bool t306)) (fun _ hk => hk.2) (.slice Ao55 t307.length co55)) (fun _ hk => trivial), by repeat (first | (with_reducible first | exact HB.out | apply below_alloc | apply pw_below_drewN | apply below_drew1 | refine below_set ?_ GE285.out | refine below_set ?_ GE286.out | refine below_set ?_ GE287.out) | exact HB.out)⟩


/-! ### spec_Int_low: function 26 -/
theorem spec_Int_low.mono_l : ∀ k, (∀ y0 y1 y2 y3, LeO (spec_Int_low.l0 k y0 y1 y2 y3) (spec_Int_low.l0 (k + 1) y0 y1 y2 y3))
  | 0 => fun _ _ _ _ r h => by simp [spec_Int_low.l0] at h
  | k + 1 => by
    have ih0 := spec_Int_low.mono_l k
    · intro y0 y1 y2 y3
      unfold spec_Int_low.l0
      repeat' first
      | (with_reducible exact ih0 _ _ _ _)
      | (with_reducible exact LeO.refl _)
      | (with_reducible exact LeO.none _)
      | (with_reducible refine LeO.ite ?_ ?_)
      | (with_reducible refine LeO.bind ?_ (fun _ => ?_))
      | exact ih0 _ _ _ _
      | exact LeO.none _
      | refine LeO.ite ?_ ?_
      | refine LeO.bind ?_ (fun _ => ?_)
theorem spec_Int_low.mono : ∀ a0 a1 k, LeO (spec_Int_low.f k a0 a1) (spec_Int_low.f (k + 1) a0 a1) := by
  intro a0 a1 k
  have ih0 := spec_Int_low.mono_l k
  unfold spec_Int_low.f
  repeat' first
      | (with_reducible exact ih0 _ _ _ _)
      | (with_reducible exact LeO.refl _)
      | (with_reducible exact LeO.none _)
      | (with_reducible refine LeO.ite ?_ ?_)
      | (with_reducible refine LeO.bind ?_ (fun _ => ?_))
      | exact ih0 _ _ _ _
      | exact LeO.none _
      | refine LeO.ite ?_ ?_
      | refine LeO.bind ?_ (fun _ => ?_)
set_option maxHeartbeats 8000000 in
set_option maxRecDepth 100000 in
theorem spec_Int_low.calls (k : Nat) (a0_0 : Bool) (A0_1 : Option Addr) (c0_1 : Nat) (l0_1 : List Int) (r : Int) (w : World) (hr0_1 : Kd.C (Kd.int .u8) w A0_1 l0_1.length l0_1) (hc0_1 : l0_1.length ≤ c0_1) (h : spec_Int_low.f k a0_0 l0_1 = some r) :
    Calls Tryz.prog 26 #[.agg #[.bool a0_0, .slice A0_1 l0_1.length c0_1]] w fun e w' => e = .returned (.int .u64 r) ∧ Below w.heap.size w w' := by
  have hu24 := Tryz.underlying24
  have HR0_1 := Aside0.mk hr0_1
  have HC0_1 := Aside0.mk hc0_1
  clear hr0_1 hc0_1
  have HB := Aside0.mk (Below.refl w.heap.size w)
  have H : (spec_Int_low.l0 k 0 7 a0_0 l0_1) = some r := h
  clear h
  have H' := Aside0.mk H
  clear H
  go_enter Tryz.func26, Tryz.ntmps26
  go_wp2_with (first | ((with_reducible refine gate_dst (N := 1) rfl ?_); refine box_event ?hg (N := 1) ?hd (cs := #[.bool a0_0, .slice A0_1 l0_1.length c0_1]) (t := 24) ?hr ?_; (case hd => rfl); (case hg => rfl); (case hr => first | (go_simp; done) | (go_simp; rfl)); intro gb368 hg w2 hbox hb; have n0_ := Aside0.mk (below_step HB.out hb); have n1_ := Aside0.mk (hbox); have n2_ := Aside0.mk ((by rw [hg]; exact (below_size HB.out) : w.heap.size ≤ gb368)); have n3_ := Aside0.mk ((by rw [hg]; exact (below_size HB.out) : w.heap.size ≤ gb368)); clear HB; have HB := n0_; have BK368 := n1_; have GW368 := n2_; have GE368 := n3_; clear n0_ n1_ n2_ n3_; clear hb hbox hg))
  go_loopg [3, 4] k (fun kq v3 v4 w' => ∃ (x3_1 : Int) (x4_1 : Int), v3 = .int .u64 x3_1 ∧ v4 = .int .i64 x4_1 ∧ Aside0 (spec_Int_low.l0 kq x3_1 x4_1 a0_0 l0_1 = some r) ∧ Aside0 (kq ≤ k) ∧ Aside0 (w'.heap[gb368]? = some (.cells #[.bool a0_0, (.slice A0_1 l0_1.length c0_1)] 24 (0, 0))) ∧ Aside0 (Below w.heap.size w w'))
  case atStart => exact ⟨(0), (7), (by first | rfl | (simp; done) | (simp [*]; done)), (by first | rfl | (simp; done) | (simp [*]; done)), H', ⟨Nat.le_refl _⟩, ⟨by (with_reducible repeat (first | refine blk_drewN ?_ _ | refine blk_drew ?_ | refine blk_alloc ?_ _)); exact BK368.out⟩, ⟨by repeat (first | (with_reducible first | exact HB.out | apply below_alloc | apply pw_below_drewN | apply below_drew1 | refine below_set ?_ GE368.out) | exact HB.out)⟩⟩
  case round =>
    clear H'
    try clear p2
    obtain ⟨x3_1, x4_1, rfl, rfl, HA, HK1, BK368, HB⟩ := hrel
    cases gk with
    | zero => exact absurd HA.out (by simp [spec_Int_low.l0])
    | succ k1 =>
      have H := HA.out
      clear HA
      simp only [spec_Int_low.l0] at H
      by_cases c3 : x4_1 ≥ 0
      · rw [if_pos c3] at H
        have c3b0 : decide (0 ≤ x4_1) = true := decide_eq_true c3
        clear c3
        replace H := Option.bind_eq_some_iff.mp H
        obtain ⟨t369, A40, H⟩ := H
        replace H : (spec_Int_low.l0 k1 (Go.bits .or .u64 (IntKind.u64.wrap (x3_1 * 256)) (IntKind.u64.wrap (t369))) (wrap64 (x4_1 - 1)) a0_0 l0_1) = some r := H
        have A4 := Aside0.mk A40
        clear A40
        have H' := Aside0.mk H
        clear H
        have hcz5_0 : wr.cell? ⟨gb368, 0, none⟩ = some (.bool a0_0) := (blk_cell BK368.out 0).trans rfl
        have hcz5_1 : wr.cell? ⟨gb368, 1, none⟩ = some (.slice A0_1 l0_1.length c0_1) := (blk_cell BK368.out 1).trans rfl
        have hfz5_0 := blk_frozen BK368.out 0
        have hfz5_1 := blk_frozen BK368.out 1
        go_wp2_with (first | ((with_reducible refine gate_callee (f := 40) rfl ?_); refine goesL_ (some 14) rfl rfl Tryz.func40 (by kernel_rfl) rfl #[.slice A0_1 l0_1.length c0_1, .int .i64 x4_1] rfl (by (try simp only [List.map_toArray, List.map_cons, List.map_nil]); first | done | rfl | (simp only [List.length_drop, List.length_take]; rfl)) ?_; (with_reducible refine (spec_digit.calls _ _ l0_1 x4_1 t369 _ ?side1 ?side2 A4.out).mono ?_); (case side1 => repeat (first | exact (Kd.C_below HR0_1.out HB.out) | (with_reducible refine Kd.C_alloc ?_ _) | (with_reducible refine Kd.C_drewN ?_ _) | (with_reducible refine Kd.C_drew ?_))); (case side2 => exact HC0_1.out); rintro e w' ⟨rfl, ⟨nd, rfl⟩⟩; refine ⟨_, rfl, ?_⟩))
        go_roundg k1
        case measure => have := HK1.out; omega
        case rel => exact ⟨(Go.bits .or .u64 (IntKind.u64.wrap (x3_1 * 256)) (IntKind.u64.wrap (t369))), (wrap64 (x4_1 - 1)), (by first | rfl | (simp; done) | (simp [*]; done)), (by first | rfl | (simp; done) | (simp [*]; done)), H', ⟨by have := HK1.out; omega⟩, ⟨by (with_reducible repeat (first | refine blk_drewN ?_ _ | refine blk_drew ?_ | refine blk_alloc ?_ _)); exact BK368.out⟩, ⟨by repeat (first | (with_reducible first | exact HB.out | apply below_alloc | apply pw_below_drewN | apply below_drew1 | refine below_set ?_ GE368.out) | exact HB.out)⟩⟩
      · rw [if_neg c3] at H
        have c3b0 : decide (0 ≤ x4_1) = false := decide_eq_false c3
        clear c3
        obtain rfl := Option.some.inj H
        go_wp2
        go_ret
        exact ⟨by first | rfl | (simp [errW_none, errW_some] <;> rfl) | (simp [*, errW_none, errW_some] <;> rfl), by repeat (first | (with_reducible first | exact HB.out | apply below_alloc | apply pw_below_drewN | apply below_drew1 | refine below_set ?_ GE368.out) | exact HB.out)⟩


end Go.Proofs.YtodipcgilgigbaaGreatDoor.I
