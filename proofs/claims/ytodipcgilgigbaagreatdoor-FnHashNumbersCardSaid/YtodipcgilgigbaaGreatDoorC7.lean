/- Contracts of this claim's functions: each call gives what the plain mirror (in the text D) gives; the proofs are the kit's print, over D's definitions. -/
import Derived.Test.YtodipcgilgigbaaGreatDoorC6
namespace Go.Proofs.YtodipcgilgigbaaGreatDoor.I
open Go.RowKit Go.Proofs.YtodipcgilgigbaaGreatDoorW.PrintWords Go.Proofs.YtodipcgilgigbaaGreatDoorW.PrintLast Go.Proofs.YtodipcgilgigbaaGreatDoorW.PrintMore
attribute [local go_sem] max2_int min2_int max_two min_two max_three min_three max_four min_four
set_option linter.unusedVariables false
set_option linter.unusedSimpArgs false

/-! ### spec_Int_Floor: function 34 -/
theorem spec_Int_Floor.mono : ∀ a0 a1 a2 a3 k, LeO (spec_Int_Floor.f k a0 a1 a2 a3) (spec_Int_Floor.f (k + 1) a0 a1 a2 a3) := by
  intro a0 a1 a2 a3 k
  unfold spec_Int_Floor.f
  repeat' first
      | (with_reducible exact spec_Of.mono _ _ _)
      | (with_reducible exact spec_less.mono _ _ _)
      | (with_reducible exact spec_split.mono _ _ _)
      | (with_reducible exact spec_sum.mono _ _ _)
      | (with_reducible exact LeO.refl _)
      | (with_reducible exact LeO.none _)
      | (with_reducible refine LeO.ite ?_ ?_)
      | (with_reducible refine LeO.bind ?_ (fun _ => ?_))
      | exact spec_Of.mono _ _ _
      | exact spec_less.mono _ _ _
      | exact spec_split.mono _ _ _
      | exact spec_sum.mono _ _ _
      | exact LeO.none _
      | refine LeO.ite ?_ ?_
      | refine LeO.bind ?_ (fun _ => ?_)
def spec_Int_Floor.T3 : Bool × List (List Nat × List Nat) := (true, [([], []), ([0], [0]), ([], []), ([2], [2]), ([], []), ([3, 4, 1], [3, 4]), ([1, 5, 0, 1], [1]), ([5, 6, 0, 1, 2, 3, 4, 5, 6], [5])])
def spec_Int_Floor.B3 : List Nat := [0, 1, 0, 4, 0, 31, 63, 127]
theorem spec_Int_Floor.tab3 : rtab .any (opsOf Tryz.f34 3) = spec_Int_Floor.T3 := by kernel_rfl
theorem spec_Int_Floor.bits3 : waitsOk spec_Int_Floor.T3.2 spec_Int_Floor.B3 = true := by kernel_rfl
def spec_Int_Floor.T6 : Bool × List (List Nat × List Nat) := (true, [([], []), ([], []), ([0, 1], [0, 1]), ([2, 2], [2]), ([], []), ([4], [4]), ([], []), ([6], [6]), ([], []), ([7, 8, 3], [7, 8]), ([5, 9, 9], [5, 9]), ([3, 10, 0, 1, 2, 3], [3]), ([10, 11, 0, 1, 2, 3, 4, 5, 6, 7, 8, 9, 10, 11], [10])])
def spec_Int_Floor.B6 : List Nat := [0, 0, 3, 7, 0, 16, 0, 64, 0, 463, 1023, 2047, 4095]
theorem spec_Int_Floor.tab6 : rtab .any (opsOf Tryz.f34 6) = spec_Int_Floor.T6 := by kernel_rfl
theorem spec_Int_Floor.bits6 : waitsOk spec_Int_Floor.T6.2 spec_Int_Floor.B6 = true := by kernel_rfl
set_option maxHeartbeats 8000000 in
set_option maxRecDepth 100000 in
theorem spec_Int_Floor.calls (k : Nat) (a0_0 : Bool) (A0_1 : Option Addr) (c0_1 : Nat) (l0_1 : List Int) (a1_0 : Bool) (A1_1 : Option Addr) (c1_1 : Nat) (l1_1 : List Int) (r1 : Bool) (r2 : List Int) (r3 : Bool) (r4 : List Int) (w : World) (hr0_1 : Kd.C (Kd.int .u8) w A0_1 l0_1.length l0_1) (hc0_1 : l0_1.length ≤ c0_1) (hr1_1 : Kd.C (Kd.int .u8) w A1_1 l1_1.length l1_1) (hc1_1 : l1_1.length ≤ c1_1) (h : spec_Int_Floor.f k a0_0 l0_1 a1_0 l1_1 = some (r1, r2, r3, r4)) :
    Calls Tryz.prog 34 #[.agg #[.bool a0_0, .slice A0_1 l0_1.length c0_1], .agg #[.bool a1_0, .slice A1_1 l1_1.length c1_1]] w fun e w' => ∃ v1_ v3_ : Value, e = .returned (.tuple #[.agg #[.bool r1, v1_], .agg #[.bool r3, v3_]]) ∧ Kd.R (Kd.int .u8) 5 w' w.heap.size (fun k_ => some k_ ≠ (v3_ : Value).ownBlock) v1_ r2 ∧ Kd.R (Kd.int .u8) 5 w' w.heap.size (fun k_ => some k_ ≠ (v1_ : Value).ownBlock) v3_ r4 ∧ Below w.heap.size w w' := by
  have hu24 := Tryz.underlying24
  have HR0_1 := Aside0.mk hr0_1
  have HC0_1 := Aside0.mk hc0_1
  clear hr0_1 hc0_1
  have HR1_1 := Aside0.mk hr1_1
  have HC1_1 := Aside0.mk hc1_1
  clear hr1_1 hc1_1
  have HB := Aside0.mk (Below.refl w.heap.size w)
  have H : ((spec_split.f k l0_1 l1_1).bind fun bt230 => (if (a0_0 == a1_0) = true then ((spec_Of.f k false bt230.1).bind fun bt236 => ((spec_Of.f k a1_0 bt230.2).bind fun bt240 => (some (bt236.1, bt236.2, bt240.1, bt240.2)))) else (if (bt230.2.length : Int) = 0 then ((spec_Of.f k true bt230.1).bind fun bt244 => (some (bt244.1, bt244.2, false, ([] : List Int)))) else ((spec_sum.f k bt230.1 (([1] : List Int))).bind fun t251 => ((spec_Of.f k true t251).bind fun bt254 => ((spec_less.f k l1_1 bt230.2).bind fun t258 => ((spec_Of.f k a1_0 t258).bind fun bt261 => (some (bt254.1, bt254.2, bt261.1, bt261.2))))))))) = some (r1, r2, r3, r4) := h
  clear h
  replace H := Option.bind_eq_some_iff.mp H
  obtain ⟨⟨t230, t231⟩, A30, H⟩ := H
  replace H : (if (a0_0 == a1_0) = true then ((spec_Of.f k false t230).bind fun bt236 => ((spec_Of.f k a1_0 t231).bind fun bt240 => (some (bt236.1, bt236.2, bt240.1, bt240.2)))) else (if (t231.length : Int) = 0 then ((spec_Of.f k true t230).bind fun bt244 => (some (bt244.1, bt244.2, false, ([] : List Int)))) else ((spec_sum.f k t230 (([1] : List Int))).bind fun t251 => ((spec_Of.f k true t251).bind fun bt254 => ((spec_less.f k l1_1 t231).bind fun t258 => ((spec_Of.f k a1_0 t258).bind fun bt261 => (some (bt254.1, bt254.2, bt261.1, bt261.2)))))))) = some (r1, r2, r3, r4) := H
  have A3 := Aside0.mk A30
  clear A30
  by_cases c4 : (a0_0 == a1_0) = true
  · rw [if_pos c4] at H
    have c4b0 : (a0_0 == a1_0) = true := c4
    (try (have c4b1 : decide (a0_0 = a1_0) = true := by simpa using c4))
    (try (have c4b2 : (a0_0 == a1_0) = true := by simpa using c4))
    clear c4
    replace H := Option.bind_eq_some_iff.mp H
    obtain ⟨⟨t236, t237⟩, A50, H⟩ := H
    replace H : ((spec_Of.f k a1_0 t231).bind fun bt240 => (some (t236, t237, bt240.1, bt240.2))) = some (r1, r2, r3, r4) := H
    have A5 := Aside0.mk A50
    clear A50
    replace H := Option.bind_eq_some_iff.mp H
    obtain ⟨⟨t240, t241⟩, A60, H⟩ := H
    replace H : (some (t236, t237, t240, t241)) = some (r1, r2, r3, r4) := H
    have A6 := Aside0.mk A60
    clear A60
    simp only [Option.some.injEq, Prod.mk.injEq] at H
    obtain ⟨rfl, rfl, rfl, rfl⟩ := H
    go_enter Tryz.func34, Tryz.ntmps34
    try go_wp2_with (first | ((with_reducible refine gate_dst (N := 2) rfl ?_); refine box_event ?hg (N := 2) ?hd (cs := #[.bool a0_0, .slice A0_1 l0_1.length c0_1]) (t := 24) ?hr ?_; (case hd => rfl); (case hg => rfl); (case hr => first | (go_simp; done) | (go_simp; rfl)); intro gb226 hg w7 hbox hb; have n0_ := Aside0.mk (below_step HB.out hb); have n1_ := Aside0.mk (hbox); have n2_ := Aside0.mk ((by rw [hg]; exact (below_size HB.out) : w.heap.size ≤ gb226)); have n3_ := Aside0.mk ((by rw [hg]; exact (below_size HB.out) : w.heap.size ≤ gb226)); clear HB; have HB := n0_; have BK226 := n1_; have GW226 := n2_; have GE226 := n3_; clear n0_ n1_ n2_ n3_; clear hb hbox hg) | ((with_reducible refine gate_dst (N := 3) rfl ?_); refine box_event ?hg (N := 3) ?hd (cs := #[.bool a1_0, .slice A1_1 l1_1.length c1_1]) (t := 24) ?hr ?_; (case hd => rfl); (case hg => rfl); (case hr => first | (go_simp; done) | (go_simp; rfl)); intro gb227 hg w8 hbox hb; have n0_ := Aside0.mk (blk_below BK226.out hb); have n1_ := Aside0.mk (below_step HB.out hb); have n2_ := Aside0.mk (hbox); have n3_ := Aside0.mk ((by rw [hg]; exact (below_size HB.out) : w.heap.size ≤ gb227)); have n4_ := Aside0.mk ((by rw [hg]; exact (below_size HB.out) : w.heap.size ≤ gb227)); have n5_ := Aside0.mk ((by rw [hg]; exact Nat.ne_of_lt (blk_lt BK226.out) : gb226 ≠ gb227)); have n6_ := Aside0.mk ((by rw [hg]; exact Nat.ne_of_gt (blk_lt BK226.out) : gb227 ≠ gb226)); clear BK226; clear HB; have BK226 := n0_; have HB := n1_; have BK227 := n2_; have GW227 := n3_; have GE227 := n4_; have NB226_227 := n5_; have NB227_226 := n6_; clear n0_ n1_ n2_ n3_ n4_ n5_ n6_; clear hb hbox hg) | ((with_reducible refine gate_dst (N := 4) rfl ?_); refine box_event ?hg (N := 4) ?hd (cs := #[.bool false, .slice none 0 0]) (t := 24) ?hr ?_; (case hd => rfl); (case hg => rfl); (case hr => first | (go_simp; done) | (go_simp; rfl)); intro gb228 hg w9 hbox hb; have n0_ := Aside0.mk (blk_below BK226.out hb); have n1_ := Aside0.mk (blk_below BK227.out hb); have n2_ := Aside0.mk (below_step HB.out hb); have n3_ := Aside0.mk (hbox); have n4_ := Aside0.mk ((by rw [hg]; exact (below_size HB.out) : w.heap.size ≤ gb228)); have n5_ := Aside0.mk ((by rw [hg]; exact (below_size HB.out) : w.heap.size ≤ gb228)); have n6_ := Aside0.mk ((by rw [hg]; exact Nat.ne_of_lt (blk_lt BK226.out) : gb226 ≠ gb228)); have n7_ := Aside0.mk ((by rw [hg]; exact Nat.ne_of_gt (blk_lt BK226.out) : gb228 ≠ gb226)); have n8_ := Aside0.mk ((by rw [hg]; exact Nat.ne_of_lt (blk_lt BK227.out) : gb227 ≠ gb228)); have n9_ := Aside0.mk ((by rw [hg]; exact Nat.ne_of_gt (blk_lt BK227.out) : gb228 ≠ gb227)); clear BK226; clear BK227; clear HB; have BK226 := n0_; have BK227 := n1_; have HB := n2_; have BK228 := n3_; have GW228 := n4_; have GE228 := n5_; have NB226_228 := n6_; have NB228_226 := n7_; have NB227_228 := n8_; have NB228_227 := n9_; clear n0_ n1_ n2_ n3_ n4_ n5_ n6_ n7_ n8_ n9_; clear hb hbox hg) | ((with_reducible refine gate_dst (N := 5) rfl ?_); refine box_event ?hg (N := 5) ?hd (cs := #[.bool false, .slice none 0 0]) (t := 24) ?hr ?_; (case hd => rfl); (case hg => rfl); (case hr => first | (go_simp; done) | (go_simp; rfl)); intro gb229 hg w10 hbox hb; have n0_ := Aside0.mk (blk_below BK226.out hb); have n1_ := Aside0.mk (blk_below BK227.out hb); have n2_ := Aside0.mk (blk_below BK228.out hb); have n3_ := Aside0.mk (below_step HB.out hb); have n4_ := Aside0.mk (hbox); have n5_ := Aside0.mk ((by rw [hg]; exact (below_size HB.out) : w.heap.size ≤ gb229)); have n6_ := Aside0.mk ((by rw [hg]; exact (below_size HB.out) : w.heap.size ≤ gb229)); have n7_ := Aside0.mk ((by rw [hg]; exact Nat.ne_of_lt (blk_lt BK226.out) : gb226 ≠ gb229)); have n8_ := Aside0.mk ((by rw [hg]; exact Nat.ne_of_gt (blk_lt BK226.out) : gb229 ≠ gb226)); have n9_ := Aside0.mk ((by rw [hg]; exact Nat.ne_of_lt (blk_lt BK227.out) : gb227 ≠ gb229)); have n10_ := Aside0.mk ((by rw [hg]; exact Nat.ne_of_gt (blk_lt BK227.out) : gb229 ≠ gb227)); have n11_ := Aside0.mk ((by rw [hg]; exact Nat.ne_of_lt (blk_lt BK228.out) : gb228 ≠ gb229)); have n12_ := Aside0.mk ((by rw [hg]; exact Nat.ne_of_gt (blk_lt BK228.out) : gb229 ≠ gb228)); clear BK226; clear BK227; clear BK228; clear HB; have BK226 := n0_; have BK227 := n1_; have BK228 := n2_; have HB := n3_; have BK229 := n4_; have GW229 := n5_; have GE229 := n6_; have NB226_229 := n7_; have NB229_226 := n8_; have NB227_229 := n9_; have NB229_227 := n10_; have NB228_229 := n11_; have NB229_228 := n12_; clear n0_ n1_ n2_ n3_ n4_ n5_ n6_ n7_ n8_ n9_ n10_ n11_ n12_; clear hb hbox hg; have hnb11 := NB226_227.out; have hnc11 := NB227_226.out; have hnb12 := NB226_228.out; have hnc12 := NB228_226.out; have hnb13 := NB226_229.out; have hnc13 := NB229_226.out; have hcz14_0 : w10.cell? ⟨gb226, 0, none⟩ = some (.bool a0_0) := (blk_cell BK226.out 0).trans rfl; have hcz14_1 : w10.cell? ⟨gb226, 1, none⟩ = some (.slice A0_1 l0_1.length c0_1) := (blk_cell BK226.out 1).trans rfl; have hfz14_0 := blk_frozen BK226.out 0; have hfz14_1 := blk_frozen BK226.out 1; have hnb15 := NB227_228.out; have hnc15 := NB228_227.out; have hnb16 := NB227_229.out; have hnc16 := NB229_227.out; have hcz17_0 : w10.cell? ⟨gb227, 0, none⟩ = some (.bool a1_0) := (blk_cell BK227.out 0).trans rfl; have hcz17_1 : w10.cell? ⟨gb227, 1, none⟩ = some (.slice A1_1 l1_1.length c1_1) := (blk_cell BK227.out 1).trans rfl; have hfz17_0 := blk_frozen BK227.out 0; have hfz17_1 := blk_frozen BK227.out 1) | ((with_reducible refine gate_callee (f := 50) rfl ?_); refine goesL_ (some 13) rfl rfl Tryz.func50 (by kernel_rfl) rfl #[.slice A0_1 l0_1.length c0_1, .slice A1_1 l1_1.length c1_1] rfl (by (try simp only [List.map_toArray, List.map_cons, List.map_nil]); first | done | rfl | (simp only [List.length_drop, List.length_take]; rfl)) ?_; (with_reducible refine (spec_split.calls k _ _ l0_1 _ _ l1_1 t230 t231 _ ?side1 ?side2 ?side3 ?side4 A3.out).mono ?_); (case side1 => repeat (first | exact (Kd.C_below HR0_1.out HB.out) | (with_reducible refine Kd.C_alloc ?_ _) | (with_reducible refine Kd.C_drewN ?_ _) | (with_reducible refine Kd.C_drew ?_))); (case side2 => exact HC0_1.out); (case side3 => repeat (first | exact (Kd.C_below HR1_1.out HB.out) | (with_reducible refine Kd.C_alloc ?_ _) | (with_reducible refine Kd.C_drewN ?_ _) | (with_reducible refine Kd.C_drew ?_))); (case side4 => exact HC1_1.out); rintro e w18 ⟨v232, v234, rfl, ho0, ho1, hb⟩; refine ⟨_, rfl, ?_⟩; have n0_ := Aside0.mk (Kd.R_lower ho0 (below_size HB.out)); have n1_ := Aside0.mk (Kd.R_lower ho1 (below_size HB.out)); have n2_ := Aside0.mk (blk_below BK226.out hb); have n3_ := Aside0.mk (blk_below BK227.out hb); have n4_ := Aside0.mk (blk_below BK228.out hb); have n5_ := Aside0.mk (blk_below BK229.out hb); have n6_ := Aside0.mk (below_step HB.out hb); clear BK226; clear BK227; clear BK228; clear BK229; clear HB; have HO233 := n0_; have HO235 := n1_; have BK226 := n2_; have BK227 := n3_; have BK228 := n4_; have BK229 := n5_; have HB := n6_; clear n0_ n1_ n2_ n3_ n4_ n5_ n6_; (try clear hb); (try clear hb2); (try clear hk); (try clear hi); (try clear ho0); (try clear ho1); have hcz19_0 : w18.cell? ⟨gb226, 0, none⟩ = some (.bool a0_0) := (blk_cell BK226.out 0).trans rfl; have hcz19_1 : w18.cell? ⟨gb226, 1, none⟩ = some (.slice A0_1 l0_1.length c0_1) := (blk_cell BK226.out 1).trans rfl; have hfz19_0 := blk_frozen BK226.out 0; have hfz19_1 := blk_frozen BK226.out 1; have hcz20_0 : w18.cell? ⟨gb227, 0, none⟩ = some (.bool a1_0) := (blk_cell BK227.out 0).trans rfl; have hcz20_1 : w18.cell? ⟨gb227, 1, none⟩ = some (.slice A1_1 l1_1.length c1_1) := (blk_cell BK227.out 1).trans rfl; have hfz20_0 := blk_frozen BK227.out 0; have hfz20_1 := blk_frozen BK227.out 1))
    have n0_ := Aside0.mk (Kd.R_drew HO233.out)
    have n1_ := Aside0.mk (Kd.R_drew HO235.out)
    have n2_ := Aside0.mk (blk_drew BK226.out)
    have n3_ := Aside0.mk (blk_drew BK227.out)
    have n4_ := Aside0.mk (blk_drew BK228.out)
    have n5_ := Aside0.mk (blk_drew BK229.out)
    have n6_ := Aside0.mk (below_drew1 HB.out)
    clear HO233
    clear HO235
    clear BK226
    clear BK227
    clear BK228
    clear BK229
    clear HB
    have HO233 := n0_
    have HO235 := n1_
    have BK226 := n2_
    have BK227 := n3_
    have BK228 := n4_
    have BK229 := n5_
    have HB := n6_
    clear n0_ n1_ n2_ n3_ n4_ n5_ n6_
    obtain ⟨Ao22, co22, eo22⟩ := Kd.R_slice HO233.out
    (first | subst eo22 | (injection eo22 with f1_ f2_ f3_; have f4_ := f1_.symm; have f5_ := f3_.symm; clear f1_ f2_ f3_; subst f4_; subst f5_))
    refine start_ (n := 8) (S := fun w' => w'.cell? ⟨gb227, 0, none⟩ = some (.bool a1_0) ∧ w'.cell? ⟨gb227, 1, none⟩ = some (.slice A1_1 l1_1.length c1_1)) (ds := []) #[false, false, false, false, false, false, false, false] (by kernel_rfl) rfl rfl ⟨(blk_cell BK227.out 0).trans rfl, (blk_cell BK227.out 1).trans rfl⟩ (fun hHeld => ?_); refine with_tabW spec_Int_Floor.tab3 spec_Int_Floor.bits3 (fun HT_ HW_ => ?_)
    generalize w18.drew = w21 at HO233 HO235 BK226 BK227 BK228 BK229 HB hHeld ⊢
    refine pure_ (i := 0) (N := some 21) (v := ?_) (a' := ?_) #[true, false, false, false, false, false, false, false] rfl rfl (any_of HT_.out (by kernel_rfl)) (fun _ _ _ h => h) (Or.inl ⟨by rfl, ?_⟩) ?_ ?_
    rotate_left
    · intro w'
      go_simp
      with_reducible rfl
    rotate_left
    · simp only [Act.put, List.setIfInBounds_toArray, List.set_cons_zero, List.set_cons_succ, i64_w, i32_w]
      rfl
    refine pure_ (i := 2) (N := some 23) (v := ?_) (a' := ?_) #[true, false, true, false, false, false, false, false] rfl rfl (any_of HT_.out (by kernel_rfl)) (fun _ _ _ h => h) (Or.inl ⟨by rfl, ?_⟩) ?_ ?_
    rotate_left
    · intro w'
      go_simp
      with_reducible rfl
    rotate_left
    · simp only [Act.put, List.setIfInBounds_toArray, List.set_cons_zero, List.set_cons_succ, i64_w, i32_w]
      rfl
    refine pure_ (i := 4) (N := some 25) (v := ?_) (a' := ?_) #[true, false, true, false, true, false, false, false] rfl rfl (any_of HT_.out (by kernel_rfl)) (fun _ _ _ h => h) (Or.inl ⟨by rfl, ?_⟩) ?_ ?_
    rotate_left
    · intro w'
      go_simp
      with_reducible rfl
    rotate_left
    · simp only [Act.put, List.setIfInBounds_toArray, List.set_cons_zero, List.set_cons_succ, i64_w, i32_w]
      rfl
    refine take_ (i := 3) (N := some 24) (v := ?_) (a' := ?_) #[true, false, true, true, true, false, false, false] rfl rfl (take_ofW HT_.out HW_.out (by kernel_rfl)) (fun _ _ _ h => h) (Or.inl ⟨by rfl, ?_⟩) hHeld ?_ ?_
    rotate_left
    · rintro w' ⟨s0, s1⟩
      go_simp
      with_reducible rfl
    rotate_left
    · simp only [Act.put, List.setIfInBounds_toArray, List.set_cons_zero, List.set_cons_succ, i64_w, i32_w]
      rfl
    refine one_ (i := 1) (N := some 22) #[true, true, true, true, true, false, false, false] rfl rfl (one_of HT_.out (by kernel_rfl)) (by decide) (fun K hK => ?_)
    refine goes_ Tryz.func15 (by kernel_rfl) rfl #[.bool false, .slice Ao22 t230.length co22] (by rfl) rfl rfl (by (try simp only [List.map_toArray, List.map_cons, List.map_nil]); first | done | rfl | (simp only [List.length_drop, List.length_take]; rfl)) ?_
    with_reducible refine (spec_Of.calls k false _ _ t230 t236 t237 _ ?side1 ?side2 A5.out).mono ?_
    (case side1 => repeat (first | exact (Kd.R_reads' HO233.out).2.2 | (with_reducible refine Kd.C_alloc ?_ _) | (with_reducible refine Kd.C_drewN ?_ _) | (with_reducible refine Kd.C_drew ?_)))
    (case side2 => exact (Kd.R_reads' HO233.out).2.1)
    rintro e w23 ⟨v238, rfl, ho0, hb⟩
    refine ⟨_, rfl, ?_⟩
    have n0_ := Aside0.mk (Kd.R_elder' HO233.out (Kd.R_base ho0) hb)
    have n1_ := Aside0.mk (Kd.R_elder' HO235.out (Kd.R_base ho0) hb)
    have n2_ := Aside0.mk (Kd.R_lower (Kd.R_new' (Kd.R_new' ho0 (Kd.R_lt HO233.out)) (Kd.R_lt HO235.out)) (below_size HB.out))
    have n3_ := Aside0.mk (blk_below BK226.out hb)
    have n4_ := Aside0.mk (blk_below BK227.out hb)
    have n5_ := Aside0.mk (blk_below BK228.out hb)
    have n6_ := Aside0.mk (blk_below BK229.out hb)
    have n7_ := Aside0.mk (below_step HB.out hb)
    clear HO233
    clear HO235
    clear BK226
    clear BK227
    clear BK228
    clear BK229
    clear HB
    have HO233 := n0_
    have HO235 := n1_
    have HO239 := n2_
    have BK226 := n3_
    have BK227 := n4_
    have BK228 := n5_
    have BK229 := n6_
    have HB := n7_
    clear n0_ n1_ n2_ n3_ n4_ n5_ n6_ n7_
    (try clear hb)
    (try clear hb2)
    (try clear hk)
    (try clear hi)
    (try clear ho0)
    obtain ⟨Ao24, co24, eo24⟩ := Kd.R_slice HO235.out
    (first | subst eo24 | (injection eo24 with f1_ f2_ f3_; have f4_ := f1_.symm; have f5_ := f3_.symm; clear f1_ f2_ f3_; subst f4_; subst f5_))
    refine hK.out _ _ ⟨(blk_cell BK227.out 0).trans rfl, (blk_cell BK227.out 1).trans rfl⟩ (fun hHeld => ?_)
    clear hK K
    refine norm_ (a' := ?_) ?_ ?_
    rotate_left
    · show Act.put _ (some 22) _ = _
      simp only [Act.put, List.setIfInBounds_toArray, List.set_cons_zero, List.set_cons_succ, i64_w, i32_w]
      rfl
    refine one_ (i := 5) (N := some 26) #[true, true, true, true, true, true, false, false] rfl rfl (one_of HT_.out (by kernel_rfl)) (by decide) (fun K hK => ?_)
    refine goes_ Tryz.func15 (by kernel_rfl) rfl #[.bool a1_0, .slice Ao24 t231.length co24] (by rfl) rfl rfl (by (try simp only [List.map_toArray, List.map_cons, List.map_nil]); first | done | rfl | (simp only [List.length_drop, List.length_take]; rfl)) ?_
    with_reducible refine (spec_Of.calls k a1_0 _ _ t231 t240 t241 _ ?side1 ?side2 A6.out).mono ?_
    (case side1 => repeat (first | exact (Kd.R_reads' HO235.out).2.2 | (with_reducible refine Kd.C_alloc ?_ _) | (with_reducible refine Kd.C_drewN ?_ _) | (with_reducible refine Kd.C_drew ?_)))
    (case side2 => exact (Kd.R_reads' HO235.out).2.1)
    rintro e w25 ⟨v242, rfl, ho0, hb⟩
    refine ⟨_, rfl, ?_⟩
    have n0_ := Aside0.mk (Kd.R_elder' HO233.out (Kd.R_base ho0) hb)
    have n1_ := Aside0.mk (Kd.R_elder' HO235.out (Kd.R_base ho0) hb)
    have n2_ := Aside0.mk (Kd.R_elder' HO239.out (Kd.R_base ho0) hb)
    have n3_ := Aside0.mk (Kd.R_lower (Kd.R_new' (Kd.R_new' (Kd.R_new' ho0 (Kd.R_lt HO233.out)) (Kd.R_lt HO235.out)) (Kd.R_lt HO239.out)) (below_size HB.out))
    have n4_ := Aside0.mk (blk_below BK226.out hb)
    have n5_ := Aside0.mk (blk_below BK227.out hb)
    have n6_ := Aside0.mk (blk_below BK228.out hb)
    have n7_ := Aside0.mk (blk_below BK229.out hb)
    have n8_ := Aside0.mk (below_step HB.out hb)
    clear HO233
    clear HO235
    clear HO239
    clear BK226
    clear BK227
    clear BK228
    clear BK229
    clear HB
    have HO233 := n0_
    have HO235 := n1_
    have HO239 := n2_
    have HO243 := n3_
    have BK226 := n4_
    have BK227 := n5_
    have BK228 := n6_
    have BK229 := n7_
    have HB := n8_
    clear n0_ n1_ n2_ n3_ n4_ n5_ n6_ n7_ n8_
    (try clear hb)
    (try clear hb2)
    (try clear hk)
    (try clear hi)
    (try clear ho0)
    obtain ⟨Ao27, co27, eo27⟩ := Kd.R_slice HO239.out
    (first | subst eo27 | (injection eo27 with f1_ f2_ f3_; have f4_ := f1_.symm; have f5_ := f3_.symm; clear f1_ f2_ f3_; subst f4_; subst f5_))
    obtain ⟨Ao30, co30, eo30⟩ := Kd.R_slice HO243.out
    (first | subst eo30 | (injection eo30 with f1_ f2_ f3_; have f4_ := f1_.symm; have f5_ := f3_.symm; clear f1_ f2_ f3_; subst f4_; subst f5_))
    refine hK.out _ _ ⟨(blk_cell BK227.out 0).trans rfl, (blk_cell BK227.out 1).trans rfl⟩ (fun hHeld => ?_)
    clear hK K
    refine norm_ (a' := ?_) ?_ ?_
    rotate_left
    · show Act.put _ (some 26) _ = _
      simp only [Act.put, List.setIfInBounds_toArray, List.set_cons_zero, List.set_cons_succ, i64_w, i32_w]
      rfl
    refine one_ (i := 6) (N := none) #[true, true, true, true, true, true, true, false] rfl rfl (one_of HT_.out (by kernel_rfl)) (by decide) (fun K hK => ?_)
    have hs26 : w25.cell? ⟨gb228, 0, none⟩ = some (.bool false) := (blk_cell BK228.out 0).trans rfl
    have hfs26 := blk_frozen BK228.out 0
    have hns26_0 := NB226_228.out
    have hns26_1 := NB227_228.out
    have hns26_3 := NB229_228.out
    have hms26_0 := NB228_226.out
    have hms26_1 := NB228_227.out
    have hms26_3 := NB228_229.out
    have hs28 : w25.cell? ⟨gb228, 1, none⟩ = some (.slice none 0 0) := (blk_cell BK228.out 1).trans rfl
    have hfs28 := blk_frozen BK228.out 1
    have hns28_0 := NB226_228.out
    have hns28_1 := NB227_228.out
    have hns28_3 := NB229_228.out
    have hms28_0 := NB228_226.out
    have hms28_1 := NB228_227.out
    have hms28_3 := NB228_229.out
    refine skip_ (w1 := ?_) (by rfl) rfl ?_ ?_
    rotate_left
    · go_simp
      rfl
    refine hK.out _ _ ⟨((cell_far (p := ⟨gb228, _, none⟩) NB227_228.out _).trans (((cell_far (p := ⟨gb228, _, none⟩) NB227_228.out _).trans (hHeld.1)))), ((cell_far (p := ⟨gb228, _, none⟩) NB227_228.out _).trans (((cell_far (p := ⟨gb228, _, none⟩) NB227_228.out _).trans (hHeld.2))))⟩ (fun hHeld => ?_)
    clear hK K
    refine one_ (i := 7) (N := none) #[true, true, true, true, true, true, true, true] rfl rfl (one_of HT_.out (by kernel_rfl)) (by decide) (fun K hK => ?_)
    have hs29 : w25.cell? ⟨gb229, 0, none⟩ = some (.bool false) := (blk_cell BK229.out 0).trans rfl
    have hfs29 := blk_frozen BK229.out 0
    have hns29_0 := NB226_229.out
    have hns29_1 := NB227_229.out
    have hns29_2 := NB228_229.out
    have hms29_0 := NB229_226.out
    have hms29_1 := NB229_227.out
    have hms29_2 := NB229_228.out
    have hs31 : w25.cell? ⟨gb229, 1, none⟩ = some (.slice none 0 0) := (blk_cell BK229.out 1).trans rfl
    have hfs31 := blk_frozen BK229.out 1
    have hns31_0 := NB226_229.out
    have hns31_1 := NB227_229.out
    have hns31_2 := NB228_229.out
    have hms31_0 := NB229_226.out
    have hms31_1 := NB229_227.out
    have hms31_2 := NB229_228.out
    refine skip_ (w1 := ?_) (by rfl) rfl ?_ ?_
    rotate_left
    · go_simp
      rfl
    refine hK.out _ _ ⟨((cell_far (p := ⟨gb229, _, none⟩) NB227_229.out _).trans (((cell_far (p := ⟨gb229, _, none⟩) NB227_229.out _).trans (hHeld.1)))), ((cell_far (p := ⟨gb229, _, none⟩) NB227_229.out _).trans (((cell_far (p := ⟨gb229, _, none⟩) NB227_229.out _).trans (hHeld.2))))⟩ (fun hHeld => ?_)
    clear hK K
    refine done_ (done_of HT_.out (by kernel_rfl)) ?_
    try go_wp2
    refine bodyPost_ret (results_cc rfl _ _ gb228 gb229 24 24 #[.bool t236, .slice Ao27 t237.length co27] #[.bool t240, .slice Ao30 t241.length co30] (0, 0) (0, 0) _ _ rfl (by (with_reducible repeat (first | refine blk_drewN ?_ _ | refine blk_drew ?_ | refine blk_alloc ?_ _)); refine blk_far ?_ NB228_229.out _; (with_reducible repeat (first | refine blk_drewN ?_ _ | refine blk_drew ?_ | refine blk_alloc ?_ _)); refine blk_far ?_ NB228_229.out _; (with_reducible repeat (first | refine blk_drewN ?_ _ | refine blk_drew ?_ | refine blk_alloc ?_ _)); refine blk_put (cs := #[.bool t236, .slice none 0 0]) ?_ 1 _ rfl; (with_reducible repeat (first | refine blk_drewN ?_ _ | refine blk_drew ?_ | refine blk_alloc ?_ _)); refine blk_put (cs := #[.bool false, .slice none 0 0]) ?_ 0 _ rfl; (with_reducible repeat (first | refine blk_drewN ?_ _ | refine blk_drew ?_ | refine blk_alloc ?_ _)); exact BK228.out) Tryz.underlying24 rfl (by kernel_rfl) rfl (by (with_reducible repeat (first | refine blk_drewN ?_ _ | refine blk_drew ?_ | refine blk_alloc ?_ _)); refine blk_put (cs := #[.bool t240, .slice none 0 0]) ?_ 1 _ rfl; (with_reducible repeat (first | refine blk_drewN ?_ _ | refine blk_drew ?_ | refine blk_alloc ?_ _)); refine blk_put (cs := #[.bool false, .slice none 0 0]) ?_ 0 _ rfl; (with_reducible repeat (first | refine blk_drewN ?_ _ | refine blk_drew ?_ | refine blk_alloc ?_ _)); refine blk_far ?_ NB229_228.out _; (with_reducible repeat (first | refine blk_drewN ?_ _ | refine blk_drew ?_ | refine blk_alloc ?_ _)); refine blk_far ?_ NB229_228.out _; (with_reducible repeat (first | refine blk_drewN ?_ _ | refine blk_drew ?_ | refine blk_alloc ?_ _)); exact BK229.out) Tryz.underlying24 rfl (by kernel_rfl)) rfl ?_
    exact ⟨_, _, by first | rfl | (simp [errW_none, errW_some] <;> rfl) | (simp [*, errW_none, errW_some] <;> rfl), by (with_reducible repeat (first | apply Kd.R_alloc | apply Kd.R_drewN | apply Kd.R_drew)); exact Kd.R_mono (Kd.R_far (p := ⟨gb229, 1, none⟩) (Kd.R_far (p := ⟨gb229, 0, none⟩) (Kd.R_far (p := ⟨gb228, 1, none⟩) (Kd.R_far (p := ⟨gb228, 0, none⟩) (Kd.R_types (Kd.R_types HO239.out BK228.out (by decide)) BK229.out (by decide)) (fun _ hk => hk.1.2) (.bool t236)) (fun _ hk => hk.1.2) (.slice Ao27 t237.length co27)) (fun _ hk => hk.2) (.bool t240)) (fun _ hk => hk.2) (.slice Ao30 t241.length co30)) (fun _ hk => hk.1.1.2), by (with_reducible repeat (first | apply Kd.R_alloc | apply Kd.R_drewN | apply Kd.R_drew)); exact Kd.R_mono (Kd.R_far (p := ⟨gb229, 1, none⟩) (Kd.R_far (p := ⟨gb229, 0, none⟩) (Kd.R_far (p := ⟨gb228, 1, none⟩) (Kd.R_far (p := ⟨gb228, 0, none⟩) (Kd.R_types (Kd.R_types HO243.out BK228.out (by decide)) BK229.out (by decide)) (fun _ hk => hk.1.2) (.bool t236)) (fun _ hk => hk.1.2) (.slice Ao27 t237.length co27)) (fun _ hk => hk.2) (.bool t240)) (fun _ hk => hk.2) (.slice Ao30 t241.length co30)) (fun _ hk => hk.1.1.2), by repeat (first | (with_reducible first | exact HB.out | apply below_alloc | apply pw_below_drewN | apply below_drew1 | refine below_set ?_ GE226.out | refine below_set ?_ GE227.out | refine below_set ?_ GE228.out | refine below_set ?_ GE229.out) | exact HB.out)⟩
  · rw [if_neg c4] at H
    have c4b0 : (a0_0 == a1_0) = false := by simpa using c4
    (try (have c4b1 : decide (a0_0 = a1_0) = false := by simpa using c4))
    (try (have c4b2 : (a0_0 == a1_0) = false := by simpa using c4))
    (try (have c4b3 : ¬ (a0_0 = a1_0) := by simpa using c4))
    clear c4
    by_cases c32 : (t231.length : Int) = 0
    · rw [if_pos c32] at H
      have c32b0 : ((t231.length : Int) == 0) = true := beq_iff_eq.mpr c32
      have c32b1 : ((t231.length : Int) != 0) = false := bne_eq_false_iff_eq.mpr c32
      clear c32
      replace H := Option.bind_eq_some_iff.mp H
      obtain ⟨⟨t244, t245⟩, A330, H⟩ := H
      replace H : (some (t244, t245, false, ([] : List Int))) = some (r1, r2, r3, r4) := H
      have A33 := Aside0.mk A330
      clear A330
      simp only [Option.some.injEq, Prod.mk.injEq] at H
      obtain ⟨rfl, rfl, rfl, rfl⟩ := H
      go_enter Tryz.func34, Tryz.ntmps34
      go_wp2_with (first | ((with_reducible refine gate_dst (N := 2) rfl ?_); refine box_event ?hg (N := 2) ?hd (cs := #[.bool a0_0, .slice A0_1 l0_1.length c0_1]) (t := 24) ?hr ?_; (case hd => rfl); (case hg => rfl); (case hr => first | (go_simp; done) | (go_simp; rfl)); intro gb226 hg w34 hbox hb; have n0_ := Aside0.mk (below_step HB.out hb); have n1_ := Aside0.mk (hbox); have n2_ := Aside0.mk ((by rw [hg]; exact (below_size HB.out) : w.heap.size ≤ gb226)); have n3_ := Aside0.mk ((by rw [hg]; exact (below_size HB.out) : w.heap.size ≤ gb226)); clear HB; have HB := n0_; have BK226 := n1_; have GW226 := n2_; have GE226 := n3_; clear n0_ n1_ n2_ n3_; clear hb hbox hg) | ((with_reducible refine gate_dst (N := 3) rfl ?_); refine box_event ?hg (N := 3) ?hd (cs := #[.bool a1_0, .slice A1_1 l1_1.length c1_1]) (t := 24) ?hr ?_; (case hd => rfl); (case hg => rfl); (case hr => first | (go_simp; done) | (go_simp; rfl)); intro gb227 hg w35 hbox hb; have n0_ := Aside0.mk (blk_below BK226.out hb); have n1_ := Aside0.mk (below_step HB.out hb); have n2_ := Aside0.mk (hbox); have n3_ := Aside0.mk ((by rw [hg]; exact (below_size HB.out) : w.heap.size ≤ gb227)); have n4_ := Aside0.mk ((by rw [hg]; exact (below_size HB.out) : w.heap.size ≤ gb227)); have n5_ := Aside0.mk ((by rw [hg]; exact Nat.ne_of_lt (blk_lt BK226.out) : gb226 ≠ gb227)); have n6_ := Aside0.mk ((by rw [hg]; exact Nat.ne_of_gt (blk_lt BK226.out) : gb227 ≠ gb226)); clear BK226; clear HB; have BK226 := n0_; have HB := n1_; have BK227 := n2_; have GW227 := n3_; have GE227 := n4_; have NB226_227 := n5_; have NB227_226 := n6_; clear n0_ n1_ n2_ n3_ n4_ n5_ n6_; clear hb hbox hg) | ((with_reducible refine gate_dst (N := 4) rfl ?_); refine box_event ?hg (N := 4) ?hd (cs := #[.bool false, .slice none 0 0]) (t := 24) ?hr ?_; (case hd => rfl); (case hg => rfl); (case hr => first | (go_simp; done) | (go_simp; rfl)); intro gb228 hg w36 hbox hb; have n0_ := Aside0.mk (blk_below BK226.out hb); have n1_ := Aside0.mk (blk_below BK227.out hb); have n2_ := Aside0.mk (below_step HB.out hb); have n3_ := Aside0.mk (hbox); have n4_ := Aside0.mk ((by rw [hg]; exact (below_size HB.out) : w.heap.size ≤ gb228)); have n5_ := Aside0.mk ((by rw [hg]; exact (below_size HB.out) : w.heap.size ≤ gb228)); have n6_ := Aside0.mk ((by rw [hg]; exact Nat.ne_of_lt (blk_lt BK226.out) : gb226 ≠ gb228)); have n7_ := Aside0.mk ((by rw [hg]; exact Nat.ne_of_gt (blk_lt BK226.out) : gb228 ≠ gb226)); have n8_ := Aside0.mk ((by rw [hg]; exact Nat.ne_of_lt (blk_lt BK227.out) : gb227 ≠ gb228)); have n9_ := Aside0.mk ((by rw [hg]; exact Nat.ne_of_gt (blk_lt BK227.out) : gb228 ≠ gb227)); clear BK226; clear BK227; clear HB; have BK226 := n0_; have BK227 := n1_; have HB := n2_; have BK228 := n3_; have GW228 := n4_; have GE228 := n5_; have NB226_228 := n6_; have NB228_226 := n7_; have NB227_228 := n8_; have NB228_227 := n9_; clear n0_ n1_ n2_ n3_ n4_ n5_ n6_ n7_ n8_ n9_; clear hb hbox hg) | ((with_reducible refine gate_dst (N := 5) rfl ?_); refine box_event ?hg (N := 5) ?hd (cs := #[.bool false, .slice none 0 0]) (t := 24) ?hr ?_; (case hd => rfl); (case hg => rfl); (case hr => first | (go_simp; done) | (go_simp; rfl)); intro gb229 hg w37 hbox hb; have n0_ := Aside0.mk (blk_below BK226.out hb); have n1_ := Aside0.mk (blk_below BK227.out hb); have n2_ := Aside0.mk (blk_below BK228.out hb); have n3_ := Aside0.mk (below_step HB.out hb); have n4_ := Aside0.mk (hbox); have n5_ := Aside0.mk ((by rw [hg]; exact (below_size HB.out) : w.heap.size ≤ gb229)); have n6_ := Aside0.mk ((by rw [hg]; exact (below_size HB.out) : w.heap.size ≤ gb229)); have n7_ := Aside0.mk ((by rw [hg]; exact Nat.ne_of_lt (blk_lt BK226.out) : gb226 ≠ gb229)); have n8_ := Aside0.mk ((by rw [hg]; exact Nat.ne_of_gt (blk_lt BK226.out) : gb229 ≠ gb226)); have n9_ := Aside0.mk ((by rw [hg]; exact Nat.ne_of_lt (blk_lt BK227.out) : gb227 ≠ gb229)); have n10_ := Aside0.mk ((by rw [hg]; exact Nat.ne_of_gt (blk_lt BK227.out) : gb229 ≠ gb227)); have n11_ := Aside0.mk ((by rw [hg]; exact Nat.ne_of_lt (blk_lt BK228.out) : gb228 ≠ gb229)); have n12_ := Aside0.mk ((by rw [hg]; exact Nat.ne_of_gt (blk_lt BK228.out) : gb229 ≠ gb228)); clear BK226; clear BK227; clear BK228; clear HB; have BK226 := n0_; have BK227 := n1_; have BK228 := n2_; have HB := n3_; have BK229 := n4_; have GW229 := n5_; have GE229 := n6_; have NB226_229 := n7_; have NB229_226 := n8_; have NB227_229 := n9_; have NB229_227 := n10_; have NB228_229 := n11_; have NB229_228 := n12_; clear n0_ n1_ n2_ n3_ n4_ n5_ n6_ n7_ n8_ n9_ n10_ n11_ n12_; clear hb hbox hg; have hnb38 := NB226_227.out; have hnc38 := NB227_226.out; have hnb39 := NB226_228.out; have hnc39 := NB228_226.out; have hnb40 := NB226_229.out; have hnc40 := NB229_226.out; have hcz41_0 : w37.cell? ⟨gb226, 0, none⟩ = some (.bool a0_0) := (blk_cell BK226.out 0).trans rfl; have hcz41_1 : w37.cell? ⟨gb226, 1, none⟩ = some (.slice A0_1 l0_1.length c0_1) := (blk_cell BK226.out 1).trans rfl; have hfz41_0 := blk_frozen BK226.out 0; have hfz41_1 := blk_frozen BK226.out 1; have hnb42 := NB227_228.out; have hnc42 := NB228_227.out; have hnb43 := NB227_229.out; have hnc43 := NB229_227.out; have hcz44_0 : w37.cell? ⟨gb227, 0, none⟩ = some (.bool a1_0) := (blk_cell BK227.out 0).trans rfl; have hcz44_1 : w37.cell? ⟨gb227, 1, none⟩ = some (.slice A1_1 l1_1.length c1_1) := (blk_cell BK227.out 1).trans rfl; have hfz44_0 := blk_frozen BK227.out 0; have hfz44_1 := blk_frozen BK227.out 1) | ((with_reducible refine gate_callee (f := 50) rfl ?_); refine goesL_ (some 13) rfl rfl Tryz.func50 (by kernel_rfl) rfl #[.slice A0_1 l0_1.length c0_1, .slice A1_1 l1_1.length c1_1] rfl (by (try simp only [List.map_toArray, List.map_cons, List.map_nil]); first | done | rfl | (simp only [List.length_drop, List.length_take]; rfl)) ?_; (with_reducible refine (spec_split.calls k _ _ l0_1 _ _ l1_1 t230 t231 _ ?side1 ?side2 ?side3 ?side4 A3.out).mono ?_); (case side1 => repeat (first | exact (Kd.C_below HR0_1.out HB.out) | (with_reducible refine Kd.C_alloc ?_ _) | (with_reducible refine Kd.C_drewN ?_ _) | (with_reducible refine Kd.C_drew ?_))); (case side2 => exact HC0_1.out); (case side3 => repeat (first | exact (Kd.C_below HR1_1.out HB.out) | (with_reducible refine Kd.C_alloc ?_ _) | (with_reducible refine Kd.C_drewN ?_ _) | (with_reducible refine Kd.C_drew ?_))); (case side4 => exact HC1_1.out); rintro e w45 ⟨v232, v234, rfl, ho0, ho1, hb⟩; refine ⟨_, rfl, ?_⟩; have n0_ := Aside0.mk (Kd.R_lower ho0 (below_size HB.out)); have n1_ := Aside0.mk (Kd.R_lower ho1 (below_size HB.out)); have n2_ := Aside0.mk (blk_below BK226.out hb); have n3_ := Aside0.mk (blk_below BK227.out hb); have n4_ := Aside0.mk (blk_below BK228.out hb); have n5_ := Aside0.mk (blk_below BK229.out hb); have n6_ := Aside0.mk (below_step HB.out hb); clear BK226; clear BK227; clear BK228; clear BK229; clear HB; have HO233 := n0_; have HO235 := n1_; have BK226 := n2_; have BK227 := n3_; have BK228 := n4_; have BK229 := n5_; have HB := n6_; clear n0_ n1_ n2_ n3_ n4_ n5_ n6_; (try clear hb); (try clear hb2); (try clear hk); (try clear hi); (try clear ho0); (try clear ho1); have hcz46_0 : w45.cell? ⟨gb226, 0, none⟩ = some (.bool a0_0) := (blk_cell BK226.out 0).trans rfl; have hcz46_1 : w45.cell? ⟨gb226, 1, none⟩ = some (.slice A0_1 l0_1.length c0_1) := (blk_cell BK226.out 1).trans rfl; have hfz46_0 := blk_frozen BK226.out 0; have hfz46_1 := blk_frozen BK226.out 1; have hcz47_0 : w45.cell? ⟨gb227, 0, none⟩ = some (.bool a1_0) := (blk_cell BK227.out 0).trans rfl; have hcz47_1 : w45.cell? ⟨gb227, 1, none⟩ = some (.slice A1_1 l1_1.length c1_1) := (blk_cell BK227.out 1).trans rfl; have hfz47_0 := blk_frozen BK227.out 0; have hfz47_1 := blk_frozen BK227.out 1; obtain ⟨Ao48, co48, eo48⟩ := Kd.R_slice HO235.out; subst eo48; obtain ⟨Ao49, co49, eo49⟩ := Kd.R_slice HO233.out; subst eo49) | ((with_reducible refine gate_callee (f := 15) rfl ?_); refine goesL_ (some 31) rfl rfl Tryz.func15 (by kernel_rfl) rfl #[.bool true, .slice Ao49 t230.length co49] rfl (by (try simp only [List.map_toArray, List.map_cons, List.map_nil]); first | done | rfl | (simp only [List.length_drop, List.length_take]; rfl)) ?_; (with_reducible refine (spec_Of.calls k true _ _ t230 t244 t245 _ ?side1 ?side2 A33.out).mono ?_); (case side1 => repeat (first | exact (Kd.R_reads' HO233.out).2.2 | (with_reducible refine Kd.C_alloc ?_ _) | (with_reducible refine Kd.C_drewN ?_ _) | (with_reducible refine Kd.C_drew ?_))); (case side2 => exact (Kd.R_reads' HO233.out).2.1); rintro e w50 ⟨v246, rfl, ho0, hb⟩; refine ⟨_, rfl, ?_⟩; have n0_ := Aside0.mk (Kd.R_elder' HO233.out (Kd.R_base ho0) hb); have n1_ := Aside0.mk (Kd.R_elder' HO235.out (Kd.R_base ho0) hb); have n2_ := Aside0.mk (Kd.R_lower (Kd.R_new' (Kd.R_new' ho0 (Kd.R_lt HO233.out)) (Kd.R_lt HO235.out)) (below_size HB.out)); have n3_ := Aside0.mk (blk_below BK226.out hb); have n4_ := Aside0.mk (blk_below BK227.out hb); have n5_ := Aside0.mk (blk_below BK228.out hb); have n6_ := Aside0.mk (blk_below BK229.out hb); have n7_ := Aside0.mk (below_step HB.out hb); clear HO233; clear HO235; clear BK226; clear BK227; clear BK228; clear BK229; clear HB; have HO233 := n0_; have HO235 := n1_; have HO247 := n2_; have BK226 := n3_; have BK227 := n4_; have BK228 := n5_; have BK229 := n6_; have HB := n7_; clear n0_ n1_ n2_ n3_ n4_ n5_ n6_ n7_; (try clear hb); (try clear hb2); (try clear hk); (try clear hi); (try clear ho0); have hnb51 := NB228_229.out; have hnc51 := NB229_228.out; have hcz52_0 : w50.cell? ⟨gb228, 0, none⟩ = some (.bool false) := (blk_cell BK228.out 0).trans rfl; have hcz52_1 : w50.cell? ⟨gb228, 1, none⟩ = some (.slice none 0 0) := (blk_cell BK228.out 1).trans rfl; have hfz52_0 := blk_frozen BK228.out 0; have hfz52_1 := blk_frozen BK228.out 1; obtain ⟨Ao53, co53, eo53⟩ := Kd.R_slice HO247.out; subst eo53; have hcz54_0 : w50.cell? ⟨gb229, 0, none⟩ = some (.bool false) := (blk_cell BK229.out 0).trans rfl; have hcz54_1 : w50.cell? ⟨gb229, 1, none⟩ = some (.slice none 0 0) := (blk_cell BK229.out 1).trans rfl; have hfz54_0 := blk_frozen BK229.out 0; have hfz54_1 := blk_frozen BK229.out 1))
      refine bodyPost_ret (results_cc rfl _ _ gb228 gb229 24 24 #[.bool t244, .slice Ao53 t245.length co53] #[.bool false, .slice none 0 0] (0, 0) (0, 0) _ _ rfl (by (with_reducible repeat (first | refine blk_drewN ?_ _ | refine blk_drew ?_ | refine blk_alloc ?_ _)); refine blk_far ?_ NB228_229.out _; (with_reducible repeat (first | refine blk_drewN ?_ _ | refine blk_drew ?_ | refine blk_alloc ?_ _)); refine blk_far ?_ NB228_229.out _; (with_reducible repeat (first | refine blk_drewN ?_ _ | refine blk_drew ?_ | refine blk_alloc ?_ _)); refine blk_put (cs := #[.bool t244, .slice none 0 0]) ?_ 1 _ rfl; (with_reducible repeat (first | refine blk_drewN ?_ _ | refine blk_drew ?_ | refine blk_alloc ?_ _)); refine blk_put (cs := #[.bool false, .slice none 0 0]) ?_ 0 _ rfl; (with_reducible repeat (first | refine blk_drewN ?_ _ | refine blk_drew ?_ | refine blk_alloc ?_ _)); exact BK228.out) Tryz.underlying24 rfl (by kernel_rfl) rfl (by (with_reducible repeat (first | refine blk_drewN ?_ _ | refine blk_drew ?_ | refine blk_alloc ?_ _)); refine blk_put (cs := #[.bool false, .slice none 0 0]) ?_ 1 _ rfl; (with_reducible repeat (first | refine blk_drewN ?_ _ | refine blk_drew ?_ | refine blk_alloc ?_ _)); refine blk_put (cs := #[.bool false, .slice none 0 0]) ?_ 0 _ rfl; (with_reducible repeat (first | refine blk_drewN ?_ _ | refine blk_drew ?_ | refine blk_alloc ?_ _)); refine blk_far ?_ NB229_228.out _; (with_reducible repeat (first | refine blk_drewN ?_ _ | refine blk_drew ?_ | refine blk_alloc ?_ _)); refine blk_far ?_ NB229_228.out _; (with_reducible repeat (first | refine blk_drewN ?_ _ | refine blk_drew ?_ | refine blk_alloc ?_ _)); exact BK229.out) Tryz.underlying24 rfl (by kernel_rfl)) rfl ?_
      exact ⟨_, _, by first | rfl | (simp [errW_none, errW_some] <;> rfl) | (simp [*, errW_none, errW_some] <;> rfl), by (with_reducible repeat (first | apply Kd.R_alloc | apply Kd.R_drewN | apply Kd.R_drew)); exact Kd.R_mono (Kd.R_far (p := ⟨gb229, 1, none⟩) (Kd.R_far (p := ⟨gb229, 0, none⟩) (Kd.R_far (p := ⟨gb228, 1, none⟩) (Kd.R_far (p := ⟨gb228, 0, none⟩) (Kd.R_types (Kd.R_types HO247.out BK228.out (by decide)) BK229.out (by decide)) (fun _ hk => hk.1.2) (.bool t244)) (fun _ hk => hk.1.2) (.slice Ao53 t245.length co53)) (fun _ hk => hk.2) (.bool false)) (fun _ hk => hk.2) (.slice none 0 0)) (fun _ hk => (by simp [Value.ownBlock])), by first | exact Kd.R_nil _ _ _ _ _ | exact Kd.N_nil _ _ _ _ _ | exact Kd.V_nil _ _ _ _ _ | exact Kd.Q_nil _ _ _ _ _ | exact Kd.S_nil _ _ _ _ _, by repeat (first | (with_reducible first | exact HB.out | apply below_alloc | apply pw_below_drewN | apply below_drew1 | refine below_set ?_ GE226.out | refine below_set ?_ GE227.out | refine below_set ?_ GE228.out | refine below_set ?_ GE229.out) | exact HB.out)⟩
    · rw [if_neg c32] at H
      have c32b0 : ((t231.length : Int) == 0) = false := beq_eq_false_iff_ne.mpr c32
      have c32b1 : ((t231.length : Int) != 0) = true := bne_iff_ne.mpr c32
      have c32b2 : ¬ (t231 = []) := fun h_ => c32 (by rw [h_]; rfl)
      obtain ⟨y248, hy248⟩ : ∃ y_ : List Int, y_ = (([1] : List Int)) := ⟨_, rfl⟩
      replace H : ((spec_sum.f k t230 y248).bind fun t251 => ((spec_Of.f k true t251).bind fun bt254 => ((spec_less.f k l1_1 t231).bind fun t258 => ((spec_Of.f k a1_0 t258).bind fun bt261 => (some (bt254.1, bt254.2, bt261.1, bt261.2)))))) = some (r1, r2, r3, r4) := by first | (rw [hy248]; with_reducible exact H) | (have H2_ := (Option.bind_some _ _).symm.trans H; rw [hy248]; with_reducible exact H2_) | (have H2_ := (Option.bind_some _ _).symm.trans H; with_reducible exact H2_) | with_reducible exact H | (rw [hy248]; exact H) | exact H
      have Ny248 := Aside0.mk hy248
      clear hy248
      replace H := Option.bind_eq_some_iff.mp H
      obtain ⟨t251, A550, H⟩ := H
      replace H : ((spec_Of.f k true t251).bind fun bt254 => ((spec_less.f k l1_1 t231).bind fun t258 => ((spec_Of.f k a1_0 t258).bind fun bt261 => (some (bt254.1, bt254.2, bt261.1, bt261.2))))) = some (r1, r2, r3, r4) := H
      have A55 := Aside0.mk A550
      clear A550
      replace H := Option.bind_eq_some_iff.mp H
      obtain ⟨⟨t254, t255⟩, A560, H⟩ := H
      replace H : ((spec_less.f k l1_1 t231).bind fun t258 => ((spec_Of.f k a1_0 t258).bind fun bt261 => (some (t254, t255, bt261.1, bt261.2)))) = some (r1, r2, r3, r4) := H
      have A56 := Aside0.mk A560
      clear A560
      replace H := Option.bind_eq_some_iff.mp H
      obtain ⟨t258, A570, H⟩ := H
      replace H : ((spec_Of.f k a1_0 t258).bind fun bt261 => (some (t254, t255, bt261.1, bt261.2))) = some (r1, r2, r3, r4) := H
      have A57 := Aside0.mk A570
      clear A570
      replace H := Option.bind_eq_some_iff.mp H
      obtain ⟨⟨t261, t262⟩, A580, H⟩ := H
      replace H : (some (t254, t255, t261, t262)) = some (r1, r2, r3, r4) := H
      have A58 := Aside0.mk A580
      clear A580
      simp only [Option.some.injEq, Prod.mk.injEq] at H
      obtain ⟨rfl, rfl, rfl, rfl⟩ := H
      go_enter Tryz.func34, Tryz.ntmps34
      try go_wp2_with (first | ((with_reducible refine gate_dst (N := 2) rfl ?_); refine box_event ?hg (N := 2) ?hd (cs := #[.bool a0_0, .slice A0_1 l0_1.length c0_1]) (t := 24) ?hr ?_; (case hd => rfl); (case hg => rfl); (case hr => first | (go_simp; done) | (go_simp; rfl)); intro gb226 hg w59 hbox hb; have n0_ := Aside0.mk (below_step HB.out hb); have n1_ := Aside0.mk (hbox); have n2_ := Aside0.mk ((by rw [hg]; exact (below_size HB.out) : w.heap.size ≤ gb226)); have n3_ := Aside0.mk ((by rw [hg]; exact (below_size HB.out) : w.heap.size ≤ gb226)); clear HB; have HB := n0_; have BK226 := n1_; have GW226 := n2_; have GE226 := n3_; clear n0_ n1_ n2_ n3_; clear hb hbox hg) | ((with_reducible refine gate_dst (N := 3) rfl ?_); refine box_event ?hg (N := 3) ?hd (cs := #[.bool a1_0, .slice A1_1 l1_1.length c1_1]) (t := 24) ?hr ?_; (case hd => rfl); (case hg => rfl); (case hr => first | (go_simp; done) | (go_simp; rfl)); intro gb227 hg w60 hbox hb; have n0_ := Aside0.mk (blk_below BK226.out hb); have n1_ := Aside0.mk (below_step HB.out hb); have n2_ := Aside0.mk (hbox); have n3_ := Aside0.mk ((by rw [hg]; exact (below_size HB.out) : w.heap.size ≤ gb227)); have n4_ := Aside0.mk ((by rw [hg]; exact (below_size HB.out) : w.heap.size ≤ gb227)); have n5_ := Aside0.mk ((by rw [hg]; exact Nat.ne_of_lt (blk_lt BK226.out) : gb226 ≠ gb227)); have n6_ := Aside0.mk ((by rw [hg]; exact Nat.ne_of_gt (blk_lt BK226.out) : gb227 ≠ gb226)); clear BK226; clear HB; have BK226 := n0_; have HB := n1_; have BK227 := n2_; have GW227 := n3_; have GE227 := n4_; have NB226_227 := n5_; have NB227_226 := n6_; clear n0_ n1_ n2_ n3_ n4_ n5_ n6_; clear hb hbox hg) | ((with_reducible refine gate_dst (N := 4) rfl ?_); refine box_event ?hg (N := 4) ?hd (cs := #[.bool false, .slice none 0 0]) (t := 24) ?hr ?_; (case hd => rfl); (case hg => rfl); (case hr => first | (go_simp; done) | (go_simp; rfl)); intro gb228 hg w61 hbox hb; have n0_ := Aside0.mk (blk_below BK226.out hb); have n1_ := Aside0.mk (blk_below BK227.out hb); have n2_ := Aside0.mk (below_step HB.out hb); have n3_ := Aside0.mk (hbox); have n4_ := Aside0.mk ((by rw [hg]; exact (below_size HB.out) : w.heap.size ≤ gb228)); have n5_ := Aside0.mk ((by rw [hg]; exact (below_size HB.out) : w.heap.size ≤ gb228)); have n6_ := Aside0.mk ((by rw [hg]; exact Nat.ne_of_lt (blk_lt BK226.out) : gb226 ≠ gb228)); have n7_ := Aside0.mk ((by rw [hg]; exact Nat.ne_of_gt (blk_lt BK226.out) : gb228 ≠ gb226)); have n8_ := Aside0.mk ((by rw [hg]; exact Nat.ne_of_lt (blk_lt BK227.out) : gb227 ≠ gb228)); have n9_ := Aside0.mk ((by rw [hg]; exact Nat.ne_of_gt (blk_lt BK227.out) : gb228 ≠ gb227)); clear BK226; clear BK227; clear HB; have BK226 := n0_; have BK227 := n1_; have HB := n2_; have BK228 := n3_; have GW228 := n4_; have GE228 := n5_; have NB226_228 := n6_; have NB228_226 := n7_; have NB227_228 := n8_; have NB228_227 := n9_; clear n0_ n1_ n2_ n3_ n4_ n5_ n6_ n7_ n8_ n9_; clear hb hbox hg) | ((with_reducible refine gate_dst (N := 5) rfl ?_); refine box_event ?hg (N := 5) ?hd (cs := #[.bool false, .slice none 0 0]) (t := 24) ?hr ?_; (case hd => rfl); (case hg => rfl); (case hr => first | (go_simp; done) | (go_simp; rfl)); intro gb229 hg w62 hbox hb; have n0_ := Aside0.mk (blk_below BK226.out hb); have n1_ := Aside0.mk (blk_below BK227.out hb); have n2_ := Aside0.mk (blk_below BK228.out hb); have n3_ := Aside0.mk (below_step HB.out hb); have n4_ := Aside0.mk (hbox); have n5_ := Aside0.mk ((by rw [hg]; exact (below_size HB.out) : w.heap.size ≤ gb229)); have n6_ := Aside0.mk ((by rw [hg]; exact (below_size HB.out) : w.heap.size ≤ gb229)); have n7_ := Aside0.mk ((by rw [hg]; exact Nat.ne_of_lt (blk_lt BK226.out) : gb226 ≠ gb229)); have n8_ := Aside0.mk ((by rw [hg]; exact Nat.ne_of_gt (blk_lt BK226.out) : gb229 ≠ gb226)); have n9_ := Aside0.mk ((by rw [hg]; exact Nat.ne_of_lt (blk_lt BK227.out) : gb227 ≠ gb229)); have n10_ := Aside0.mk ((by rw [hg]; exact Nat.ne_of_gt (blk_lt BK227.out) : gb229 ≠ gb227)); have n11_ := Aside0.mk ((by rw [hg]; exact Nat.ne_of_lt (blk_lt BK228.out) : gb228 ≠ gb229)); have n12_ := Aside0.mk ((by rw [hg]; exact Nat.ne_of_gt (blk_lt BK228.out) : gb229 ≠ gb228)); clear BK226; clear BK227; clear BK228; clear HB; have BK226 := n0_; have BK227 := n1_; have BK228 := n2_; have HB := n3_; have BK229 := n4_; have GW229 := n5_; have GE229 := n6_; have NB226_229 := n7_; have NB229_226 := n8_; have NB227_229 := n9_; have NB229_227 := n10_; have NB228_229 := n11_; have NB229_228 := n12_; clear n0_ n1_ n2_ n3_ n4_ n5_ n6_ n7_ n8_ n9_ n10_ n11_ n12_; clear hb hbox hg; have hnb63 := NB226_227.out; have hnc63 := NB227_226.out; have hnb64 := NB226_228.out; have hnc64 := NB228_226.out; have hnb65 := NB226_229.out; have hnc65 := NB229_226.out; have hcz66_0 : w62.cell? ⟨gb226, 0, none⟩ = some (.bool a0_0) := (blk_cell BK226.out 0).trans rfl; have hcz66_1 : w62.cell? ⟨gb226, 1, none⟩ = some (.slice A0_1 l0_1.length c0_1) := (blk_cell BK226.out 1).trans rfl; have hfz66_0 := blk_frozen BK226.out 0; have hfz66_1 := blk_frozen BK226.out 1; have hnb67 := NB227_228.out; have hnc67 := NB228_227.out; have hnb68 := NB227_229.out; have hnc68 := NB229_227.out; have hcz69_0 : w62.cell? ⟨gb227, 0, none⟩ = some (.bool a1_0) := (blk_cell BK227.out 0).trans rfl; have hcz69_1 : w62.cell? ⟨gb227, 1, none⟩ = some (.slice A1_1 l1_1.length c1_1) := (blk_cell BK227.out 1).trans rfl; have hfz69_0 := blk_frozen BK227.out 0; have hfz69_1 := blk_frozen BK227.out 1) | ((with_reducible refine gate_callee (f := 50) rfl ?_); refine goesL_ (some 13) rfl rfl Tryz.func50 (by kernel_rfl) rfl #[.slice A0_1 l0_1.length c0_1, .slice A1_1 l1_1.length c1_1] rfl (by (try simp only [List.map_toArray, List.map_cons, List.map_nil]); first | done | rfl | (simp only [List.length_drop, List.length_take]; rfl)) ?_; (with_reducible refine (spec_split.calls k _ _ l0_1 _ _ l1_1 t230 t231 _ ?side1 ?side2 ?side3 ?side4 A3.out).mono ?_); (case side1 => repeat (first | exact (Kd.C_below HR0_1.out HB.out) | (with_reducible refine Kd.C_alloc ?_ _) | (with_reducible refine Kd.C_drewN ?_ _) | (with_reducible refine Kd.C_drew ?_))); (case side2 => exact HC0_1.out); (case side3 => repeat (first | exact (Kd.C_below HR1_1.out HB.out) | (with_reducible refine Kd.C_alloc ?_ _) | (with_reducible refine Kd.C_drewN ?_ _) | (with_reducible refine Kd.C_drew ?_))); (case side4 => exact HC1_1.out); rintro e w70 ⟨v232, v234, rfl, ho0, ho1, hb⟩; refine ⟨_, rfl, ?_⟩; have n0_ := Aside0.mk (Kd.R_lower ho0 (below_size HB.out)); have n1_ := Aside0.mk (Kd.R_lower ho1 (below_size HB.out)); have n2_ := Aside0.mk (blk_below BK226.out hb); have n3_ := Aside0.mk (blk_below BK227.out hb); have n4_ := Aside0.mk (blk_below BK228.out hb); have n5_ := Aside0.mk (blk_below BK229.out hb); have n6_ := Aside0.mk (below_step HB.out hb); clear BK226; clear BK227; clear BK228; clear BK229; clear HB; have HO233 := n0_; have HO235 := n1_; have BK226 := n2_; have BK227 := n3_; have BK228 := n4_; have BK229 := n5_; have HB := n6_; clear n0_ n1_ n2_ n3_ n4_ n5_ n6_; (try clear hb); (try clear hb2); (try clear hk); (try clear hi); (try clear ho0); (try clear ho1); have hcz71_0 : w70.cell? ⟨gb226, 0, none⟩ = some (.bool a0_0) := (blk_cell BK226.out 0).trans rfl; have hcz71_1 : w70.cell? ⟨gb226, 1, none⟩ = some (.slice A0_1 l0_1.length c0_1) := (blk_cell BK226.out 1).trans rfl; have hfz71_0 := blk_frozen BK226.out 0; have hfz71_1 := blk_frozen BK226.out 1; have hcz72_0 : w70.cell? ⟨gb227, 0, none⟩ = some (.bool a1_0) := (blk_cell BK227.out 0).trans rfl; have hcz72_1 : w70.cell? ⟨gb227, 1, none⟩ = some (.slice A1_1 l1_1.length c1_1) := (blk_cell BK227.out 1).trans rfl; have hfz72_0 := blk_frozen BK227.out 0; have hfz72_1 := blk_frozen BK227.out 1; obtain ⟨Ao73, co73, eo73⟩ := Kd.R_slice HO235.out; subst eo73))
      have n0_ := Aside0.mk (Kd.R_drew HO233.out)
      have n1_ := Aside0.mk (Kd.R_drew HO235.out)
      have n2_ := Aside0.mk (blk_drew BK226.out)
      have n3_ := Aside0.mk (blk_drew BK227.out)
      have n4_ := Aside0.mk (blk_drew BK228.out)
      have n5_ := Aside0.mk (blk_drew BK229.out)
      have n6_ := Aside0.mk (below_drew1 HB.out)
      clear HO233
      clear HO235
      clear BK226
      clear BK227
      clear BK228
      clear BK229
      clear HB
      have HO233 := n0_
      have HO235 := n1_
      have BK226 := n2_
      have BK227 := n3_
      have BK228 := n4_
      have BK229 := n5_
      have HB := n6_
      clear n0_ n1_ n2_ n3_ n4_ n5_ n6_
      refine start_ (n := 13) (S := fun w' => w'.cell? ⟨gb227, 0, none⟩ = some (.bool a1_0) ∧ w'.cell? ⟨gb227, 1, none⟩ = some (.slice A1_1 l1_1.length c1_1)) (ds := []) #[false, false, false, false, false, false, false, false, false, false, false, false, false] (by kernel_rfl) rfl rfl ⟨(blk_cell BK227.out 0).trans rfl, (blk_cell BK227.out 1).trans rfl⟩ (fun hHeld => ?_); refine with_tabW spec_Int_Floor.tab6 spec_Int_Floor.bits6 (fun HT_ HW_ => ?_)
      generalize w70.drew = w74 at HO233 HO235 BK226 BK227 BK228 BK229 HB hHeld ⊢
      refine pure_ (i := 0) (N := some 33) (v := ?_) (a' := ?_) #[true, false, false, false, false, false, false, false, false, false, false, false, false] rfl rfl (any_of HT_.out (by kernel_rfl)) (fun _ _ _ h => h) (Or.inl ⟨by rfl, ?_⟩) ?_ ?_
      rotate_left
      · intro w'
        go_simp
        with_reducible rfl
      rotate_left
      · simp only [Act.put, List.setIfInBounds_toArray, List.set_cons_zero, List.set_cons_succ, i64_w, i32_w]
        rfl
      refine pure_ (i := 4) (N := some 37) (v := ?_) (a' := ?_) #[true, false, false, false, true, false, false, false, false, false, false, false, false] rfl rfl (any_of HT_.out (by kernel_rfl)) (fun _ _ _ h => h) (Or.inl ⟨by rfl, ?_⟩) ?_ ?_
      rotate_left
      · intro w'
        go_simp
        with_reducible rfl
      rotate_left
      · simp only [Act.put, List.setIfInBounds_toArray, List.set_cons_zero, List.set_cons_succ, i64_w, i32_w]
        rfl
      refine pure_ (i := 6) (N := some 39) (v := ?_) (a' := ?_) #[true, false, false, false, true, false, true, false, false, false, false, false, false] rfl rfl (any_of HT_.out (by kernel_rfl)) (fun _ _ _ h => h) (Or.inl ⟨by rfl, ?_⟩) ?_ ?_
      rotate_left
      · intro w'
        go_simp
        with_reducible rfl
      rotate_left
      · simp only [Act.put, List.setIfInBounds_toArray, List.set_cons_zero, List.set_cons_succ, i64_w, i32_w]
        rfl
      refine pure_ (i := 8) (N := some 41) (v := ?_) (a' := ?_) #[true, false, false, false, true, false, true, false, true, false, false, false, false] rfl rfl (any_of HT_.out (by kernel_rfl)) (fun _ _ _ h => h) (Or.inl ⟨by rfl, ?_⟩) ?_ ?_
      rotate_left
      · intro w'
        go_simp
        with_reducible rfl
      rotate_left
      · simp only [Act.put, List.setIfInBounds_toArray, List.set_cons_zero, List.set_cons_succ, i64_w, i32_w]
        rfl
      refine take_ (i := 5) (N := some 38) (v := ?_) (a' := ?_) #[true, false, false, false, true, true, true, false, true, false, false, false, false] rfl rfl (take_ofW HT_.out HW_.out (by kernel_rfl)) (fun _ _ _ h => h) (Or.inl ⟨by rfl, ?_⟩) hHeld ?_ ?_
      rotate_left
      · rintro w' ⟨s0, s1⟩
        go_simp
        with_reducible rfl
      rotate_left
      · simp only [Act.put, List.setIfInBounds_toArray, List.set_cons_zero, List.set_cons_succ, i64_w, i32_w]
        rfl
      refine take_ (i := 7) (N := some 40) (v := ?_) (a' := ?_) #[true, false, false, false, true, true, true, true, true, false, false, false, false] rfl rfl (take_ofW HT_.out HW_.out (by kernel_rfl)) (fun _ _ _ h => h) (Or.inl ⟨by rfl, ?_⟩) hHeld ?_ ?_
      rotate_left
      · rintro w' ⟨s0, s1⟩
        go_simp
        with_reducible rfl
      rotate_left
      · simp only [Act.put, List.setIfInBounds_toArray, List.set_cons_zero, List.set_cons_succ, i64_w, i32_w]
        rfl
      refine one_ (i := 1) (N := some 34) #[true, true, false, false, true, true, true, true, true, false, false, false, false] rfl rfl (one_of HT_.out (by kernel_rfl)) (by decide) (fun K hK => ?_)
      refine Kd.R_lit_step (Kd.int .u8) _ 5 ?hg (N := 34) ?hd (xs := ([1] : List Int)) (inner := [.int .u8 1]) (ok := fun _ => True) (okp := fun _ => True) ?hr ?hp (fun _ hk => hk) trivial (Below.refl _ _) (Nat.le_refl _) (by simp) ?_; (case hd => rfl); (case hg => rfl); (case hr => first | (go_simp; done) | (go_simp; rfl)); (case hp => exact (Reps.one (show Kd.M (Kd.int .u8) _ _ _ 1 [.int .u8 1] from rfl) (Reps.none _ _)))
      intro v249 w75 ho76 hb hg_ hnew_
      clear hg_ hnew_
      (first | rw [← Ny248.out] at ho76 | (simp only [Int.reduceToNat] at ho76; rw [← Ny248.out] at ho76))
      have n0_ := Aside0.mk (Kd.R_elder' HO233.out (Kd.R_base ho76) hb)
      have n1_ := Aside0.mk (Kd.R_elder' HO235.out (Kd.R_base ho76) hb)
      have n2_ := Aside0.mk (Kd.R_lower (Kd.R_new' (Kd.R_new' ho76 (Kd.R_lt HO233.out)) (Kd.R_lt HO235.out)) (below_size HB.out))
      have n3_ := Aside0.mk (blk_below BK226.out hb)
      have n4_ := Aside0.mk (blk_below BK227.out hb)
      have n5_ := Aside0.mk (blk_below BK228.out hb)
      have n6_ := Aside0.mk (blk_below BK229.out hb)
      have n7_ := Aside0.mk (below_step HB.out hb)
      clear HO233
      clear HO235
      clear BK226
      clear BK227
      clear BK228
      clear BK229
      clear HB
      have HO233 := n0_
      have HO235 := n1_
      have HO250 := n2_
      have BK226 := n3_
      have BK227 := n4_
      have BK228 := n5_
      have BK229 := n6_
      have HB := n7_
      clear n0_ n1_ n2_ n3_ n4_ n5_ n6_ n7_
      clear hb ho76
      obtain ⟨Ao77, co77, eo77⟩ := Kd.R_slice HO233.out
      (first | subst eo77 | (injection eo77 with f1_ f2_ f3_; have f4_ := f1_.symm; have f5_ := f3_.symm; clear f1_ f2_ f3_; subst f4_; subst f5_))
      obtain ⟨Ao78, co78, eo78⟩ := Kd.R_slice HO250.out
      (first | subst eo78 | (injection eo78 with f1_ f2_ f3_; have f4_ := f1_.symm; have f5_ := f3_.symm; clear f1_ f2_ f3_; subst f4_; subst f5_))
      refine hK.out _ _ ⟨(blk_cell BK227.out 0).trans rfl, (blk_cell BK227.out 1).trans rfl⟩ (fun hHeld => ?_)
      clear hK K
      refine norm_ (a' := ?_) ?_ ?_
      rotate_left
      · show Act.put _ (some 34) _ = _
        simp only [Act.put, List.setIfInBounds_toArray, List.set_cons_zero, List.set_cons_succ, i64_w, i32_w]
        rfl
      refine one_ (i := 2) (N := some 35) #[true, true, true, false, true, true, true, true, true, false, false, false, false] rfl rfl (one_of HT_.out (by kernel_rfl)) (by decide) (fun K hK => ?_)
      refine goes_ Tryz.func41 (by kernel_rfl) rfl #[.slice Ao77 t230.length co77, .slice Ao78 y248.length co78] (by rfl) rfl rfl (by (try simp only [List.map_toArray, List.map_cons, List.map_nil]); first | done | rfl | (simp only [List.length_drop, List.length_take]; rfl)) ?_
      with_reducible refine (spec_sum.calls k _ _ t230 _ _ y248 t251 _ ?side1 ?side2 ?side3 ?side4 A55.out).mono ?_
      (case side1 => repeat (first | exact (Kd.R_reads' HO233.out).2.2 | (with_reducible refine Kd.C_alloc ?_ _) | (with_reducible refine Kd.C_drewN ?_ _) | (with_reducible refine Kd.C_drew ?_)))
      (case side2 => exact (Kd.R_reads' HO233.out).2.1)
      (case side3 => repeat (first | exact (Kd.R_reads' HO250.out).2.2 | (with_reducible refine Kd.C_alloc ?_ _) | (with_reducible refine Kd.C_drewN ?_ _) | (with_reducible refine Kd.C_drew ?_)))
      (case side4 => exact (Kd.R_reads' HO250.out).2.1)
      rintro e w79 ⟨v252, rfl, ho0, hb⟩
      refine ⟨_, rfl, ?_⟩
      have n0_ := Aside0.mk (Kd.R_elder' HO233.out (Kd.R_base ho0) hb)
      have n1_ := Aside0.mk (Kd.R_elder' HO235.out (Kd.R_base ho0) hb)
      have n2_ := Aside0.mk (Kd.R_elder' HO250.out (Kd.R_base ho0) hb)
      have n3_ := Aside0.mk (Kd.R_lower (Kd.R_new' (Kd.R_new' (Kd.R_new' ho0 (Kd.R_lt HO233.out)) (Kd.R_lt HO235.out)) (Kd.R_lt HO250.out)) (below_size HB.out))
      have n4_ := Aside0.mk (blk_below BK226.out hb)
      have n5_ := Aside0.mk (blk_below BK227.out hb)
      have n6_ := Aside0.mk (blk_below BK228.out hb)
      have n7_ := Aside0.mk (blk_below BK229.out hb)
      have n8_ := Aside0.mk (below_step HB.out hb)
      clear HO233
      clear HO235
      clear HO250
      clear BK226
      clear BK227
      clear BK228
      clear BK229
      clear HB
      have HO233 := n0_
      have HO235 := n1_
      have HO250 := n2_
      have HO253 := n3_
      have BK226 := n4_
      have BK227 := n5_
      have BK228 := n6_
      have BK229 := n7_
      have HB := n8_
      clear n0_ n1_ n2_ n3_ n4_ n5_ n6_ n7_ n8_
      (try clear hb)
      (try clear hb2)
      (try clear hk)
      (try clear hi)
      (try clear ho0)
      obtain ⟨Ao80, co80, eo80⟩ := Kd.R_slice HO253.out
      (first | subst eo80 | (injection eo80 with f1_ f2_ f3_; have f4_ := f1_.symm; have f5_ := f3_.symm; clear f1_ f2_ f3_; subst f4_; subst f5_))
      refine hK.out _ _ ⟨(blk_cell BK227.out 0).trans rfl, (blk_cell BK227.out 1).trans rfl⟩ (fun hHeld => ?_)
      clear hK K
      refine norm_ (a' := ?_) ?_ ?_
      rotate_left
      · show Act.put _ (some 35) _ = _
        simp only [Act.put, List.setIfInBounds_toArray, List.set_cons_zero, List.set_cons_succ, i64_w, i32_w]
        rfl
      refine one_ (i := 3) (N := some 36) #[true, true, true, true, true, true, true, true, true, false, false, false, false] rfl rfl (one_of HT_.out (by kernel_rfl)) (by decide) (fun K hK => ?_)
      refine goes_ Tryz.func15 (by kernel_rfl) rfl #[.bool true, .slice Ao80 t251.length co80] (by rfl) rfl rfl (by (try simp only [List.map_toArray, List.map_cons, List.map_nil]); first | done | rfl | (simp only [List.length_drop, List.length_take]; rfl)) ?_
      with_reducible refine (spec_Of.calls k true _ _ t251 t254 t255 _ ?side1 ?side2 A56.out).mono ?_
      (case side1 => repeat (first | exact (Kd.R_reads' HO253.out).2.2 | (with_reducible refine Kd.C_alloc ?_ _) | (with_reducible refine Kd.C_drewN ?_ _) | (with_reducible refine Kd.C_drew ?_)))
      (case side2 => exact (Kd.R_reads' HO253.out).2.1)
      rintro e w81 ⟨v256, rfl, ho0, hb⟩
      refine ⟨_, rfl, ?_⟩
      have n0_ := Aside0.mk (Kd.R_elder' HO233.out (Kd.R_base ho0) hb)
      have n1_ := Aside0.mk (Kd.R_elder' HO235.out (Kd.R_base ho0) hb)
      have n2_ := Aside0.mk (Kd.R_elder' HO250.out (Kd.R_base ho0) hb)
      have n3_ := Aside0.mk (Kd.R_elder' HO253.out (Kd.R_base ho0) hb)
      have n4_ := Aside0.mk (Kd.R_lower (Kd.R_new' (Kd.R_new' (Kd.R_new' (Kd.R_new' ho0 (Kd.R_lt HO233.out)) (Kd.R_lt HO235.out)) (Kd.R_lt HO250.out)) (Kd.R_lt HO253.out)) (below_size HB.out))
      have n5_ := Aside0.mk (blk_below BK226.out hb)
      have n6_ := Aside0.mk (blk_below BK227.out hb)
      have n7_ := Aside0.mk (blk_below BK228.out hb)
      have n8_ := Aside0.mk (blk_below BK229.out hb)
      have n9_ := Aside0.mk (below_step HB.out hb)
      clear HO233
      clear HO235
      clear HO250
      clear HO253
      clear BK226
      clear BK227
      clear BK228
      clear BK229
      clear HB
      have HO233 := n0_
      have HO235 := n1_
      have HO250 := n2_
      have HO253 := n3_
      have HO257 := n4_
      have BK226 := n5_
      have BK227 := n6_
      have BK228 := n7_
      have BK229 := n8_
      have HB := n9_
      clear n0_ n1_ n2_ n3_ n4_ n5_ n6_ n7_ n8_ n9_
      (try clear hb)
      (try clear hb2)
      (try clear hk)
      (try clear hi)
      (try clear ho0)
      refine hK.out _ _ ⟨(blk_cell BK227.out 0).trans rfl, (blk_cell BK227.out 1).trans rfl⟩ (fun hHeld => ?_)
      clear hK K
      refine norm_ (a' := ?_) ?_ ?_
      rotate_left
      · show Act.put _ (some 36) _ = _
        simp only [Act.put, List.setIfInBounds_toArray, List.set_cons_zero, List.set_cons_succ, i64_w, i32_w]
        rfl
      refine one_ (i := 9) (N := some 42) #[true, true, true, true, true, true, true, true, true, true, false, false, false] rfl rfl (one_of HT_.out (by kernel_rfl)) (by decide) (fun K hK => ?_)
      refine goes_ Tryz.func42 (by kernel_rfl) rfl #[.slice A1_1 l1_1.length c1_1, .slice Ao73 t231.length co73] (by rfl) rfl rfl (by (try simp only [List.map_toArray, List.map_cons, List.map_nil]); first | done | rfl | (simp only [List.length_drop, List.length_take]; rfl)) ?_
      with_reducible refine (spec_less.calls k _ _ l1_1 _ _ t231 t258 _ ?side1 ?side2 ?side3 ?side4 A57.out).mono ?_
      (case side1 => repeat (first | exact (Kd.C_below HR1_1.out HB.out) | (with_reducible refine Kd.C_alloc ?_ _) | (with_reducible refine Kd.C_drewN ?_ _) | (with_reducible refine Kd.C_drew ?_)))
      (case side2 => exact HC1_1.out)
      (case side3 => repeat (first | exact (Kd.R_reads' HO235.out).2.2 | (with_reducible refine Kd.C_alloc ?_ _) | (with_reducible refine Kd.C_drewN ?_ _) | (with_reducible refine Kd.C_drew ?_)))
      (case side4 => exact (Kd.R_reads' HO235.out).2.1)
      rintro e w82 ⟨v259, rfl, ho0, hb⟩
      refine ⟨_, rfl, ?_⟩
      have n0_ := Aside0.mk (Kd.R_elder' HO233.out (Kd.R_base ho0) hb)
      have n1_ := Aside0.mk (Kd.R_elder' HO235.out (Kd.R_base ho0) hb)
      have n2_ := Aside0.mk (Kd.R_elder' HO250.out (Kd.R_base ho0) hb)
      have n3_ := Aside0.mk (Kd.R_elder' HO253.out (Kd.R_base ho0) hb)
      have n4_ := Aside0.mk (Kd.R_elder' HO257.out (Kd.R_base ho0) hb)
      have n5_ := Aside0.mk (Kd.R_lower (Kd.R_new' (Kd.R_new' (Kd.R_new' (Kd.R_new' (Kd.R_new' ho0 (Kd.R_lt HO233.out)) (Kd.R_lt HO235.out)) (Kd.R_lt HO250.out)) (Kd.R_lt HO253.out)) (Kd.R_lt HO257.out)) (below_size HB.out))
      have n6_ := Aside0.mk (blk_below BK226.out hb)
      have n7_ := Aside0.mk (blk_below BK227.out hb)
      have n8_ := Aside0.mk (blk_below BK228.out hb)
      have n9_ := Aside0.mk (blk_below BK229.out hb)
      have n10_ := Aside0.mk (below_step HB.out hb)
      clear HO233
      clear HO235
      clear HO250
      clear HO253
      clear HO257
      clear BK226
      clear BK227
      clear BK228
      clear BK229
      clear HB
      have HO233 := n0_
      have HO235 := n1_
      have HO250 := n2_
      have HO253 := n3_
      have HO257 := n4_
      have HO260 := n5_
      have BK226 := n6_
      have BK227 := n7_
      have BK228 := n8_
      have BK229 := n9_
      have HB := n10_
      clear n0_ n1_ n2_ n3_ n4_ n5_ n6_ n7_ n8_ n9_ n10_
      (try clear hb)
      (try clear hb2)
      (try clear hk)
      (try clear hi)
      (try clear ho0)
      obtain ⟨Ao83, co83, eo83⟩ := Kd.R_slice HO260.out
      (first | subst eo83 | (injection eo83 with f1_ f2_ f3_; have f4_ := f1_.symm; have f5_ := f3_.symm; clear f1_ f2_ f3_; subst f4_; subst f5_))
      refine hK.out _ _ ⟨(blk_cell BK227.out 0).trans rfl, (blk_cell BK227.out 1).trans rfl⟩ (fun hHeld => ?_)
      clear hK K
      refine norm_ (a' := ?_) ?_ ?_
      rotate_left
      · show Act.put _ (some 42) _ = _
        simp only [Act.put, List.setIfInBounds_toArray, List.set_cons_zero, List.set_cons_succ, i64_w, i32_w]
        rfl
      refine one_ (i := 10) (N := some 43) #[true, true, true, true, true, true, true, true, true, true, true, false, false] rfl rfl (one_of HT_.out (by kernel_rfl)) (by decide) (fun K hK => ?_)
      refine goes_ Tryz.func15 (by kernel_rfl) rfl #[.bool a1_0, .slice Ao83 t258.length co83] (by rfl) rfl rfl (by (try simp only [List.map_toArray, List.map_cons, List.map_nil]); first | done | rfl | (simp only [List.length_drop, List.length_take]; rfl)) ?_
      with_reducible refine (spec_Of.calls k a1_0 _ _ t258 t261 t262 _ ?side1 ?side2 A58.out).mono ?_
      (case side1 => repeat (first | exact (Kd.R_reads' HO260.out).2.2 | (with_reducible refine Kd.C_alloc ?_ _) | (with_reducible refine Kd.C_drewN ?_ _) | (with_reducible refine Kd.C_drew ?_)))
      (case side2 => exact (Kd.R_reads' HO260.out).2.1)
      rintro e w84 ⟨v263, rfl, ho0, hb⟩
      refine ⟨_, rfl, ?_⟩
      have n0_ := Aside0.mk (Kd.R_elder' HO233.out (Kd.R_base ho0) hb)
      have n1_ := Aside0.mk (Kd.R_elder' HO235.out (Kd.R_base ho0) hb)
      have n2_ := Aside0.mk (Kd.R_elder' HO250.out (Kd.R_base ho0) hb)
      have n3_ := Aside0.mk (Kd.R_elder' HO253.out (Kd.R_base ho0) hb)
      have n4_ := Aside0.mk (Kd.R_elder' HO257.out (Kd.R_base ho0) hb)
      have n5_ := Aside0.mk (Kd.R_elder' HO260.out (Kd.R_base ho0) hb)
      have n6_ := Aside0.mk (Kd.R_lower (Kd.R_new' (Kd.R_new' (Kd.R_new' (Kd.R_new' (Kd.R_new' (Kd.R_new' ho0 (Kd.R_lt HO233.out)) (Kd.R_lt HO235.out)) (Kd.R_lt HO250.out)) (Kd.R_lt HO253.out)) (Kd.R_lt HO257.out)) (Kd.R_lt HO260.out)) (below_size HB.out))
      have n7_ := Aside0.mk (blk_below BK226.out hb)
      have n8_ := Aside0.mk (blk_below BK227.out hb)
      have n9_ := Aside0.mk (blk_below BK228.out hb)
      have n10_ := Aside0.mk (blk_below BK229.out hb)
      have n11_ := Aside0.mk (below_step HB.out hb)
      clear HO233
      clear HO235
      clear HO250
      clear HO253
      clear HO257
      clear HO260
      clear BK226
      clear BK227
      clear BK228
      clear BK229
      clear HB
      have HO233 := n0_
      have HO235 := n1_
      have HO250 := n2_
      have HO253 := n3_
      have HO257 := n4_
      have HO260 := n5_
      have HO264 := n6_
      have BK226 := n7_
      have BK227 := n8_
      have BK228 := n9_
      have BK229 := n10_
      have HB := n11_
      clear n0_ n1_ n2_ n3_ n4_ n5_ n6_ n7_ n8_ n9_ n10_ n11_
      (try clear hb)
      (try clear hb2)
      (try clear hk)
      (try clear hi)
      (try clear ho0)
      obtain ⟨Ao86, co86, eo86⟩ := Kd.R_slice HO257.out
      (first | subst eo86 | (injection eo86 with f1_ f2_ f3_; have f4_ := f1_.symm; have f5_ := f3_.symm; clear f1_ f2_ f3_; subst f4_; subst f5_))
      obtain ⟨Ao89, co89, eo89⟩ := Kd.R_slice HO264.out
      (first | subst eo89 | (injection eo89 with f1_ f2_ f3_; have f4_ := f1_.symm; have f5_ := f3_.symm; clear f1_ f2_ f3_; subst f4_; subst f5_))
      refine hK.out _ _ ⟨(blk_cell BK227.out 0).trans rfl, (blk_cell BK227.out 1).trans rfl⟩ (fun hHeld => ?_)
      clear hK K
      refine norm_ (a' := ?_) ?_ ?_
      rotate_left
      · show Act.put _ (some 43) _ = _
        simp only [Act.put, List.setIfInBounds_toArray, List.set_cons_zero, List.set_cons_succ, i64_w, i32_w]
        rfl
      refine one_ (i := 11) (N := none) #[true, true, true, true, true, true, true, true, true, true, true, true, false] rfl rfl (one_of HT_.out (by kernel_rfl)) (by decide) (fun K hK => ?_)
      have hs85 : w84.cell? ⟨gb228, 0, none⟩ = some (.bool false) := (blk_cell BK228.out 0).trans rfl
      have hfs85 := blk_frozen BK228.out 0
      have hns85_0 := NB226_228.out
      have hns85_1 := NB227_228.out
      have hns85_3 := NB229_228.out
      have hms85_0 := NB228_226.out
      have hms85_1 := NB228_227.out
      have hms85_3 := NB228_229.out
      have hs87 : w84.cell? ⟨gb228, 1, none⟩ = some (.slice none 0 0) := (blk_cell BK228.out 1).trans rfl
      have hfs87 := blk_frozen BK228.out 1
      have hns87_0 := NB226_228.out
      have hns87_1 := NB227_228.out
      have hns87_3 := NB229_228.out
      have hms87_0 := NB228_226.out
      have hms87_1 := NB228_227.out
      have hms87_3 := NB228_229.out
      refine skip_ (w1 := ?_) (by rfl) rfl ?_ ?_
      rotate_left
      · go_simp
        rfl
      refine hK.out _ _ ⟨((cell_far (p := ⟨gb228, _, none⟩) NB227_228.out _).trans (((cell_far (p := ⟨gb228, _, none⟩) NB227_228.out _).trans (hHeld.1)))), ((cell_far (p := ⟨gb228, _, none⟩) NB227_228.out _).trans (((cell_far (p := ⟨gb228, _, none⟩) NB227_228.out _).trans (hHeld.2))))⟩ (fun hHeld => ?_)
      clear hK K
      refine one_ (i := 12) (N := none) #[true, true, true, true, true, true, true, true, true, true, true, true, true] rfl rfl (one_of HT_.out (by kernel_rfl)) (by decide) (fun K hK => ?_)
      have hs88 : w84.cell? ⟨gb229, 0, none⟩ = some (.bool false) := (blk_cell BK229.out 0).trans rfl
      have hfs88 := blk_frozen BK229.out 0
      have hns88_0 := NB226_229.out
      have hns88_1 := NB227_229.out
      have hns88_2 := NB228_229.out
      have hms88_0 := NB229_226.out
      have hms88_1 := NB229_227.out
      have hms88_2 := NB229_228.out
      have hs90 : w84.cell? ⟨gb229, 1, none⟩ = some (.slice none 0 0) := (blk_cell BK229.out 1).trans rfl
      have hfs90 := blk_frozen BK229.out 1
      have hns90_0 := NB226_229.out
      have hns90_1 := NB227_229.out
      have hns90_2 := NB228_229.out
      have hms90_0 := NB229_226.out
      have hms90_1 := NB229_227.out
      have hms90_2 := NB229_228.out
      refine skip_ (w1 := ?_) (by rfl) rfl ?_ ?_
      rotate_left
      · go_simp
        rfl
      refine hK.out _ _ ⟨((cell_far (p := ⟨gb229, _, none⟩) NB227_229.out _).trans (((cell_far (p := ⟨gb229, _, none⟩) NB227_229.out _).trans (hHeld.1)))), ((cell_far (p := ⟨gb229, _, none⟩) NB227_229.out _).trans (((cell_far (p := ⟨gb229, _, none⟩) NB227_229.out _).trans (hHeld.2))))⟩ (fun hHeld => ?_)
      clear hK K
      refine done_ (done_of HT_.out (by kernel_rfl)) ?_
      try go_wp2
      refine bodyPost_ret (results_cc rfl _ _ gb228 gb229 24 24 #[.bool t254, .slice Ao86 t255.length co86] #[.bool t261, .slice Ao89 t262.length co89] (0, 0) (0, 0) _ _ rfl (by (with_reducible repeat (first | refine blk_drewN ?_ _ | refine blk_drew ?_ | refine blk_alloc ?_ _)); refine blk_far ?_ NB228_229.out _; (with_reducible repeat (first | refine blk_drewN ?_ _ | refine blk_drew ?_ | refine blk_alloc ?_ _)); refine blk_far ?_ NB228_229.out _; (with_reducible repeat (first | refine blk_drewN ?_ _ | refine blk_drew ?_ | refine blk_alloc ?_ _)); refine blk_put (cs := #[.bool t254, .slice none 0 0]) ?_ 1 _ rfl; (with_reducible repeat (first | refine blk_drewN ?_ _ | refine blk_drew ?_ | refine blk_alloc ?_ _)); refine blk_put (cs := #[.bool false, .slice none 0 0]) ?_ 0 _ rfl; (with_reducible repeat (first | refine blk_drewN ?_ _ | refine blk_drew ?_ | refine blk_alloc ?_ _)); exact BK228.out) Tryz.underlying24 rfl (by kernel_rfl) rfl (by (with_reducible repeat (first | refine blk_drewN ?_ _ | refine blk_drew ?_ | refine blk_alloc ?_ _)); refine blk_put (cs := #[.bool t261, .slice none 0 0]) ?_ 1 _ rfl; (with_reducible repeat (first | refine blk_drewN ?_ _ | refine blk_drew ?_ | refine blk_alloc ?_ _)); refine blk_put (cs := #[.bool false, .slice none 0 0]) ?_ 0 _ rfl; (with_reducible repeat (first | refine blk_drewN ?_ _ | refine blk_drew ?_ | refine blk_alloc ?_ _)); refine blk_far ?_ NB229_228.out _; (with_reducible repeat (first | refine blk_drewN ?_ _ | refine blk_drew ?_ | refine blk_alloc ?_ _)); refine blk_far ?_ NB229_228.out _; (with_reducible repeat (first | refine blk_drewN ?_ _ | refine blk_drew ?_ | refine blk_alloc ?_ _)); exact BK229.out) Tryz.underlying24 rfl (by kernel_rfl)) rfl ?_
      exact ⟨_, _, by first | rfl | (simp [errW_none, errW_some] <;> rfl) | (simp [*, errW_none, errW_some] <;> rfl), by (with_reducible repeat (first | apply Kd.R_alloc | apply Kd.R_drewN | apply Kd.R_drew)); exact Kd.R_mono (Kd.R_far (p := ⟨gb229, 1, none⟩) (Kd.R_far (p := ⟨gb229, 0, none⟩) (Kd.R_far (p := ⟨gb228, 1, none⟩) (Kd.R_far (p := ⟨gb228, 0, none⟩) (Kd.R_types (Kd.R_types HO257.out BK228.out (by decide)) BK229.out (by decide)) (fun _ hk => hk.1.2) (.bool t254)) (fun _ hk => hk.1.2) (.slice Ao86 t255.length co86)) (fun _ hk => hk.2) (.bool t261)) (fun _ hk => hk.2) (.slice Ao89 t262.length co89)) (fun _ hk => hk.1.1.2), by (with_reducible repeat (first | apply Kd.R_alloc | apply Kd.R_drewN | apply Kd.R_drew)); exact Kd.R_mono (Kd.R_far (p := ⟨gb229, 1, none⟩) (Kd.R_far (p := ⟨gb229, 0, none⟩) (Kd.R_far (p := ⟨gb228, 1, none⟩) (Kd.R_far (p := ⟨gb228, 0, none⟩) (Kd.R_types (Kd.R_types HO264.out BK228.out (by decide)) BK229.out (by decide)) (fun _ hk => hk.1.2) (.bool t254)) (fun _ hk => hk.1.2) (.slice Ao86 t255.length co86)) (fun _ hk => hk.2) (.bool t261)) (fun _ hk => hk.2) (.slice Ao89 t262.length co89)) (fun _ hk => hk.1.1.1.2), by repeat (first | (with_reducible first | exact HB.out | apply below_alloc | apply pw_below_drewN | apply below_drew1 | refine below_set ?_ GE226.out | refine below_set ?_ GE227.out | refine below_set ?_ GE228.out | refine below_set ?_ GE229.out) | exact HB.out)⟩


end Go.Proofs.YtodipcgilgigbaaGreatDoor.I
