/- Contracts of laws' told and whole: the kit's print. (Numbers of the seat of num.tsv.) -/
import Derived.Test.YtodipcgilgigbaaGreatDoorC9
import Derived.Test.YtodipcgilgigbaaGreatDoorD2
namespace Go.Proofs.YtodipcgilgigbaaGreatDoor.I
open Go.RowKit Go.Proofs.YtodipcgilgigbaaGreatDoorW.PrintWords Go.Proofs.YtodipcgilgigbaaGreatDoorW.PrintLast Go.Proofs.YtodipcgilgigbaaGreatDoorW.PrintMore
attribute [local go_sem] max2_int min2_int max_two min_two max_three min_three max_four min_four
set_option linter.unusedVariables false
set_option linter.unusedSimpArgs false
section
open Go
/-! ### laws_told -/
def laws_told.f (a0_0 : Bool) (l0_1 : List Int) : Option (Int × Bool × List Int × Int × ByteArray × (List (S28))) := (some (([] : List Int) : List Int)).bind fun y103 => (if y103.length + l0_1.length < 140737488355328 then (some (2, a0_0, (y103 ++ l0_1), 0, (⟨#[]⟩ : ByteArray), ([] : List (S28)))) else (none))
def laws_told.T1 : Bool × List (List Nat × List Nat) := (true, [([], []), ([0], [0]), ([], []), ([], []), ([3], [3]), ([2, 4], [2, 4]), ([1, 5], [1, 5]), ([6, 5, 0, 1, 2, 3, 4, 5, 6], [6])])
def laws_told.B1 : List Nat := [0, 1, 0, 0, 8, 28, 63, 127]

/-! ### laws_whole -/
def laws_whole.f (k : Nat) (a0 : Bool) (l1 : List Int) (a2 : Int) : Option (Bool × List Int × Int × Bool × List Int × Int × ByteArray × (List (S28))) := if 0 ≤ (mn (l1.length : Int) a2) then (if (mn (l1.length : Int) a2) ≤ (l1.length : Int) then ((spec_Of.f k a0 (l1.take ((mn (l1.length : Int) a2) : Int).toNat)).bind fun bt131 => ((laws_told.f bt131.1 bt131.2).bind fun bt136 => (some (bt131.1, bt131.2, bt136.1, bt136.2.1, bt136.2.2.1, bt136.2.2.2.1, bt136.2.2.2.2.1, bt136.2.2.2.2.2)))) else (none)) else (none)

end
/-! ### laws_told: function 9 -/
theorem laws_told.tab1 : rtab .any (opsOf Tryz.f9 1) = laws_told.T1 := by kernel_rfl
theorem laws_told.bits1 : waitsOk laws_told.T1.2 laws_told.B1 = true := by kernel_rfl
set_option maxHeartbeats 8000000 in
set_option maxRecDepth 100000 in
theorem laws_told.calls (a0_0 : Bool) (A0_1 : Option Addr) (c0_1 : Nat) (l0_1 : List Int) (r1 : Int) (r2 : Bool) (r3 : List Int) (r4 : Int) (r5 : ByteArray) (r6 : List (S28)) (w : World) (hr0_1 : Kd.C (Kd.int .u8) w A0_1 l0_1.length l0_1) (hc0_1 : l0_1.length ≤ c0_1) (h : laws_told.f a0_0 l0_1 = some (r1, r2, r3, r4, r5, r6)) :
    Calls Tryz.prog 9 #[.agg #[.bool a0_0, .slice A0_1 l0_1.length c0_1]] w fun e w' => ∃ v2_ v5_ : Value, e = .returned (.agg #[.int .i64 r1, .bool r2, v2_, .int .u64 r4, .string r5, v5_]) ∧ Kd.R (Kd.int .u8) 5 w' w.heap.size (fun _ => True) v2_ r3 ∧ Kd.R k28 28 w' w.heap.size (fun k_ => some k_ ≠ (v2_ : Value).ownBlock) v5_ r6 ∧ Below w.heap.size w w' := by
  have hu24 := Tryz.underlying24
  have hu28 := Tryz.underlying28
  have HR0_1 := Aside0.mk hr0_1
  have HC0_1 := Aside0.mk hc0_1
  clear hr0_1 hc0_1
  have HB := Aside0.mk (Below.refl w.heap.size w)
  have H : ((some (([] : List Int) : List Int)).bind fun y103 => (if y103.length + l0_1.length < 140737488355328 then (some (2, a0_0, (y103 ++ l0_1), 0, (⟨#[]⟩ : ByteArray), ([] : List (S28)))) else (none))) = some (r1, r2, r3, r4, r5, r6) := h
  clear h
  obtain ⟨y103, hy103⟩ : ∃ y_ : List Int, y_ = (([] : List Int)) := ⟨_, rfl⟩
  replace H : (if y103.length + l0_1.length < 140737488355328 then (some (2, a0_0, (y103 ++ l0_1), 0, (⟨#[]⟩ : ByteArray), ([] : List (S28)))) else (none)) = some (r1, r2, r3, r4, r5, r6) := by first | (rw [hy103]; with_reducible exact H) | (have H2_ := (Option.bind_some _ _).symm.trans H; rw [hy103]; with_reducible exact H2_) | (have H2_ := (Option.bind_some _ _).symm.trans H; with_reducible exact H2_) | with_reducible exact H | (rw [hy103]; exact H) | exact H
  have Ny103 := Aside0.mk hy103
  clear hy103
  by_cases c2 : y103.length + l0_1.length < 140737488355328
  · rw [if_pos c2] at H
    have LMc2 := Aside0.mk c2
    clear c2
    obtain ⟨y106, hy106⟩ : ∃ y_ : List Int, y_ = (y103 ++ l0_1) := ⟨_, rfl⟩
    replace H : (some (2, a0_0, y106, 0, (⟨#[]⟩ : ByteArray), ([] : List (S28)))) = some (r1, r2, r3, r4, r5, r6) := by first | (rw [hy106]; with_reducible exact H) | (have H2_ := (Option.bind_some _ _).symm.trans H; rw [hy106]; with_reducible exact H2_) | (have H2_ := (Option.bind_some _ _).symm.trans H; with_reducible exact H2_) | with_reducible exact H | (rw [hy106]; exact H) | exact H
    have Ny106 := Aside0.mk hy106
    clear hy106
    simp only [Option.some.injEq, Prod.mk.injEq] at H
    obtain ⟨rfl, rfl, rfl, rfl, rfl, rfl⟩ := H
    go_enter Tryz.func9, Tryz.ntmps9
    try go_wp2_with (first | ((with_reducible refine gate_dst (N := 1) rfl ?_); refine box_event ?hg (N := 1) ?hd (cs := #[.bool a0_0, .slice A0_1 l0_1.length c0_1]) (t := 24) ?hr ?_; (case hd => rfl); (case hg => rfl); (case hr => first | (go_simp; done) | (go_simp; rfl)); intro gb101 hg w3 hbox hb; have n0_ := Aside0.mk (below_step HB.out hb); have n1_ := Aside0.mk (hbox); have n2_ := Aside0.mk ((by rw [hg]; exact (below_size HB.out) : w.heap.size ≤ gb101)); have n3_ := Aside0.mk ((by rw [hg]; exact (below_size HB.out) : w.heap.size ≤ gb101)); clear HB; have HB := n0_; have BK101 := n1_; have GW101 := n2_; have GE101 := n3_; clear n0_ n1_ n2_ n3_; clear hb hbox hg) | ((with_reducible refine gate_dst (N := 2) rfl ?_); refine box_event ?hg (N := 2) ?hd (cs := #[.int .i64 0, .bool false, .slice none 0 0, .int .u64 0, .string (⟨#[]⟩ : ByteArray), .slice none 0 0]) (t := 28) ?hr ?_; (case hd => rfl); (case hg => rfl); (case hr => first | (go_simp; done) | (go_simp; rfl)); intro gb102 hg w4 hbox hb; have n0_ := Aside0.mk (blk_below BK101.out hb); have n1_ := Aside0.mk (below_step HB.out hb); have n2_ := Aside0.mk (hbox); have n3_ := Aside0.mk ((by rw [hg]; exact (below_size HB.out) : w.heap.size ≤ gb102)); have n4_ := Aside0.mk ((by rw [hg]; exact (below_size HB.out) : w.heap.size ≤ gb102)); have n5_ := Aside0.mk ((by rw [hg]; exact Nat.ne_of_lt (blk_lt BK101.out) : gb101 ≠ gb102)); have n6_ := Aside0.mk ((by rw [hg]; exact Nat.ne_of_gt (blk_lt BK101.out) : gb102 ≠ gb101)); clear BK101; clear HB; have BK101 := n0_; have HB := n1_; have BK102 := n2_; have GW102 := n3_; have GE102 := n4_; have NB101_102 := n5_; have NB102_101 := n6_; clear n0_ n1_ n2_ n3_ n4_ n5_ n6_; clear hb hbox hg))
    have n0_ := Aside0.mk (blk_drew BK101.out)
    have n1_ := Aside0.mk (blk_drew BK102.out)
    have n2_ := Aside0.mk (below_drew1 HB.out)
    clear BK101
    clear BK102
    clear HB
    have BK101 := n0_
    have BK102 := n1_
    have HB := n2_
    clear n0_ n1_ n2_
    refine start_ (n := 8) (S := fun w' => w'.cell? ⟨gb101, 0, none⟩ = some (.bool a0_0) ∧ w'.cell? ⟨gb101, 1, none⟩ = some (.slice A0_1 l0_1.length c0_1)) (ds := []) #[false, false, false, false, false, false, false, false] (by kernel_rfl) rfl rfl ⟨(blk_cell BK101.out 0).trans rfl, (blk_cell BK101.out 1).trans rfl⟩ (fun hHeld => ?_); refine with_tabW laws_told.tab1 laws_told.bits1 (fun HT_ HW_ => ?_)
    generalize w4.drew = w5 at BK101 BK102 HB hHeld ⊢
    refine pure_ (i := 0) (N := some 3) (v := ?_) (a' := ?_) #[true, false, false, false, false, false, false, false] rfl rfl (any_of HT_.out (by kernel_rfl)) (fun _ _ _ h => h) (Or.inl ⟨by rfl, ?_⟩) ?_ ?_
    rotate_left
    · intro w'
      go_simp
      with_reducible rfl
    rotate_left
    · simp only [Act.put, List.setIfInBounds_toArray, List.set_cons_zero, List.set_cons_succ, i64_w, i32_w]
      rfl
    refine pure_ (i := 3) (N := some 6) (v := ?_) (a' := ?_) #[true, false, false, true, false, false, false, false] rfl rfl (any_of HT_.out (by kernel_rfl)) (fun _ _ _ h => h) (Or.inl ⟨by rfl, ?_⟩) ?_ ?_
    rotate_left
    · intro w'
      go_simp
      with_reducible rfl
    rotate_left
    · simp only [Act.put, List.setIfInBounds_toArray, List.set_cons_zero, List.set_cons_succ, i64_w, i32_w]
      rfl
    refine take_ (i := 1) (N := some 4) (v := ?_) (a' := ?_) #[true, true, false, true, false, false, false, false] rfl rfl (take_ofW HT_.out HW_.out (by kernel_rfl)) (fun _ _ _ h => h) (Or.inl ⟨by rfl, ?_⟩) hHeld ?_ ?_
    rotate_left
    · rintro w' ⟨s0, s1⟩
      go_simp
      with_reducible rfl
    rotate_left
    · simp only [Act.put, List.setIfInBounds_toArray, List.set_cons_zero, List.set_cons_succ, i64_w, i32_w]
      rfl
    refine take_ (i := 4) (N := some 7) (v := ?_) (a' := ?_) #[true, true, false, true, true, false, false, false] rfl rfl (take_ofW HT_.out HW_.out (by kernel_rfl)) (fun _ _ _ h => h) (Or.inl ⟨by rfl, ?_⟩) hHeld ?_ ?_
    rotate_left
    · rintro w' ⟨s0, s1⟩
      go_simp
      with_reducible rfl
    rotate_left
    · simp only [Act.put, List.setIfInBounds_toArray, List.set_cons_zero, List.set_cons_succ, i64_w, i32_w]
      rfl
    refine one_ (i := 2) (N := some 5) #[true, true, true, true, true, false, false, false] rfl rfl (one_of HT_.out (by kernel_rfl)) (by decide) (fun K hK => ?_)
    refine Kd.R_lit_step (Kd.int .u8) _ 5 ?hg (N := 5) ?hd (xs := ([] : List Int)) (inner := []) (ok := fun _ => True) (okp := fun _ => True) ?hr ?hp (fun _ hk => hk) trivial (Below.refl _ _) (Nat.le_refl _) (by simp) ?_; (case hd => rfl); (case hg => rfl); (case hr => first | (go_simp; done) | (go_simp; rfl)); (case hp => exact (Reps.none _ _))
    intro v104 w6 ho7 hb hg_ hnew_
    clear hg_ hnew_
    (first | rw [← Ny103.out] at ho7 | (simp only [Int.reduceToNat] at ho7; rw [← Ny103.out] at ho7))
    have n0_ := Aside0.mk (Kd.R_lower ho7 (below_size HB.out))
    have n1_ := Aside0.mk (blk_below BK101.out hb)
    have n2_ := Aside0.mk (blk_below (g := gb102) (o := .cells #[.int .i64 0, .bool false, .slice none 0 0, .int .u64 0, .string (⟨#[]⟩ : ByteArray), .slice none 0 0] 28 (0, 0)) BK102.out hb)
    have n3_ := Aside0.mk (below_step HB.out hb)
    clear BK101
    clear BK102
    clear HB
    have HO105 := n0_
    have BK101 := n1_
    have BK102 := n2_
    have HB := n3_
    clear n0_ n1_ n2_ n3_
    clear hb ho7
    refine hK.out _ _ ⟨(blk_cell BK101.out 0).trans rfl, (blk_cell BK101.out 1).trans rfl⟩ (fun hHeld => ?_)
    clear hK K
    refine norm_ (a' := ?_) ?_ ?_
    rotate_left
    · show Act.put _ (some 5) _ = _
      simp only [Act.put, List.setIfInBounds_toArray, List.set_cons_zero, List.set_cons_succ, i64_w, i32_w]
      rfl
    refine one_ (i := 5) (N := some 8) #[true, true, true, true, true, true, false, false] rfl rfl (one_of HT_.out (by kernel_rfl)) (by decide) (fun K hK => ?_)
    refine Kd.R_append_rows_step (Kd.int .u8) (w0 := w) w.heap.size (by rfl) (.tmp 5) (.tmp 7) 22 5 (.int .u8 0) 1 rfl Tryz.underlying22 info5 rfl (by decide) (by omega) v104 y103 l0_1 _ _ _ (fun _ => True) (fun _ => False) rfl rfl ?aO ?aR (fun _ _ h => h) (fun _ h => h.elim) ?aF ?aB ?aS ?aL ?_
    (case aR => repeat (first | exact (Kd.C_below HR0_1.out HB.out) | (with_reducible refine Kd.C_alloc ?_ _) | (with_reducible refine Kd.C_drewN ?_ _) | (with_reducible refine Kd.C_drew ?_)))
    (case aB => exact HB.out)
    (case aF => exact (fun _ _ => trivial))
    (case aO => exact HO105.out)
    (case aS => exact (below_size HB.out))
    (case aL => have := LMc2.out; omega)
    intro v107 w8 ho hb hg hat
    rw [← Ny106.out] at ho
    have n0_ := Aside0.mk (blk_grown (g := gb101) (o := .cells #[.bool a0_0, .slice A0_1 l0_1.length c0_1] 24 (0, 0)) BK101.out hg (Kd.R_ne HO105.out BK101.out (by decide)))
    have n1_ := Aside0.mk (blk_grown (g := gb102) (o := .cells #[.int .i64 0, .bool false, .slice none 0 0, .int .u64 0, .string (⟨#[]⟩ : ByteArray), .slice none 0 0] 28 (0, 0)) BK102.out hg (Kd.R_ne HO105.out BK102.out (by decide)))
    have n2_ := Aside0.mk (hb)
    have n3_ := Aside0.mk (ho)
    clear BK101
    clear BK102
    clear HB
    clear HO105
    have BK101 := n0_
    have BK102 := n1_
    have HB := n2_
    have HO108 := n3_
    clear n0_ n1_ n2_ n3_
    clear ho hb hg hat
    obtain ⟨Ao9, co9, eo9⟩ := Kd.R_slice HO108.out
    (first | subst eo9 | (injection eo9 with f1_ f2_ f3_; have f4_ := f1_.symm; have f5_ := f3_.symm; clear f1_ f2_ f3_; subst f4_; subst f5_))
    refine hK.out _ _ ⟨(blk_cell BK101.out 0).trans rfl, (blk_cell BK101.out 1).trans rfl⟩ (fun hHeld => ?_)
    clear hK K
    refine norm_ (a' := ?_) ?_ ?_
    rotate_left
    · show Act.put _ (some 8) _ = _
      simp only [Act.put, List.setIfInBounds_toArray, List.set_cons_zero, List.set_cons_succ, i64_w, i32_w]
      rfl
    refine pure_ (i := 6) (N := some 9) (v := ?_) (a' := ?_) #[true, true, true, true, true, true, true, false] rfl rfl (any_of HT_.out (by kernel_rfl)) (fun _ _ _ h => h) (Or.inl ⟨by rfl, ?_⟩) ?_ ?_
    rotate_left
    · intro w'
      go_simp
      with_reducible rfl
    rotate_left
    · simp only [Act.put, List.setIfInBounds_toArray, List.set_cons_zero, List.set_cons_succ, i64_w, i32_w]
      rfl
    refine one_ (i := 7) (N := none) #[true, true, true, true, true, true, true, true] rfl rfl (one_of HT_.out (by kernel_rfl)) (by decide) (fun K hK => ?_)
    have hs10 : w8.cell? ⟨gb102, 0, none⟩ = some (.int .i64 0) := (blk_cell BK102.out 0).trans rfl
    have hfs10 := blk_frozen BK102.out 0
    have hns10_0 := NB101_102.out
    have hms10_0 := NB102_101.out
    have hs11 : w8.cell? ⟨gb102, 1, none⟩ = some (.bool false) := (blk_cell BK102.out 1).trans rfl
    have hfs11 := blk_frozen BK102.out 1
    have hns11_0 := NB101_102.out
    have hms11_0 := NB102_101.out
    have hs12 : w8.cell? ⟨gb102, 2, none⟩ = some (.slice none 0 0) := (blk_cell BK102.out 2).trans rfl
    have hfs12 := blk_frozen BK102.out 2
    have hns12_0 := NB101_102.out
    have hms12_0 := NB102_101.out
    have hs13 : w8.cell? ⟨gb102, 3, none⟩ = some (.int .u64 0) := (blk_cell BK102.out 3).trans rfl
    have hfs13 := blk_frozen BK102.out 3
    have hns13_0 := NB101_102.out
    have hms13_0 := NB102_101.out
    have hs14 : w8.cell? ⟨gb102, 4, none⟩ = some (.string (⟨#[]⟩ : ByteArray)) := (blk_cell BK102.out 4).trans rfl
    have hfs14 := blk_frozen BK102.out 4
    have hns14_0 := NB101_102.out
    have hms14_0 := NB102_101.out
    have hs15 : w8.cell? ⟨gb102, 5, none⟩ = some (.slice none 0 0) := (blk_cell BK102.out 5).trans rfl
    have hfs15 := blk_frozen BK102.out 5
    have hns15_0 := NB101_102.out
    have hms15_0 := NB102_101.out
    refine skip_ (w1 := ?_) (by rfl) rfl ?_ ?_
    rotate_left
    · go_simp
      rfl
    refine hK.out _ _ ⟨((cell_far (p := ⟨gb102, _, none⟩) NB101_102.out _).trans (((cell_far (p := ⟨gb102, _, none⟩) NB101_102.out _).trans (((cell_far (p := ⟨gb102, _, none⟩) NB101_102.out _).trans (((cell_far (p := ⟨gb102, _, none⟩) NB101_102.out _).trans (((cell_far (p := ⟨gb102, _, none⟩) NB101_102.out _).trans (((cell_far (p := ⟨gb102, _, none⟩) NB101_102.out _).trans (hHeld.1)))))))))))), ((cell_far (p := ⟨gb102, _, none⟩) NB101_102.out _).trans (((cell_far (p := ⟨gb102, _, none⟩) NB101_102.out _).trans (((cell_far (p := ⟨gb102, _, none⟩) NB101_102.out _).trans (((cell_far (p := ⟨gb102, _, none⟩) NB101_102.out _).trans (((cell_far (p := ⟨gb102, _, none⟩) NB101_102.out _).trans (((cell_far (p := ⟨gb102, _, none⟩) NB101_102.out _).trans (hHeld.2))))))))))))⟩ (fun hHeld => ?_)
    clear hK K
    refine done_ (done_of HT_.out (by kernel_rfl)) ?_
    try go_wp2
    refine bodyPost_ret (results_cell_row rfl _ _ gb102 28 #[.int .i64 2, .bool a0_0, .slice Ao9 y106.length co9, .int .u64 0, .string (⟨#[]⟩ : ByteArray), .slice none 0 0] (0, 0) _ rfl (by (with_reducible repeat (first | refine blk_drewN ?_ _ | refine blk_drew ?_ | refine blk_alloc ?_ _)); refine blk_put (cs := #[.int .i64 2, .bool a0_0, .slice Ao9 y106.length co9, .int .u64 0, .string (⟨#[]⟩ : ByteArray), .slice none 0 0]) ?_ 5 _ rfl; (with_reducible repeat (first | refine blk_drewN ?_ _ | refine blk_drew ?_ | refine blk_alloc ?_ _)); refine blk_put (cs := #[.int .i64 2, .bool a0_0, .slice Ao9 y106.length co9, .int .u64 0, .string (⟨#[]⟩ : ByteArray), .slice none 0 0]) ?_ 4 _ rfl; (with_reducible repeat (first | refine blk_drewN ?_ _ | refine blk_drew ?_ | refine blk_alloc ?_ _)); refine blk_put (cs := #[.int .i64 2, .bool a0_0, .slice Ao9 y106.length co9, .int .u64 0, .string (⟨#[]⟩ : ByteArray), .slice none 0 0]) ?_ 3 _ rfl; (with_reducible repeat (first | refine blk_drewN ?_ _ | refine blk_drew ?_ | refine blk_alloc ?_ _)); refine blk_put (cs := #[.int .i64 2, .bool a0_0, .slice none 0 0, .int .u64 0, .string (⟨#[]⟩ : ByteArray), .slice none 0 0]) ?_ 2 _ rfl; (with_reducible repeat (first | refine blk_drewN ?_ _ | refine blk_drew ?_ | refine blk_alloc ?_ _)); refine blk_put (cs := #[.int .i64 2, .bool false, .slice none 0 0, .int .u64 0, .string (⟨#[]⟩ : ByteArray), .slice none 0 0]) ?_ 1 _ rfl; (with_reducible repeat (first | refine blk_drewN ?_ _ | refine blk_drew ?_ | refine blk_alloc ?_ _)); refine blk_put (cs := #[.int .i64 0, .bool false, .slice none 0 0, .int .u64 0, .string (⟨#[]⟩ : ByteArray), .slice none 0 0]) ?_ 0 _ rfl; (with_reducible repeat (first | refine blk_drewN ?_ _ | refine blk_drew ?_ | refine blk_alloc ?_ _)); exact BK102.out) Tryz.underlying28 rfl (by kernel_rfl)) rfl ?_
    exact ⟨_, _, by first | rfl | (simp [errW_none, errW_some] <;> rfl) | (simp [*, errW_none, errW_some] <;> rfl), by (with_reducible repeat (first | apply Kd.R_alloc | apply Kd.R_drewN | apply Kd.R_drew)); exact Kd.R_mono (Kd.R_far (p := ⟨gb102, 5, none⟩) (Kd.R_far (p := ⟨gb102, 4, none⟩) (Kd.R_far (p := ⟨gb102, 3, none⟩) (Kd.R_far (p := ⟨gb102, 2, none⟩) (Kd.R_far (p := ⟨gb102, 1, none⟩) (Kd.R_far (p := ⟨gb102, 0, none⟩) (Kd.R_types HO108.out BK102.out (by decide)) (fun _ hk => hk.2) (.int .i64 2)) (fun _ hk => hk.2) (.bool a0_0)) (fun _ hk => hk.2) (.slice Ao9 y106.length co9)) (fun _ hk => hk.2) (.int .u64 0)) (fun _ hk => hk.2) (.string (⟨#[]⟩ : ByteArray))) (fun _ hk => hk.2) (.slice none 0 0)) (fun _ hk => trivial), by first | exact Kd.R_nil _ _ _ _ _ | exact Kd.N_nil _ _ _ _ _ | exact Kd.V_nil _ _ _ _ _ | exact Kd.Q_nil _ _ _ _ _ | exact Kd.S_nil _ _ _ _ _, by repeat (first | (with_reducible first | exact HB.out | apply below_alloc | apply pw_below_drewN | apply below_drew1 | refine below_set ?_ GE101.out | refine below_set ?_ GE102.out) | exact HB.out)⟩
  · rw [if_neg c2] at H
    exact absurd H (by simp)


/-! ### laws_whole: function 5 -/
theorem laws_whole.mono : ∀ a0 a1 a2 k, LeO (laws_whole.f k a0 a1 a2) (laws_whole.f (k + 1) a0 a1 a2) := by
  intro a0 a1 a2 k
  unfold laws_whole.f
  repeat' first
      | (with_reducible exact spec_Of.mono _ _ _)
      | (with_reducible exact LeO.refl _)
      | (with_reducible exact LeO.none _)
      | (with_reducible refine LeO.ite ?_ ?_)
      | (with_reducible refine LeO.bind ?_ (fun _ => ?_))
      | exact spec_Of.mono _ _ _
      | exact LeO.none _
      | refine LeO.ite ?_ ?_
      | refine LeO.bind ?_ (fun _ => ?_)
set_option maxHeartbeats 8000000 in
set_option maxRecDepth 100000 in
theorem laws_whole.calls (k : Nat) (a0 : Bool) (A1 : Option Addr) (c1 : Nat) (l1 : List Int) (a2 : Int) (r1 : Bool) (r2 : List Int) (r3 : Int) (r4 : Bool) (r5 : List Int) (r6 : Int) (r7 : ByteArray) (r8 : List (S28)) (w : World) (hr1 : Kd.C (Kd.int .u8) w A1 l1.length l1) (hc1 : l1.length ≤ c1) (h : laws_whole.f k a0 l1 a2 = some (r1, r2, r3, r4, r5, r6, r7, r8)) :
    Calls Tryz.prog 5 #[.bool a0, .slice A1 l1.length c1, .int .i64 a2] w fun e w' => ∃ v1_ v4_ v7_ : Value, e = .returned (.tuple #[.agg #[.bool r1, v1_], .agg #[.int .i64 r3, .bool r4, v4_, .int .u64 r6, .string r7, v7_]]) ∧ Kd.R (Kd.int .u8) 5 w' w.heap.size (fun k_ => some k_ ≠ (v4_ : Value).ownBlock) v1_ r2 ∧ Kd.R (Kd.int .u8) 5 w' w.heap.size (fun k_ => some k_ ≠ (v1_ : Value).ownBlock) v4_ r5 ∧ Kd.R k28 28 w' w.heap.size (fun k_ => some k_ ≠ (v1_ : Value).ownBlock ∧ some k_ ≠ (v4_ : Value).ownBlock) v7_ r8 ∧ Below w.heap.size w w' := by
  have hu24 := Tryz.underlying24
  have hu28 := Tryz.underlying28
  have HR1 := Aside0.mk hr1
  have HC1 := Aside0.mk hc1
  clear hr1 hc1
  have HB := Aside0.mk (Below.refl w.heap.size w)
  have H : (if 0 ≤ (mn (l1.length : Int) a2) then (if (mn (l1.length : Int) a2) ≤ (l1.length : Int) then ((spec_Of.f k a0 (l1.take ((mn (l1.length : Int) a2) : Int).toNat)).bind fun bt131 => ((laws_told.f bt131.1 bt131.2).bind fun bt136 => (some (bt131.1, bt131.2, bt136.1, bt136.2.1, bt136.2.2.1, bt136.2.2.2.1, bt136.2.2.2.2.1, bt136.2.2.2.2.2)))) else (none)) else (none)) = some (r1, r2, r3, r4, r5, r6, r7, r8) := h
  clear h
  obtain ⟨ji4, hji4⟩ : ∃ j_ : Int, (mn (l1.length : Int) a2) = j_ := ⟨_, rfl⟩
  replace H : (if 0 ≤ (ji4) then (if (ji4) ≤ (l1.length : Int) then ((spec_Of.f k a0 (l1.take ((ji4) : Int).toNat)).bind fun bt131 => ((laws_told.f bt131.1 bt131.2).bind fun bt136 => (some (bt131.1, bt131.2, bt136.1, bt136.2.1, bt136.2.2.1, bt136.2.2.2.1, bt136.2.2.2.2.1, bt136.2.2.2.2.2)))) else (none)) else (none)) = some (r1, r2, r3, r4, r5, r6, r7, r8) := by first | (rw [hji4] at H; exact H) | (simp only [hji4] at H ⊢; exact H)
  have hji4_ : (if a2 < (l1.length : Int) then a2 else (l1.length : Int)) = ji4 := hji4
  by_cases c5 : 0 ≤ (ji4)
  · rw [if_pos c5] at H
    have c5b0 := eq_true c5
    have c5b1 : decide (0 ≤ (ji4)) = true := decide_eq_true c5
    clear c5
    by_cases c6 : (ji4) ≤ (l1.length : Int)
    · rw [if_pos c6] at H
      have c6b0 := eq_true c6
      have c6b1 : decide ((ji4) ≤ (l1.length : Int)) = true := decide_eq_true c6
      clear c6
      replace H := Option.bind_eq_some_iff.mp H
      obtain ⟨⟨t131, t132⟩, A70, H⟩ := H
      replace H : ((laws_told.f t131 t132).bind fun bt136 => (some (t131, t132, bt136.1, bt136.2.1, bt136.2.2.1, bt136.2.2.2.1, bt136.2.2.2.2.1, bt136.2.2.2.2.2))) = some (r1, r2, r3, r4, r5, r6, r7, r8) := H
      have A7 := Aside0.mk A70
      clear A70
      replace H := Option.bind_eq_some_iff.mp H
      obtain ⟨⟨t136, t137, t138, t141, t142, t143⟩, A80, H⟩ := H
      replace H : (some (t131, t132, t136, t137, t138, t141, t142, t143)) = some (r1, r2, r3, r4, r5, r6, r7, r8) := H
      have A8 := Aside0.mk A80
      clear A80
      simp only [Option.some.injEq, Prod.mk.injEq] at H
      obtain ⟨rfl, rfl, rfl, rfl, rfl, rfl, rfl, rfl⟩ := H
      go_enter Tryz.func5, Tryz.ntmps5
      try go_wp2_with (first | ((with_reducible refine gate_dst (N := 6) rfl ?_); refine box_event ?hg (N := 6) ?hd (cs := #[.bool false, .slice none 0 0]) (t := 24) ?hr ?_; (case hd => rfl); (case hg => rfl); (case hr => first | (go_simp; done) | (go_simp; rfl)); intro gb128 hg w9 hbox hb; have n0_ := Aside0.mk (below_step HB.out hb); have n1_ := Aside0.mk (hbox); have n2_ := Aside0.mk ((by rw [hg]; exact (below_size HB.out) : w.heap.size ≤ gb128)); have n3_ := Aside0.mk ((by rw [hg]; exact (below_size HB.out) : w.heap.size ≤ gb128)); clear HB; have HB := n0_; have BK128 := n1_; have GW128 := n2_; have GE128 := n3_; clear n0_ n1_ n2_ n3_; clear hb hbox hg) | ((with_reducible refine gate_dst (N := 7) rfl ?_); refine box_event ?hg (N := 7) ?hd (cs := #[.int .i64 0, .bool false, .slice none 0 0, .int .u64 0, .string (⟨#[]⟩ : ByteArray), .slice none 0 0]) (t := 28) ?hr ?_; (case hd => rfl); (case hg => rfl); (case hr => first | (go_simp; done) | (go_simp; rfl)); intro gb129 hg w10 hbox hb; have n0_ := Aside0.mk (blk_below BK128.out hb); have n1_ := Aside0.mk (below_step HB.out hb); have n2_ := Aside0.mk (hbox); have n3_ := Aside0.mk ((by rw [hg]; exact (below_size HB.out) : w.heap.size ≤ gb129)); have n4_ := Aside0.mk ((by rw [hg]; exact (below_size HB.out) : w.heap.size ≤ gb129)); have n5_ := Aside0.mk ((by rw [hg]; exact Nat.ne_of_lt (blk_lt BK128.out) : gb128 ≠ gb129)); have n6_ := Aside0.mk ((by rw [hg]; exact Nat.ne_of_gt (blk_lt BK128.out) : gb129 ≠ gb128)); clear BK128; clear HB; have BK128 := n0_; have HB := n1_; have BK129 := n2_; have GW129 := n3_; have GE129 := n4_; have NB128_129 := n5_; have NB129_128 := n6_; clear n0_ n1_ n2_ n3_ n4_ n5_ n6_; clear hb hbox hg; obtain ⟨i011, hi011, _, hsz11, _⟩ := info_parts info5; obtain ⟨hcut11, hA11, hC11⟩ := print_take_of (P := Tryz.prog) (Value.int .u8) 0 22 5 .i64 Tryz.underlying22 hi011 hsz11 A1 c1 l1 (ji4) (of_decide_eq_true (by first | (with_reducible assumption) | assumption)) (of_decide_eq_true (by first | (with_reducible assumption) | assumption)) HC1.out; have HR130 := Aside0.mk (Kd.C_of_reads (h1 := fun _ => rfl) (hA11 _ (Kd.reads_of_C HR1.out))); have HC130 := Aside0.mk hC11; clear hA11 hC11 hi011 hsz11) | ((with_reducible refine gate_callee (f := 15) rfl ?_); refine goesL_ (some 16) rfl rfl Tryz.func15 (by kernel_rfl) rfl #[.bool a0, .slice A1 (l1.take ((ji4) : Int).toNat).length c1] rfl (by (try simp only [List.map_toArray, List.map_cons, List.map_nil]); first | done | (rw [show (l1.take ((ji4) : Int).toNat).length = (ji4).toNat from (by rw [List.length_take]; have h_ : ((ji4) : Int) ≤ (l1.length : Int) := of_decide_eq_true (by first | (with_reducible assumption) | assumption); omega)] <;> rfl) | (simp only [hji4]; rfl) | rfl | (simp only [List.length_drop, List.length_take]; rfl)) ?_; (with_reducible refine (spec_Of.calls k a0 _ _ (l1.take ((ji4) : Int).toNat) t131 t132 _ ?side1 ?side2 A7.out).mono ?_); (case side1 => repeat (first | exact (Kd.C_below HR130.out HB.out) | (with_reducible refine Kd.C_alloc ?_ _) | (with_reducible refine Kd.C_drewN ?_ _) | (with_reducible refine Kd.C_drew ?_))); (case side2 => exact HC130.out); rintro e w12 ⟨v133, rfl, ho0, hb⟩; refine ⟨_, rfl, ?_⟩; have n0_ := Aside0.mk (Kd.R_lower ho0 (below_size HB.out)); have n1_ := Aside0.mk (blk_below BK128.out hb); have n2_ := Aside0.mk (blk_below (g := gb129) (o := .cells #[.int .i64 0, .bool false, .slice none 0 0, .int .u64 0, .string (⟨#[]⟩ : ByteArray), .slice none 0 0] 28 (0, 0)) BK129.out hb); have n3_ := Aside0.mk (below_step HB.out hb); clear BK128; clear BK129; clear HB; have HO134 := n0_; have BK128 := n1_; have BK129 := n2_; have HB := n3_; clear n0_ n1_ n2_ n3_; (try clear hb); (try clear hb2); (try clear hk); (try clear hi); (try clear ho0)) | ((with_reducible refine gate_dst (N := 8) rfl ?_); refine box_event ?hg (N := 8) ?hd (cs := #[.bool false, .slice none 0 0]) (t := 24) ?hr ?_; (case hd => rfl); (case hg => rfl); (case hr => first | (go_simp; done) | (go_simp; rfl)); intro gb135 hg w13 hbox hb; have n0_ := Aside0.mk (Kd.R_below HO134.out hb); have n1_ := Aside0.mk (blk_below BK128.out hb); have n2_ := Aside0.mk (blk_below (g := gb129) (o := .cells #[.int .i64 0, .bool false, .slice none 0 0, .int .u64 0, .string (⟨#[]⟩ : ByteArray), .slice none 0 0] 28 (0, 0)) BK129.out hb); have n3_ := Aside0.mk (below_step HB.out hb); have n4_ := Aside0.mk (hbox); have n5_ := Aside0.mk ((by rw [hg]; exact (below_size HB.out) : w.heap.size ≤ gb135)); have n6_ := Aside0.mk ((by rw [hg]; exact (below_size HB.out) : w.heap.size ≤ gb135)); have n7_ := Aside0.mk ((by rw [hg]; exact Nat.ne_of_lt (blk_lt BK128.out) : gb128 ≠ gb135)); have n8_ := Aside0.mk ((by rw [hg]; exact Nat.ne_of_gt (blk_lt BK128.out) : gb135 ≠ gb128)); have n9_ := Aside0.mk ((by rw [hg]; exact Nat.ne_of_lt (blk_lt (g := gb129) (o := .cells #[.int .i64 0, .bool false, .slice none 0 0, .int .u64 0, .string (⟨#[]⟩ : ByteArray), .slice none 0 0] 28 (0, 0)) BK129.out) : gb129 ≠ gb135)); have n10_ := Aside0.mk ((by rw [hg]; exact Nat.ne_of_gt (blk_lt (g := gb129) (o := .cells #[.int .i64 0, .bool false, .slice none 0 0, .int .u64 0, .string (⟨#[]⟩ : ByteArray), .slice none 0 0] 28 (0, 0)) BK129.out) : gb135 ≠ gb129)); clear HO134; clear BK128; clear BK129; clear HB; have HO134 := n0_; have BK128 := n1_; have BK129 := n2_; have HB := n3_; have BK135 := n4_; have GW135 := n5_; have GE135 := n6_; have NB128_135 := n7_; have NB135_128 := n8_; have NB129_135 := n9_; have NB135_129 := n10_; clear n0_ n1_ n2_ n3_ n4_ n5_ n6_ n7_ n8_ n9_ n10_; clear hb hbox hg; have hnb14 := NB135_128.out; have hnc14 := NB128_135.out; have hnb15 := NB135_129.out; have hnc15 := NB129_135.out; have hcz16_0 : w13.cell? ⟨gb135, 0, none⟩ = some (.bool false) := (blk_cell BK135.out 0).trans rfl; have hcz16_1 : w13.cell? ⟨gb135, 1, none⟩ = some (.slice none 0 0) := (blk_cell BK135.out 1).trans rfl; have hfz16_0 := blk_frozen BK135.out 0; have hfz16_1 := blk_frozen BK135.out 1; obtain ⟨Ao17, co17, eo17⟩ := Kd.R_slice HO134.out; subst eo17))
      have n0_ : Aside0 (Kd.R (Kd.int .u8) 5 ((w13.setCell ⟨gb135, 0, none⟩ (.bool t131)).setCell ⟨gb135, 1, none⟩ (.slice Ao17 t132.length co17)) w.heap.size (fun _ => True) (.slice Ao17 t132.length co17) t132) := ⟨by (with_reducible repeat (first | apply Kd.R_alloc | apply Kd.R_drewN | apply Kd.R_drew)); exact Kd.R_mono (Kd.R_far (p := ⟨gb135, 1, none⟩) (Kd.R_far (p := ⟨gb135, 0, none⟩) (Kd.R_types HO134.out BK135.out (by decide)) (fun _ hk => hk.2) (.bool t131)) (fun _ hk => hk.2) (.slice Ao17 t132.length co17)) (fun _ hk => trivial)⟩
      have n1_ : Aside0 (((w13.setCell ⟨gb135, 0, none⟩ (.bool t131)).setCell ⟨gb135, 1, none⟩ (.slice Ao17 t132.length co17)).heap[gb128]? = some (.cells #[.bool false, .slice none 0 0] 24 (0, 0))) := ⟨by (with_reducible repeat (first | refine blk_drewN ?_ _ | refine blk_drew ?_ | refine blk_alloc ?_ _)); refine blk_far ?_ NB128_135.out _; (with_reducible repeat (first | refine blk_drewN ?_ _ | refine blk_drew ?_ | refine blk_alloc ?_ _)); refine blk_far ?_ NB128_135.out _; (with_reducible repeat (first | refine blk_drewN ?_ _ | refine blk_drew ?_ | refine blk_alloc ?_ _)); exact BK128.out⟩
      have n2_ : Aside0 (((w13.setCell ⟨gb135, 0, none⟩ (.bool t131)).setCell ⟨gb135, 1, none⟩ (.slice Ao17 t132.length co17)).heap[gb129]? = some (.cells #[.int .i64 0, .bool false, .slice none 0 0, .int .u64 0, .string (⟨#[]⟩ : ByteArray), .slice none 0 0] 28 (0, 0))) := ⟨by (with_reducible repeat (first | refine blk_drewN ?_ _ | refine blk_drew ?_ | refine blk_alloc ?_ _)); refine blk_far ?_ NB129_135.out _; (with_reducible repeat (first | refine blk_drewN ?_ _ | refine blk_drew ?_ | refine blk_alloc ?_ _)); refine blk_far ?_ NB129_135.out _; (with_reducible repeat (first | refine blk_drewN ?_ _ | refine blk_drew ?_ | refine blk_alloc ?_ _)); exact BK129.out⟩
      have n3_ : Aside0 (((w13.setCell ⟨gb135, 0, none⟩ (.bool t131)).setCell ⟨gb135, 1, none⟩ (.slice Ao17 t132.length co17)).heap[gb135]? = some (.cells #[.bool t131, .slice Ao17 t132.length co17] 24 (0, 0))) := ⟨by (with_reducible repeat (first | refine blk_drewN ?_ _ | refine blk_drew ?_ | refine blk_alloc ?_ _)); refine blk_put (cs := #[.bool t131, .slice none 0 0]) ?_ 1 _ rfl; (with_reducible repeat (first | refine blk_drewN ?_ _ | refine blk_drew ?_ | refine blk_alloc ?_ _)); refine blk_put (cs := #[.bool false, .slice none 0 0]) ?_ 0 _ rfl; (with_reducible repeat (first | refine blk_drewN ?_ _ | refine blk_drew ?_ | refine blk_alloc ?_ _)); exact BK135.out⟩
      have n4_ : Aside0 (Below w.heap.size w ((w13.setCell ⟨gb135, 0, none⟩ (.bool t131)).setCell ⟨gb135, 1, none⟩ (.slice Ao17 t132.length co17))) := ⟨by repeat (first | (with_reducible first | exact HB.out | apply below_alloc | apply pw_below_drewN | apply below_drew1 | refine below_set ?_ GE128.out | refine below_set ?_ GE129.out | refine below_set ?_ GE135.out) | exact HB.out)⟩
      (try clear HO134)
      (try clear BK128)
      (try clear BK129)
      (try clear BK135)
      (try clear HB)
      generalize ((w13.setCell ⟨gb135, 0, none⟩ (.bool t131)).setCell ⟨gb135, 1, none⟩ (.slice Ao17 t132.length co17)) = w18 at n0_ n1_ n2_ n3_ n4_ ⊢
      have HO134 := n0_
      have BK128 := n1_
      have BK129 := n2_
      have BK135 := n3_
      have HB := n4_
      clear n0_ n1_ n2_ n3_ n4_
      have n0_ := Aside0.mk (Kd.R_drew HO134.out)
      have n1_ := Aside0.mk (blk_drew BK128.out)
      have n2_ := Aside0.mk (blk_drew BK129.out)
      have n3_ := Aside0.mk (blk_drew BK135.out)
      have n4_ := Aside0.mk (below_drew1 HB.out)
      clear HO134
      clear BK128
      clear BK129
      clear BK135
      clear HB
      have HO134 := n0_
      have BK128 := n1_
      have BK129 := n2_
      have BK135 := n3_
      have HB := n4_
      clear n0_ n1_ n2_ n3_ n4_
      refine start_ (n := 5) (S := fun w' => w'.cell? ⟨gb135, 0, none⟩ = some (.bool t131) ∧ w'.cell? ⟨gb135, 1, none⟩ = some (.slice Ao17 t132.length co17)) (ds := []) #[false, false, false, false, false] (by kernel_rfl) rfl rfl ⟨(blk_cell BK135.out 0).trans rfl, (blk_cell BK135.out 1).trans rfl⟩ (fun hHeld => ?_)
      generalize w18.drew = w19 at HO134 BK128 BK129 BK135 HB hHeld ⊢
      refine take_ (i := 0) (N := some 17) (v := ?_) (a' := ?_) #[true, false, false, false, false] rfl rfl (by kernel_rfl) (fun _ _ _ h => h) (Or.inl ⟨by rfl, ?_⟩) hHeld ?_ ?_
      rotate_left
      · rintro w' ⟨s0, s1⟩
        go_simp
        with_reducible rfl
      rotate_left
      · simp only [Act.put, List.setIfInBounds_toArray, List.set_cons_zero, List.set_cons_succ, i64_w, i32_w]
        rfl
      refine take_ (i := 1) (N := some 18) (v := ?_) (a' := ?_) #[true, true, false, false, false] rfl rfl (by kernel_rfl) (fun _ _ _ h => h) (Or.inl ⟨by rfl, ?_⟩) hHeld ?_ ?_
      rotate_left
      · rintro w' ⟨s0, s1⟩
        go_simp
        with_reducible rfl
      rotate_left
      · simp only [Act.put, List.setIfInBounds_toArray, List.set_cons_zero, List.set_cons_succ, i64_w, i32_w]
        rfl
      refine one_ (i := 2) (N := some 19) #[true, true, true, false, false] rfl rfl (by kernel_rfl) (by decide) (fun K hK => ?_)
      refine goes_ Tryz.func9 (by kernel_rfl) rfl #[.agg #[.bool t131, .slice Ao17 t132.length co17]] (by rfl) rfl rfl (by (try simp only [List.map_toArray, List.map_cons, List.map_nil]); first | done | rfl | (simp only [List.length_drop, List.length_take]; rfl)) ?_
      with_reducible refine (laws_told.calls t131 _ _ t132 t136 t137 t138 t141 t142 t143 _ ?side1 ?side2 A8.out).mono ?_
      (case side1 => repeat (first | exact (Kd.R_reads' HO134.out).2.2 | (with_reducible refine Kd.C_alloc ?_ _) | (with_reducible refine Kd.C_drewN ?_ _) | (with_reducible refine Kd.C_drew ?_)))
      (case side2 => exact (Kd.R_reads' HO134.out).2.1)
      rintro e w20 ⟨v139, v144, rfl, ho0, ho1, hb⟩
      refine ⟨_, rfl, ?_⟩
      have n0_ := Aside0.mk (Kd.R_elder' HO134.out (Kd.R_base ho0) hb)
      have n1_ := Aside0.mk (Kd.R_lower (Kd.R_new' ho0 (Kd.R_lt HO134.out)) (below_size HB.out))
      have n2_ := Aside0.mk (Kd.R_lower (Kd.R_newB (Kd.R_new' ho1 (Kd.R_lt HO134.out)) (g := gb129) (o := .cells #[.int .i64 0, .bool false, .slice none 0 0, .int .u64 0, .string (⟨#[]⟩ : ByteArray), .slice none 0 0] 28 (0, 0)) BK129.out) (below_size HB.out))
      have n3_ := Aside0.mk (blk_below BK128.out hb)
      have n4_ := Aside0.mk (blk_below (g := gb129) (o := .cells #[.int .i64 0, .bool false, .slice none 0 0, .int .u64 0, .string (⟨#[]⟩ : ByteArray), .slice none 0 0] 28 (0, 0)) BK129.out hb)
      have n5_ := Aside0.mk (blk_below BK135.out hb)
      have n6_ := Aside0.mk (below_step HB.out hb)
      clear HO134
      clear BK128
      clear BK129
      clear BK135
      clear HB
      have HO134 := n0_
      have HO140 := n1_
      have HO145 := n2_
      have BK128 := n3_
      have BK129 := n4_
      have BK135 := n5_
      have HB := n6_
      clear n0_ n1_ n2_ n3_ n4_ n5_ n6_
      (try clear hb)
      (try clear hb2)
      (try clear hk)
      (try clear hi)
      (try clear ho0)
      (try clear ho1)
      obtain ⟨Ao25, co25, eo25⟩ := Kd.R_slice HO140.out
      (first | subst eo25 | (injection eo25 with f1_ f2_ f3_; have f4_ := f1_.symm; have f5_ := f3_.symm; clear f1_ f2_ f3_; subst f4_; subst f5_))
      obtain ⟨Ao29, co29, eo29⟩ := Kd.R_slice HO145.out
      (first | subst eo29 | (injection eo29 with f1_ f2_ f3_; have f4_ := f1_.symm; have f5_ := f3_.symm; clear f1_ f2_ f3_; subst f4_; subst f5_))
      refine hK.out _ _ ⟨(blk_cell BK135.out 0).trans rfl, (blk_cell BK135.out 1).trans rfl⟩ (fun hHeld => ?_)
      clear hK K
      refine norm_ (a' := ?_) ?_ ?_
      rotate_left
      · show Act.put _ (some 19) _ = _
        simp only [Act.put, List.setIfInBounds_toArray, List.set_cons_zero, List.set_cons_succ, i64_w, i32_w]
        rfl
      refine one_ (i := 3) (N := none) #[true, true, true, true, false] rfl rfl (by kernel_rfl) (by decide) (fun K hK => ?_)
      have hs21 : w20.cell? ⟨gb128, 0, none⟩ = some (.bool false) := (blk_cell BK128.out 0).trans rfl
      have hfs21 := blk_frozen BK128.out 0
      have hns21_1 := NB129_128.out
      have hns21_2 := NB135_128.out
      have hms21_1 := NB128_129.out
      have hms21_2 := NB128_135.out
      have hs22 : w20.cell? ⟨gb128, 1, none⟩ = some (.slice none 0 0) := (blk_cell BK128.out 1).trans rfl
      have hfs22 := blk_frozen BK128.out 1
      have hns22_1 := NB129_128.out
      have hns22_2 := NB135_128.out
      have hms22_1 := NB128_129.out
      have hms22_2 := NB128_135.out
      refine skip_ (w1 := ?_) (by rfl) rfl ?_ ?_
      rotate_left
      · go_simp
        rfl
      refine hK.out _ _ ⟨((cell_far (p := ⟨gb128, _, none⟩) NB135_128.out _).trans (((cell_far (p := ⟨gb128, _, none⟩) NB135_128.out _).trans (hHeld.1)))), ((cell_far (p := ⟨gb128, _, none⟩) NB135_128.out _).trans (((cell_far (p := ⟨gb128, _, none⟩) NB135_128.out _).trans (hHeld.2))))⟩ (fun hHeld => ?_)
      clear hK K
      refine one_ (i := 4) (N := none) #[true, true, true, true, true] rfl rfl (by kernel_rfl) (by decide) (fun K hK => ?_)
      have hs23 : w20.cell? ⟨gb129, 0, none⟩ = some (.int .i64 0) := (blk_cell BK129.out 0).trans rfl
      have hfs23 := blk_frozen BK129.out 0
      have hns23_0 := NB128_129.out
      have hns23_2 := NB135_129.out
      have hms23_0 := NB129_128.out
      have hms23_2 := NB129_135.out
      have hs24 : w20.cell? ⟨gb129, 1, none⟩ = some (.bool false) := (blk_cell BK129.out 1).trans rfl
      have hfs24 := blk_frozen BK129.out 1
      have hns24_0 := NB128_129.out
      have hns24_2 := NB135_129.out
      have hms24_0 := NB129_128.out
      have hms24_2 := NB129_135.out
      have hs26 : w20.cell? ⟨gb129, 2, none⟩ = some (.slice none 0 0) := (blk_cell BK129.out 2).trans rfl
      have hfs26 := blk_frozen BK129.out 2
      have hns26_0 := NB128_129.out
      have hns26_2 := NB135_129.out
      have hms26_0 := NB129_128.out
      have hms26_2 := NB129_135.out
      have hs27 : w20.cell? ⟨gb129, 3, none⟩ = some (.int .u64 0) := (blk_cell BK129.out 3).trans rfl
      have hfs27 := blk_frozen BK129.out 3
      have hns27_0 := NB128_129.out
      have hns27_2 := NB135_129.out
      have hms27_0 := NB129_128.out
      have hms27_2 := NB129_135.out
      have hs28 : w20.cell? ⟨gb129, 4, none⟩ = some (.string (⟨#[]⟩ : ByteArray)) := (blk_cell BK129.out 4).trans rfl
      have hfs28 := blk_frozen BK129.out 4
      have hns28_0 := NB128_129.out
      have hns28_2 := NB135_129.out
      have hms28_0 := NB129_128.out
      have hms28_2 := NB129_135.out
      have hs30 : w20.cell? ⟨gb129, 5, none⟩ = some (.slice none 0 0) := (blk_cell BK129.out 5).trans rfl
      have hfs30 := blk_frozen BK129.out 5
      have hns30_0 := NB128_129.out
      have hns30_2 := NB135_129.out
      have hms30_0 := NB129_128.out
      have hms30_2 := NB129_135.out
      refine skip_ (w1 := ?_) (by rfl) rfl ?_ ?_
      rotate_left
      · go_simp
        rfl
      refine hK.out _ _ ⟨((cell_far (p := ⟨gb129, _, none⟩) NB135_129.out _).trans (((cell_far (p := ⟨gb129, _, none⟩) NB135_129.out _).trans (((cell_far (p := ⟨gb129, _, none⟩) NB135_129.out _).trans (((cell_far (p := ⟨gb129, _, none⟩) NB135_129.out _).trans (((cell_far (p := ⟨gb129, _, none⟩) NB135_129.out _).trans (((cell_far (p := ⟨gb129, _, none⟩) NB135_129.out _).trans (hHeld.1)))))))))))), ((cell_far (p := ⟨gb129, _, none⟩) NB135_129.out _).trans (((cell_far (p := ⟨gb129, _, none⟩) NB135_129.out _).trans (((cell_far (p := ⟨gb129, _, none⟩) NB135_129.out _).trans (((cell_far (p := ⟨gb129, _, none⟩) NB135_129.out _).trans (((cell_far (p := ⟨gb129, _, none⟩) NB135_129.out _).trans (((cell_far (p := ⟨gb129, _, none⟩) NB135_129.out _).trans (hHeld.2))))))))))))⟩ (fun hHeld => ?_)
      clear hK K
      refine done_ (by kernel_rfl) ?_
      try go_wp2
      refine bodyPost_ret (results_cc rfl _ _ gb128 gb129 24 28 #[.bool t131, .slice Ao17 t132.length co17] #[.int .i64 t136, .bool t137, .slice Ao25 t138.length co25, .int .u64 t141, .string t142, .slice Ao29 t143.length co29] (0, 0) (0, 0) _ _ rfl (by (with_reducible repeat (first | refine blk_drewN ?_ _ | refine blk_drew ?_ | refine blk_alloc ?_ _)); refine blk_far ?_ NB128_129.out _; (with_reducible repeat (first | refine blk_drewN ?_ _ | refine blk_drew ?_ | refine blk_alloc ?_ _)); refine blk_far ?_ NB128_129.out _; (with_reducible repeat (first | refine blk_drewN ?_ _ | refine blk_drew ?_ | refine blk_alloc ?_ _)); refine blk_far ?_ NB128_129.out _; (with_reducible repeat (first | refine blk_drewN ?_ _ | refine blk_drew ?_ | refine blk_alloc ?_ _)); refine blk_far ?_ NB128_129.out _; (with_reducible repeat (first | refine blk_drewN ?_ _ | refine blk_drew ?_ | refine blk_alloc ?_ _)); refine blk_far ?_ NB128_129.out _; (with_reducible repeat (first | refine blk_drewN ?_ _ | refine blk_drew ?_ | refine blk_alloc ?_ _)); refine blk_far ?_ NB128_129.out _; (with_reducible repeat (first | refine blk_drewN ?_ _ | refine blk_drew ?_ | refine blk_alloc ?_ _)); refine blk_put (cs := #[.bool t131, .slice none 0 0]) ?_ 1 _ rfl; (with_reducible repeat (first | refine blk_drewN ?_ _ | refine blk_drew ?_ | refine blk_alloc ?_ _)); refine blk_put (cs := #[.bool false, .slice none 0 0]) ?_ 0 _ rfl; (with_reducible repeat (first | refine blk_drewN ?_ _ | refine blk_drew ?_ | refine blk_alloc ?_ _)); exact BK128.out) Tryz.underlying24 rfl (by kernel_rfl) rfl (by (with_reducible repeat (first | refine blk_drewN ?_ _ | refine blk_drew ?_ | refine blk_alloc ?_ _)); refine blk_put (cs := #[.int .i64 t136, .bool t137, .slice Ao25 t138.length co25, .int .u64 t141, .string t142, .slice none 0 0]) ?_ 5 _ rfl; (with_reducible repeat (first | refine blk_drewN ?_ _ | refine blk_drew ?_ | refine blk_alloc ?_ _)); refine blk_put (cs := #[.int .i64 t136, .bool t137, .slice Ao25 t138.length co25, .int .u64 t141, .string (⟨#[]⟩ : ByteArray), .slice none 0 0]) ?_ 4 _ rfl; (with_reducible repeat (first | refine blk_drewN ?_ _ | refine blk_drew ?_ | refine blk_alloc ?_ _)); refine blk_put (cs := #[.int .i64 t136, .bool t137, .slice Ao25 t138.length co25, .int .u64 0, .string (⟨#[]⟩ : ByteArray), .slice none 0 0]) ?_ 3 _ rfl; (with_reducible repeat (first | refine blk_drewN ?_ _ | refine blk_drew ?_ | refine blk_alloc ?_ _)); refine blk_put (cs := #[.int .i64 t136, .bool t137, .slice none 0 0, .int .u64 0, .string (⟨#[]⟩ : ByteArray), .slice none 0 0]) ?_ 2 _ rfl; (with_reducible repeat (first | refine blk_drewN ?_ _ | refine blk_drew ?_ | refine blk_alloc ?_ _)); refine blk_put (cs := #[.int .i64 t136, .bool false, .slice none 0 0, .int .u64 0, .string (⟨#[]⟩ : ByteArray), .slice none 0 0]) ?_ 1 _ rfl; (with_reducible repeat (first | refine blk_drewN ?_ _ | refine blk_drew ?_ | refine blk_alloc ?_ _)); refine blk_put (cs := #[.int .i64 0, .bool false, .slice none 0 0, .int .u64 0, .string (⟨#[]⟩ : ByteArray), .slice none 0 0]) ?_ 0 _ rfl; (with_reducible repeat (first | refine blk_drewN ?_ _ | refine blk_drew ?_ | refine blk_alloc ?_ _)); refine blk_far ?_ NB129_128.out _; (with_reducible repeat (first | refine blk_drewN ?_ _ | refine blk_drew ?_ | refine blk_alloc ?_ _)); refine blk_far ?_ NB129_128.out _; (with_reducible repeat (first | refine blk_drewN ?_ _ | refine blk_drew ?_ | refine blk_alloc ?_ _)); exact BK129.out) Tryz.underlying28 rfl (by kernel_rfl)) rfl ?_
      exact ⟨_, _, _, by first | rfl | (simp [errW_none, errW_some] <;> rfl) | (simp only [← hji4]; first | rfl | (simp [errW_none, errW_some] <;> rfl)) | (simp [*, errW_none, errW_some] <;> rfl), by (with_reducible repeat (first | apply Kd.R_alloc | apply Kd.R_drewN | apply Kd.R_drew)); exact Kd.R_mono (Kd.R_far (p := ⟨gb129, 5, none⟩) (Kd.R_far (p := ⟨gb129, 4, none⟩) (Kd.R_far (p := ⟨gb129, 3, none⟩) (Kd.R_far (p := ⟨gb129, 2, none⟩) (Kd.R_far (p := ⟨gb129, 1, none⟩) (Kd.R_far (p := ⟨gb129, 0, none⟩) (Kd.R_far (p := ⟨gb128, 1, none⟩) (Kd.R_far (p := ⟨gb128, 0, none⟩) (Kd.R_types (Kd.R_types HO134.out BK128.out (by decide)) BK129.out (by decide)) (fun _ hk => hk.1.2) (.bool t131)) (fun _ hk => hk.1.2) (.slice Ao17 t132.length co17)) (fun _ hk => hk.2) (.int .i64 t136)) (fun _ hk => hk.2) (.bool t137)) (fun _ hk => hk.2) (.slice Ao25 t138.length co25)) (fun _ hk => hk.2) (.int .u64 t141)) (fun _ hk => hk.2) (.string t142)) (fun _ hk => hk.2) (.slice Ao29 t143.length co29)) (fun _ hk => hk.1.1.2), by (with_reducible repeat (first | apply Kd.R_alloc | apply Kd.R_drewN | apply Kd.R_drew)); exact Kd.R_mono (Kd.R_far (p := ⟨gb129, 5, none⟩) (Kd.R_far (p := ⟨gb129, 4, none⟩) (Kd.R_far (p := ⟨gb129, 3, none⟩) (Kd.R_far (p := ⟨gb129, 2, none⟩) (Kd.R_far (p := ⟨gb129, 1, none⟩) (Kd.R_far (p := ⟨gb129, 0, none⟩) (Kd.R_far (p := ⟨gb128, 1, none⟩) (Kd.R_far (p := ⟨gb128, 0, none⟩) (Kd.R_types (Kd.R_types HO140.out BK128.out (by decide)) BK129.out (by decide)) (fun _ hk => hk.1.2) (.bool t131)) (fun _ hk => hk.1.2) (.slice Ao17 t132.length co17)) (fun _ hk => hk.2) (.int .i64 t136)) (fun _ hk => hk.2) (.bool t137)) (fun _ hk => hk.2) (.slice Ao25 t138.length co25)) (fun _ hk => hk.2) (.int .u64 t141)) (fun _ hk => hk.2) (.string t142)) (fun _ hk => hk.2) (.slice Ao29 t143.length co29)) (fun _ hk => hk.1.1.2), by (with_reducible repeat (first | apply Kd.R_alloc | apply Kd.R_drewN | apply Kd.R_drew)); exact Kd.R_mono (Kd.R_far (p := ⟨gb129, 5, none⟩) (Kd.R_far (p := ⟨gb129, 4, none⟩) (Kd.R_far (p := ⟨gb129, 3, none⟩) (Kd.R_far (p := ⟨gb129, 2, none⟩) (Kd.R_far (p := ⟨gb129, 1, none⟩) (Kd.R_far (p := ⟨gb129, 0, none⟩) (Kd.R_far (p := ⟨gb128, 1, none⟩) (Kd.R_far (p := ⟨gb128, 0, none⟩) (Kd.R_mono (Kd.R_types HO145.out BK128.out (by decide)) (fun k_ hk => (⟨hk, hk.1.2⟩ : _ ∧ k_ ≠ gb129))) (fun _ hk => hk.1.2) (.bool t131)) (fun _ hk => hk.1.2) (.slice Ao17 t132.length co17)) (fun _ hk => hk.2) (.int .i64 t136)) (fun _ hk => hk.2) (.bool t137)) (fun _ hk => hk.2) (.slice Ao25 t138.length co25)) (fun _ hk => hk.2) (.int .u64 t141)) (fun _ hk => hk.2) (.string t142)) (fun _ hk => hk.2) (.slice Ao29 t143.length co29)) (fun _ hk => ⟨hk.1.1.1.2, hk.1.1.1.1⟩), by repeat (first | (with_reducible first | exact HB.out | apply below_alloc | apply pw_below_drewN | apply below_drew1 | refine below_set ?_ GE128.out | refine below_set ?_ GE129.out | refine below_set ?_ GE135.out) | exact HB.out)⟩
    · rw [if_neg c6] at H
      exact absurd H (by simp)
  · rw [if_neg c5] at H
    exact absurd H (by simp)


end Go.Proofs.YtodipcgilgigbaaGreatDoor.I
