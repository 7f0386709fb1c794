/- FnAsFloat answers true. -/
import Derived.Test.YtodipcgilgigbaaGreatDoorVL
import Derived.Test.YtodipcgilgigbaaGreatDoorVM
set_option linter.unusedVariables false
namespace Go.Proofs.YtodipcgilgigbaaGreatDoor.V
open Go Go.RowKit Go.Proofs.YtodipcgilgigbaaGreatDoor.I Go.Proofs.YtodipcgilgigbaaGreatDoorW.PrintWords
attribute [local go_sem ↓] Go.wp_at_zero Go.wp_at_succ

set_option maxRecDepth 100000 in
set_option maxHeartbeats 2000000 in
theorem law (x : Nat) (an : Bool) (A : Option Addr) (c : Nat) (l : List Int) (hm : Bytes l) (w : World) (hr : Kd.C (Kd.int .u8) w A l.length l) (hc : l.length ≤ c) (hn : l.length ≤ 9223372036854775807) :
    Calls Tryz.prog 4 #[.int .u64 x, .bool an, .slice A l.length c] w fun e w' => e = .returned (.bool true) ∧ Below w.heap.size w w' := by
  by_cases hL : (2147483647 : Int) < l.length
  · generalize l.length = n at *
    go_enter Tryz.func4, Tryz.ntmps4
    go_wp2_with fail
    go_ret
    exact ⟨rfl, Below.refl _ _⟩
  · have FC := iAsFloat_float false none 0 0 x ⟨#[]⟩ none 0 0
    have WC := fun (w' : World) (hb : Below w.heap.size w w') => lwhole_call an A c l hm 200 (by omega) w' (Kd.C_below hr hb) hc
    have h1 := val_lt _ _ rfl (show Bytes (l.take 200) from fun d hd => hm d (List.mem_of_mem_take hd))
    have hlt : (l.take 200).length ≤ 200 := by rw [List.length_take]; omega
    have hab : (if an then -(val (l.take 200) : Int) else (val (l.take 200) : Int)).natAbs = val (l.take 200) := by cases an <;> simp
    have hlen : len (if an then -(val (l.take 200) : Int) else (val (l.take 200) : Int)).natAbs ≤ 200 := by
      rw [hab]
      exact Nat.le_trans (len_le h1) hlt
    generalize (if an then -(val (l.take 200) : Int) else (val (l.take 200) : Int)) = z at *
    clear h1 hlt hab
    unfold Whl at WC
    simp only [Int.cast_ofNat_Int] at WC
    generalize l.length = n at *
    go_enter Tryz.func4, Tryz.ntmps4
    have hbl : (I.bytes z.natAbs).length ≤ 1000 := Nat.le_trans hlen (by omega)
    have hzz : zn (decide (z < 0) && decide (val (I.bytes z.natAbs) ≠ 0)) (val (I.bytes z.natAbs)) = z := by
      rw [val_bytes]
      unfold zn
      by_cases h0 : z < 0
      · rw [decide_eq_true h0, Bool.true_and, decide_eq_true (show z.natAbs ≠ 0 by omega), if_pos rfl]; omega
      · rw [decide_eq_false h0, Bool.false_and, if_neg (by decide)]; omega
    have GC := fun (mA : Option Addr) (mc : Nat) (kA : Option Addr) (kn kc : Nat) (w' : World) => iAsFloat_int (decide (z < 0)) mA (I.bytes z.natAbs).length mc 0 ⟨#[]⟩ kA kn kc (I.bytes z.natAbs) (bytes_bytes z.natAbs) hbl z hzz w'
    have NC := nearest_walk z (by omega)
    have FB := fun b => run_bits b
    clear hzz hlen
    generalize I.bytes z.natAbs = bs at *
    generalize bs.length = bn at *
    generalize hsg : decide (z < 0) = sg at *
    generalize nb sg z.natAbs = R at *
    go_wp2_with (first | (go_at_call 11; with_reducible refine (FC _).mono ?_; rintro _ w1 ⟨rfl, hb1⟩) | (go_at_call 5; with_reducible refine (WC _ hb1).mono ?_; rintro _ w2 ⟨sv, mA, mc, kA, kn, kc, rfl, hi, hmc, hby, hb2⟩; obtain ⟨ib, iA, inn, ic, rfl⟩ := hi.form))
    have hA0 : Below w2.heap.size w2 ((w2.alloc (.cells #[.bool ib, .slice iA inn ic] 24)).alloc (.cells #[.int .i64 2, .bool sg, .slice mA bn mc, .int .u64 0, .string ⟨#[]⟩, .slice kA kn kc] 28)) := ((Below.refl _ w2).alloc (Nat.le_refl _) _).alloc (by simp) _
    have hg0 : ((w2.alloc (.cells #[.bool ib, .slice iA inn ic] 24)).alloc (.cells #[.int .i64 2, .bool sg, .slice mA bn mc, .int .u64 0, .string ⟨#[]⟩, .slice kA kn kc] 28)).heap[w2.heap.size]? = some (.cells #[.bool ib, .slice iA inn ic] 24 (0, 0)) := (Below.heap_alloc _ _ _ (by simp)).trans (heap_alloc_new w2 _)
    have hs0 := hA0.size
    have hsz : ((w2.alloc (.cells #[.bool ib, .slice iA inn ic] 24)).alloc (.cells #[.int .i64 2, .bool sg, .slice mA bn mc, .int .u64 0, .string ⟨#[]⟩, .slice kA kn kc] 28)).heap.size = w2.heap.size + 2 := by simp
    obtain ⟨W, hW⟩ : ∃ W, (w2.alloc (.cells #[.bool ib, .slice iA inn ic] 24)).alloc (.cells #[.int .i64 2, .bool sg, .slice mA bn mc, .int .u64 0, .string ⟨#[]⟩, .slice kA kn kc] 28) = W := ⟨_, rfl⟩
    rw [hW] at hA0 hg0 hs0 hsz ⊢
    clear hW
    have GCW := GC mA mc kA kn kc W (hby.below hA0) hmc
    have hi1 := hi.below hA0
    have hB1 : Below w.heap.size w W := bt (bt hb1 hb2 (Nat.le_refl _)) hA0 (Nat.le_refl _)
    have hlt : w2.heap.size < W.heap.size := by omega
    go_wp2_with (first | (go_at_call 11; with_reducible refine GCW.mono ?_; rintro _ w3 ⟨rfl, hb3⟩; have hi3 := hi1.below hb3; have hg3 := (hb3.block _ hlt).trans hg0; have c0 : w3.cell? ⟨w2.heap.size, 0, none⟩ = some (.bool ib) := (by rw [Lib.cell_of_heap hg3]; simp); have c1 : w3.cell? ⟨w2.heap.size, 1, none⟩ = some (.slice iA inn ic) := (by rw [Lib.cell_of_heap hg3]; simp)) | (go_at_call 6; refine (NC _ _ hi3).mono ?_; rintro _ w4 ⟨rfl, hb4⟩))
    go_ret
    exact ⟨rfl, bt (bt hB1 hb3 (Nat.le_refl _)) hb4 (Nat.le_refl _)⟩
end Go.Proofs.YtodipcgilgigbaaGreatDoor.V
