/- big.Int's Set, Neg; starlark's MakeBigInt; impl.whole. -/
import Derived.Test.YtodipcgilgigbaaGreatDoorV8
import Derived.Deep.RegionWith
import Derived.Deep.RegionHeld3
import Derived.Deep.DrawnRows
import Derived.Outline
set_option linter.unusedVariables false
namespace Go.Proofs.YtodipcgilgigbaaGreatDoor.V
open Go Go.RowKit Go.Proofs.YtodipcgilgigbaaGreatDoor.I
attribute [local go_sem ↓] Go.wp_at_zero Go.wp_at_succ
theorem run_neq_ptr_other {P : Program} (w : World) {tp te : TypeId} {k : Nat} {a b : Addr} {ca cb : Array Value} {ta tb : TypeId} (hp : P.underlying tp = some (.pointer te)) (hte : (P.info? te).map (·.size) = some (k + 1))
    (hne : a ≠ b) (ha : w.heap[a.block]? = some (.cells ca ta (0, 0))) (hb : w.heap[b.block]? = some (.cells cb tb (0, 0))) :
    (binOp .neq tp (.pointer (some a)) (.pointer (some b))).run P w = .ok (.bool true) w := by
  obtain ⟨j, hj, hs⟩ := Option.map_eq_some_iff.1 hte
  have hsz : j.size ≠ 0 := by omega
  have h : ∀ d : Nat, (Op.equalIn (d + 1) tp (.pointer (some a)) (.pointer (some b))).run P w = .ok false w := fun d => by
    simp [Op.equalIn, run_underlying hp, sizeOf, typeInfo, hj, hsz, run_sameAddr_other w hne ha hb]
  simp only [binOp]
  simp [Op.equal, Op.maxDepth, h 9999]
theorem run_neq_ptr_self {P : Program} (w : World) {tp te : TypeId} {k : Nat} (a : Addr) (hp : P.underlying tp = some (.pointer te)) (hte : (P.info? te).map (·.size) = some k) :
    (binOp .neq tp (.pointer (some a)) (.pointer (some a))).run P w = .ok (.bool false) w := by
  obtain ⟨j, hj, hs⟩ := Option.map_eq_some_iff.1 hte
  exact Lib.run_neq_ptr_same w a hp hj
theorem sizeZ : (Tryz.prog.info? 147).map (·.size) = some (1 + 1) := by kernel_rfl
set_option maxRecDepth 100000 in
set_option maxHeartbeats 1000000 in
/-- z.Set(x), z being new, another than x. -/
theorem intSet_call (g g2 o n : Nat) (neg : Bool) (hl : wl n ≤ 1000) (w : World) (h : ZAt w g2 o neg n) (hne : g ≠ g2) (hg : w.heap[g]? = some (.cells #[.bool false, .slice none 0 0] 147 (0, 0))) : Calls Tryz.prog 79 #[.pointer (some ⟨g, 0, none⟩), .pointer (some ⟨g2, o, none⟩)] w fun e w' => e = .returned (.pointer (some ⟨g, 0, none⟩)) ∧ ZAt w' g 0 neg n ∧ Off (· = g) w w' := by
  have c0 := (Lib.cell_of_heap hg 0).trans (rfl : _ = some (Value.bool false))
  have c1 := (Lib.cell_of_heap hg 1).trans (rfl : _ = some (Value.slice none 0 0))
  have hgl := (Array.getElem?_eq_some_iff.1 hg).1
  obtain ⟨A, c, hw, x0, x1, y0, y1, hgl2⟩ := h.cells
  have SC := fun w' (hw' : IsW w' (.slice A (wl n) c) (words n)) => set_call (.slice A (wl n) c) (words n) hl w' hw'
  obtain ⟨cs2, T2, v2, hg2, _⟩ := id h
  have hnq := run_neq_ptr_other (P := Tryz.prog) w (a := ⟨g, 0, none⟩) (b := ⟨g2, o, none⟩) Tryz.underlying95 sizeZ (fun e => hne (by injection e)) hg hg2
  have hT : 147 ≠ 166 := by decide
  go_enter Tryz.func79, Tryz.ntmps79
  go_wp2_with fail
  go_region_with (go_at_call 72; refine (SC _ (hw.below (Below.refl _ _).drew)).mono ?_; rintro _ w1 ⟨v1, rfl, hv1, hb1, hf1⟩; obtain ⟨A1, k1, rfl, _⟩ := hv1.form; have hg1 := (hb1.block g hgl).trans hg; have d0 := (Lib.cell_of_heap hg1 0).trans (rfl : _ = some (Value.bool false)); have d1 := (Lib.cell_of_heap hg1 1).trans (rfl : _ = some (Value.slice none 0 0)); have z0 := Lib.frozen_of_heap hg1 0; have z1 := Lib.frozen_of_heap hg1 1; have e0 := (hb1.cell (p := ⟨g2, o, none⟩) hgl2).trans x0)
  all_goals
    have p1 := heap_put hg1 1 (.slice A1 (words n).length k1)
    have q0 := (Lib.cell_of_heap p1 0).trans (rfl : _ = some (Value.bool false))
    have q1 := Lib.frozen_of_heap p1 0
    have r0 : (w1.setCell ⟨g, 1, none⟩ (.slice A1 (words n).length k1)).cell? ⟨g2, o, none⟩ = some (.bool neg) := by
      rw [World.cell?_of_block (Below.heap_setCell w1 ⟨g, 1, none⟩ _ g2 (Ne.symm hne))]
      exact e0
    go_wp2_with fail
    go_ret
    have p2 := heap_put p1 0 (.bool neg)
    refine ⟨rfl, ⟨_, _, _, p2, hT, rfl, rfl, (hv1.setOther hg1 hT 1 _).setOther p1 hT 0 _⟩, ?_⟩
    exact ((Off.of (S := (· = g)) (bt (Below.refl _ w).drew hb1 (Nat.le_refl _))).setCell (p := ⟨g, 1, none⟩) (.inl rfl) _).setCell (p := ⟨g, 0, none⟩) (.inl rfl) _
set_option maxRecDepth 100000 in
theorem intSetSelf_call (a : Addr) (w : World) : Calls Tryz.prog 79 #[.pointer (some a), .pointer (some a)] w fun e w' => e = .returned (.pointer (some a)) ∧ w = w' := by
  have hnq := run_neq_ptr_self (P := Tryz.prog) w a Tryz.underlying95 sizeZ
  go_enter Tryz.func79, Tryz.ntmps79
  go_wp2_with fail
  go_ret
  exact ⟨rfl, rfl⟩
set_option maxRecDepth 100000 in
set_option maxHeartbeats 1000000 in
/-- z.Neg(z). -/
theorem negSelf_call (g n : Nat) (neg : Bool) (w : World) (h : ZAt w g 0 neg n) : Calls Tryz.prog 67 #[.pointer (some ⟨g, 0, none⟩), .pointer (some ⟨g, 0, none⟩)] w fun e w' => e = .returned (.pointer (some ⟨g, 0, none⟩)) ∧ ZAt w' g 0 (decide (n ≠ 0) && !neg) n ∧ Off (· = g) w w' := by
  obtain ⟨A, c, hw, c0, c1, f0, f1, hl⟩ := h.cells
  obtain ⟨cs, T, v, hg, hT, h0, h1, hw'⟩ := id h
  have fin : ∀ b, ZAt (w.setCell ⟨g, 0, none⟩ (.bool b)) g 0 b n ∧ Off (· = g) w (w.setCell ⟨g, 0, none⟩ (.bool b)) := by
    intro b
    have hs : 0 < cs.size := by
      have := (Array.getElem?_eq_some_iff.1 h0).1
      exact this
    refine ⟨⟨_, T, v, heap_put hg 0 (.bool b), hT, by simp [hs], by simpa using h1, hw'.setOther hg hT 0 _⟩, (Off.refl (fun k => k = g) w).setCell (p := ⟨g, 0, none⟩) (.inl rfl) _⟩
  by_cases hn : n = 0
  · subst hn
    rw [wl_zero] at *
    go_enter Tryz.func67, Tryz.ntmps67
    go_wp2_with (go_at_call 79; refine (intSetSelf_call _ _).mono ?_; rintro _ w1 ⟨rfl, rfl⟩)
    go_ret
    exact ⟨rfl, fin false⟩
  · have k0 : (0 : Int) < wl n := by have := wl_pos hn; omega
    rw [decide_eq_true hn, Bool.true_and]
    go_enter Tryz.func67, Tryz.ntmps67
    go_wp2_with (go_at_call 79; refine (intSetSelf_call _ _).mono ?_; rintro _ w1 ⟨rfl, rfl⟩)
    go_ret
    exact ⟨rfl, fin (!neg)⟩
theorem is_small {w : World} {B : Nat} {neg : Bool} {n : Nat} (hc : neg = true → n ≠ 0) (hs : small neg n = true) : IsS w B (.agg #[.int .i64 (i64of neg n), .pointer none]) (zn neg n) := by
  have hn : n ≤ 2147483648 := by
    unfold small at hs
    simp at hs
    omega
  rw [i64_small (by omega)]
  refine .inl ⟨rfl, ?_⟩
  rw [zn_lt hc, zn_abs]
  exact hs
theorem is_big {w : World} {B g : Nat} {neg : Bool} {n : Nat} (hc : neg = true → n ≠ 0) (hs : small neg n = false) (hz : ZAt w g 0 neg n) (hB : B ≤ g) : IsS w B (.agg #[.int .i64 0, .pointer (some ⟨g, 0, none⟩)]) (zn neg n) := by
  refine .inr ⟨g, rfl, ?_, ?_, hB⟩
  · rw [zn_lt hc, zn_abs]; exact hs
  · rw [zn_lt hc, zn_abs]; exact hz
set_option maxRecDepth 100000 in
set_option maxHeartbeats 1000000 in
theorem makeBigInt_call (g o n : Nat) (neg : Bool) (hl : wl n ≤ 1000) (hc : neg = true → n ≠ 0) (w : World) (h : ZAt w g o neg n) : Calls Tryz.prog 68 #[.pointer (some ⟨g, o, none⟩)] w fun e w' => ∃ v, e = .returned v ∧ IsS w' w.heap.size v (zn neg n) ∧ Below w.heap.size w w' := by
  cases hs : small neg n
  · have SC := isSmall_call g o n neg hl
    rw [hs] at SC
    go_enter Tryz.func68, Tryz.ntmps68
    go_wp2_with (go_at_call 80; refine (SC _ (h.below ((Below.refl _ _).alloc (Nat.le_refl _) _))).mono ?_; rintro _ w1 ⟨rfl, rfl⟩)
    have hgl := h.lt
    have hA : Below w.heap.size w (w.alloc (.cells #[.int .i64 0, .pointer none] 99)) := (Below.refl _ _).alloc (Nat.le_refl _) _
    have hAA : Below w.heap.size w ((w.alloc (.cells #[.int .i64 0, .pointer none] 99)).alloc (.cells #[.bool false, .slice none 0 0] 147)) := hA.alloc (by simp) _
    have hgr : ((w.alloc (.cells #[.int .i64 0, .pointer none] 99)).alloc (.cells #[.bool false, .slice none 0 0] 147)).heap[w.heap.size]? = some (.cells #[.int .i64 0, .pointer none] 99 (0, 0)) := (Below.heap_alloc _ _ _ (by simp)).trans (heap_alloc_new w _)
    have hgz : ((w.alloc (.cells #[.int .i64 0, .pointer none] 99)).alloc (.cells #[.bool false, .slice none 0 0] 147)).heap[w.heap.size + 1]? = some (.cells #[.bool false, .slice none 0 0] 147 (0, 0)) := by
      have := heap_alloc_new (w.alloc (.cells #[.int .i64 0, .pointer none] 99)) (.cells #[.bool false, .slice none 0 0] 147)
      simpa using this
    have hsz : ((w.alloc (.cells #[.int .i64 0, .pointer none] 99)).alloc (.cells #[.bool false, .slice none 0 0] 147)).heap.size = w.heap.size + 2 := by simp
    refine (intSet_call (w.heap.size + 1) g o n neg hl _ (h.below hAA) (by omega) hgz).mono ?_
    rintro _ w1 ⟨rfl, hz1, ho1⟩
    have hg1 := (ho1.block w.heap.size (by omega) (by omega)).trans hgr
    have hB1 : Below w.heap.size w w1 := hAA.trans (ho1.below (by omega) (fun k hk => by omega))
    go_wp2_with (go_at_call 82; refine (makeBig_call _ _).mono ?_; rintro _ w2 ⟨rfl, hb2⟩; have hg2 := (hb2.block w.heap.size (by have := ho1.size; omega)).trans hg1; have d0 := (Lib.cell_of_heap hg2 0).trans (rfl : _ = some _); have d1 := (Lib.cell_of_heap hg2 1).trans (rfl : _ = some _); have z0 := Lib.frozen_of_heap hg2 0; have z1 := Lib.frozen_of_heap hg2 1)
    have p1 := heap_put hg2 0 (.int .i64 0)
    have p2 := heap_put p1 1 (.pointer (some ⟨w.heap.size + 1, 0, none⟩))
    have q0 := (Lib.cell_of_heap p2 0).trans (rfl : _ = some _)
    have q1 := (Lib.cell_of_heap p2 1).trans (rfl : _ = some _)
    have hB2 := bt hB1 hb2 (Nat.le_refl _)
    have hT : 99 ≠ 166 := by decide
    refine bodyPost_ret (v := .agg #[.int .i64 0, .pointer (some ⟨w.heap.size + 1, 0, none⟩)]) (by simp [results, Tryz.results68, go_sem, q0, q1]) rfl ⟨_, rfl, is_big hc hs ?_ (by omega), ((hB2.setCell (p := ⟨w.heap.size, 0, none⟩) (Nat.le_refl _) _).setCell (p := ⟨w.heap.size, 1, none⟩) (Nat.le_refl _) _)⟩
    obtain ⟨cs, T, v, hzg, hzT, hz0, hz1', hzw⟩ := hz1.below hb2
    exact ⟨cs, T, v, by rw [Below.heap_setCell _ _ _ _ (by show w.heap.size + 1 ≠ w.heap.size; omega), Below.heap_setCell _ _ _ _ (by show w.heap.size + 1 ≠ w.heap.size; omega)]; exact hzg, hzT, hz0, hz1', (hzw.setOther hg2 hT 0 _).setOther p1 hT 1 _⟩
  · have SC := isSmall_call g o n neg hl
    rw [hs] at SC
    go_enter Tryz.func68, Tryz.ntmps68
    go_wp2_with (first | (go_at_call 80; refine (SC _ (h.below ((Below.refl _ _).alloc (Nat.le_refl _) _))).mono ?_; rintro _ w1 ⟨rfl, rfl⟩) | (go_at_call 61; refine (int64_call g o n neg hl _ (h.below ((Below.refl _ _).alloc (Nat.le_refl _) _))).mono ?_; rintro _ w1 ⟨rfl, rfl⟩) | (go_at_call 81; refine (makeSmall_call _ _).mono ?_; rintro _ w2 ⟨rfl, hb2⟩; have hg2 := (hb2.block w.heap.size (by simp)).trans (heap_alloc_new w _); have d0 := (Lib.cell_of_heap hg2 0).trans (rfl : _ = some _); have d1 := (Lib.cell_of_heap hg2 1).trans (rfl : _ = some _); have z0 := Lib.frozen_of_heap hg2 0; have z1 := Lib.frozen_of_heap hg2 1))
    have p1 := heap_put hg2 0 (.int .i64 (i64of neg n))
    have p2 := heap_put p1 1 (.pointer none)
    have q0 := (Lib.cell_of_heap p2 0).trans (rfl : _ = some _)
    have q1 := (Lib.cell_of_heap p2 1).trans (rfl : _ = some _)
    have hB2 : Below w.heap.size w w2 := bt ((Below.refl _ _).alloc (Nat.le_refl _) _) hb2 (Nat.le_refl _)
    exact bodyPost_ret (v := .agg #[.int .i64 (i64of neg n), .pointer none]) (by simp [results, Tryz.results68, go_sem, q0, q1]) rfl ⟨_, rfl, is_small hc hs, ((hB2.setCell (p := ⟨w.heap.size, 0, none⟩) (Nat.le_refl _) _).setCell (p := ⟨w.heap.size, 1, none⟩) (Nat.le_refl _) _)⟩
end Go.Proofs.YtodipcgilgigbaaGreatDoor.V
