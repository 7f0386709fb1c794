/- Slices of words: what they hold; nat's make, norm. -/
import Derived.Test.YtodipcgilgigbaaGreatDoorC0
import Derived.Test.YtodipcgilgigbaaGreatDoorN5
import Derived.WalkKit
import Derived.Lib.Builder
import Derived.Deep.QuietTactic
import Derived.BigQuiet
set_option linter.unusedVariables false
namespace Go.Proofs.YtodipcgilgigbaaGreatDoor.V
open Go Go.RowKit Go.Proofs.YtodipcgilgigbaaGreatDoor.I

theorem infoW : (Tryz.prog.info? 166).map (fun i => (i.zero, i.size, i.bytes)) = some (some (.int .u64 0), 1, 8) := by kernel_rfl
/-- The block g holds these words, and has room for cap. -/
def Row (w : World) (g cap : Nat) (xs : List Int) : Prop := ∃ cs : Array Value, w.heap[g]? = some (.cells cs 166 (0, 0)) ∧ cs.size = cap ∧ xs.length ≤ cap ∧ ∀ (i : Nat) (x : Int), xs[i]? = some x → cs[i]? = some (Value.int .u64 x)
theorem Row.below {w w' : World} {g cap : Nat} {xs : List Int} (h : Row w g cap xs) (hb : Below w.heap.size w w') : Row w' g cap xs := by
  obtain ⟨cs, hg, h1, h2, h3⟩ := h
  exact ⟨cs, (hb.block g (Array.getElem?_eq_some_iff.1 hg).1).trans hg, h1, h2, h3⟩
theorem Row.lt {w : World} {g cap : Nat} {xs : List Int} (h : Row w g cap xs) : g < w.heap.size := by
  obtain ⟨cs, hg, _⟩ := h
  exact (Array.getElem?_eq_some_iff.1 hg).1
theorem Row.cell {w : World} {g cap i : Nat} {xs : List Int} {x : Int} (h : Row w g cap xs) (hx : xs[i]? = some x) : w.cell? ⟨g, i, none⟩ = some (.int .u64 x) := by
  obtain ⟨cs, hg, h1, h2, h3⟩ := h
  rw [Lib.cell_of_heap hg]
  exact h3 i x hx
theorem Row.frozen {w : World} {g cap : Nat} {xs : List Int} (h : Row w g cap xs) (i : Nat) : w.frozen? ⟨g, i, none⟩ = false := by
  obtain ⟨cs, hg, _⟩ := h
  exact Lib.frozen_of_heap hg i
theorem Row.set {w : World} {g cap i : Nat} {xs : List Int} (h : Row w g cap xs) (x : Int) : Row (w.setCell ⟨g, i, none⟩ (.int .u64 x)) g cap (xs.set i x) := by
  obtain ⟨cs, hg, h1, h2, h3⟩ := h
  refine ⟨cs.setIfInBounds i (.int .u64 x), by simp [World.setCell, Array.getElem?_modify, hg], by simp [h1], by simpa using h2, fun j y hy => ?_⟩
  rw [List.getElem?_set] at hy
  rw [Array.getElem?_setIfInBounds]
  by_cases hij : i = j
  · subst hij
    rw [if_pos rfl] at hy ⊢
    by_cases hl : i < xs.length
    · rw [if_pos hl] at hy
      cases hy
      rw [if_pos (by omega)]
    · rw [if_neg hl] at hy; cases hy
  · rw [if_neg hij] at hy ⊢
    exact h3 j y hy
theorem Row.off {w : World} {g g' cap i : Nat} {xs : List Int} {v : Value} (h : Row w g cap xs) (hne : g' ≠ g) : Row (w.setCell ⟨g', i, none⟩ v) g cap xs := by
  obtain ⟨cs, hg, h1, h2, h3⟩ := h
  exact ⟨cs, by simp [World.setCell, Array.getElem?_modify, hne, hg], h1, h2, h3⟩
theorem Row.take {w : World} {g cap : Nat} {xs : List Int} (h : Row w g cap xs) (i : Nat) : Row w g cap (xs.take i) := by
  obtain ⟨cs, hg, h1, h2, h3⟩ := h
  refine ⟨cs, hg, h1, by rw [List.length_take]; omega, fun j y hy => ?_⟩
  rw [List.getElem?_take] at hy
  by_cases hj : j < i
  · rw [if_pos hj] at hy; exact h3 j y hy
  · rw [if_neg hj] at hy; cases hy
theorem made_get (n i : Nat) (h : i < n) : (madeCells #[Value.int .u64 0] n)[i]? = some (.int .u64 0) := by
  unfold madeCells
  simp [h, Nat.mod_one]
theorem Row.made (w : World) (n cap : Nat) (h : n ≤ cap) : Row (w.alloc (.cells (madeCells #[Value.int .u64 0] cap) 166)) w.heap.size cap (List.replicate n 0) := by
  refine ⟨_, heap_alloc_new w _, size_madeCells _ _, by simpa using h, fun i x hx => ?_⟩
  rw [List.getElem?_replicate] at hx
  by_cases hi : i < n
  · rw [if_pos hi] at hx
    cases hx
    exact made_get cap i (by omega)
  · rw [if_neg hi] at hx; cases hx
/-- The value is a slice of these words. -/
def IsW (w : World) (v : Value) (xs : List Int) : Prop := (v = .slice none 0 0 ∧ xs = []) ∨ ∃ g cap, v = .slice (some ⟨g, 0, none⟩) xs.length cap ∧ Row w g cap xs
theorem IsW.below {w w' : World} {v : Value} {xs : List Int} (h : IsW w v xs) (hb : Below w.heap.size w w') : IsW w' v xs := by
  rcases h with h | ⟨g, cap, rfl, hr⟩
  · exact .inl h
  · exact .inr ⟨g, cap, rfl, hr.below hb⟩
set_option maxRecDepth 100000 in
theorem make_big (n : Nat) (hn : 2 ≤ n) (hn2 : n ≤ 1000) (w : World) : Calls Tryz.prog 89 #[.slice none 0 0, .int .i64 n] w fun e w' => e = .returned (.slice (some ⟨w.heap.size, 0, none⟩) n (n + 4)) ∧ w' = w.alloc (.cells (madeCells #[Value.int .u64 0] (n + 4)) 166) := by
  obtain ⟨i0, hi, hz0, hz1, hz2⟩ := info_parts infoW
  have hm := run_make (P := Tryz.prog) w 141 166 i0 (.int .u64 0) Tryz.underlying141 hi hz0 .i64 .i64 (n : Int) ((n : Int) + 4) (by omega) (by omega) (by rw [hz2]; omega) (by omega)
  rw [hz1, Nat.mul_one, show ((n : Int) + 4).toNat = n + 4 by omega, Int.toNat_natCast] at hm
  have hn1 : ((n : Int) == 1) = false := by rw [beq_eq_false_iff_ne]; omega
  have hn0 : ¬ ((n : Int) ≤ 0) := by omega
  go_enter Tryz.func89, Tryz.ntmps89
  go_wp2_with fail
  go_ret
  exact ⟨rfl, rfl⟩
set_option maxRecDepth 100000 in
theorem make_one (w : World) : Calls Tryz.prog 89 #[.slice none 0 0, .int .i64 1] w fun e w' => e = .returned (.slice (some ⟨w.heap.size, 0, none⟩) 1 1) ∧ w' = w.alloc (.cells (madeCells #[Value.int .u64 0] 1) 166) := by
  obtain ⟨i0, hi, hz0, hz1, hz2⟩ := info_parts infoW
  have hm := run_make (P := Tryz.prog) w 141 166 i0 (.int .u64 0) Tryz.underlying141 hi hz0 .i64 .i64 1 1 (by omega) (by omega) (by rw [hz2]; omega) (by omega)
  rw [hz1] at hm
  go_enter Tryz.func89, Tryz.ntmps89
  go_wp2_with fail
  go_ret
  exact ⟨rfl, rfl⟩
set_option maxRecDepth 100000 in
theorem make_none (w : World) : Calls Tryz.prog 89 #[.slice none 0 0, .int .i64 0] w fun e w' => e = .returned (.slice none 0 0) ∧ w' = w := by
  go_enter Tryz.func89, Tryz.ntmps89
  go_wp2_with fail
  go_ret
  exact ⟨rfl, rfl⟩
/-- nat(nil).make(n): a slice of n noughts, of one's own. -/
theorem make_call (n : Nat) (hn : n ≤ 1000) (w : World) : Calls Tryz.prog 89 #[.slice none 0 0, .int .i64 n] w fun e w' => ∃ v, e = .returned v ∧ IsW w' v (List.replicate n 0) ∧ Below w.heap.size w w' ∧ (v = .slice none 0 0 ∧ n = 0 ∧ w' = w ∨ ∃ cap, v = .slice (some ⟨w.heap.size, 0, none⟩) n cap ∧ 0 < n ∧ w'.heap.size = w.heap.size + 1 ∧ Row w' w.heap.size cap (List.replicate n 0)) := by
  rcases Nat.lt_or_ge n 2 with h | h
  · rcases Nat.eq_zero_or_pos n with rfl | h0
    · refine (make_none w).mono ?_
      rintro _ _ ⟨rfl, rfl⟩
      exact ⟨_, rfl, .inl ⟨rfl, rfl⟩, Below.refl _ _, .inl ⟨rfl, rfl, rfl⟩⟩
    · obtain rfl : n = 1 := by omega
      refine (make_one w).mono ?_
      rintro _ _ ⟨rfl, rfl⟩
      have r := Row.made w 1 1 (Nat.le_refl _)
      exact ⟨_, rfl, .inr ⟨_, _, rfl, r⟩, (Below.refl _ w).alloc (Nat.le_refl _) _, .inr ⟨_, rfl, by omega, by simp, r⟩⟩
  · refine (make_big n h hn w).mono ?_
    rintro _ _ ⟨rfl, rfl⟩
    have r := Row.made w n (n + 4) (by omega)
    exact ⟨_, rfl, .inr ⟨_, _, by rw [List.length_replicate], r⟩, (Below.refl _ w).alloc (Nat.le_refl _) _, .inr ⟨_, rfl, by omega, by simp, r⟩⟩
end Go.Proofs.YtodipcgilgigbaaGreatDoor.V
