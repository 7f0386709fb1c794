/- big.Int at a place: what is read off it. -/
import Derived.Test.YtodipcgilgigbaaGreatDoorV6
import Derived.WalkLawsBesides
set_option linter.unusedVariables false
namespace Go.Proofs.YtodipcgilgigbaaGreatDoor.V
open Go Go.RowKit Go.Proofs.YtodipcgilgigbaaGreatDoor.I

/-- At o in block g lies a big.Int: its sign and its magnitude. -/
def ZAt (w : World) (g o : Nat) (neg : Bool) (n : Nat) : Prop :=
  ∃ cs T v, w.heap[g]? = some (.cells cs T (0, 0)) ∧ T ≠ 166 ∧ cs[o]? = some (.bool neg) ∧ cs[o + 1]? = some v ∧ IsW w v (words n)
theorem ZAt.cells {w : World} {g o n : Nat} {neg : Bool} (h : ZAt w g o neg n) : ∃ A c, IsW w (.slice A (wl n) c) (words n) ∧ w.cell? ⟨g, o, none⟩ = some (.bool neg) ∧ w.cell? ⟨g, o + 1, none⟩ = some (.slice A (wl n) c) ∧ w.frozen? ⟨g, o, none⟩ = false ∧ w.frozen? ⟨g, o + 1, none⟩ = false ∧ g < w.heap.size := by
  obtain ⟨cs, T, v, hg, _, h0, h1, hw⟩ := h
  obtain ⟨A, c, rfl, _⟩ := hw.form
  exact ⟨A, c, hw, by rw [Lib.cell_of_heap hg]; exact h0, by rw [Lib.cell_of_heap hg]; exact h1, Lib.frozen_of_heap hg o, Lib.frozen_of_heap hg (o + 1), (Array.getElem?_eq_some_iff.1 hg).1⟩
theorem ZAt.below {w w' : World} {g o n : Nat} {neg : Bool} (h : ZAt w g o neg n) (hb : Below w.heap.size w w') : ZAt w' g o neg n := by
  obtain ⟨cs, T, v, hg, hT, h0, h1, hw⟩ := h
  exact ⟨cs, T, v, (hb.block g (Array.getElem?_eq_some_iff.1 hg).1).trans hg, hT, h0, h1, hw.below hb⟩
theorem ZAt.lt {w : World} {g o n : Nat} {neg : Bool} (h : ZAt w g o neg n) : g < w.heap.size := by
  obtain ⟨cs, T, v, hg, _⟩ := h
  exact (Array.getElem?_eq_some_iff.1 hg).1
theorem wl_zero_iff {n : Nat} : wl n = 0 ↔ n = 0 := by
  constructor
  · intro h
    by_cases h0 : n = 0
    · exact h0
    · have := wl_pos h0; omega
  · rintro rfl; exact wl_zero
theorem wl_one {n : Nat} : wl n ≤ 1 ↔ n < 18446744073709551616 := by
  constructor
  · intro h
    have := lt_wl n
    have h2 : 18446744073709551616 ^ wl n ≤ 18446744073709551616 ^ 1 := Nat.pow_le_pow_right (by omega) h
    omega
  · intro h
    exact wl_le (by omega)
set_option maxRecDepth 100000 in
theorem low64_call (n : Nat) (hl : wl n ≤ 1000) (A : Option Addr) (c : Nat) (w : World) (h : IsW w (.slice A (wl n) c) (words n)) : Calls Tryz.prog 70 #[.slice A (wl n) c] w fun e w' => e = .returned (.int .u64 ((n % 18446744073709551616 : Nat) : Int)) ∧ w = w' := by
  by_cases h0 : n = 0
  · subst h0
    rw [wl_zero]
    go_enter Tryz.func70, Tryz.ntmps70
    go_wp2_with fail
    go_ret
    exact ⟨rfl, rfl⟩
  · have h1 := wl_pos h0
    rcases h with ⟨_, hn⟩ | ⟨g, cap, he, hr⟩
    · unfold wl at h1
      rw [hn] at h1
      simp at h1
    · simp only [Value.slice.injEq] at he
      obtain ⟨rfl, _, rfl⟩ := he
      have hx := words_get (n := n) (i := 0) (by omega)
      rw [Nat.pow_zero, Nat.div_one] at hx
      have hcell := hr.cell hx
      have k0 : ((wl n : Int) == 0) = false := by rw [beq_eq_false_iff_ne]; omega
      have k1 : (0 : Int) < wl n := by omega
      generalize n % 18446744073709551616 = x at *
      generalize wl n = k at *
      clear hx
      go_enter Tryz.func70, Tryz.ntmps70
      go_wp2_with fail
      go_ret
      exact ⟨rfl, rfl⟩
set_option maxRecDepth 100000 in
theorem sign_call (g o n : Nat) (neg : Bool) (w : World) (h : ZAt w g o neg n) : Calls Tryz.prog 63 #[.pointer (some ⟨g, o, none⟩)] w fun e w' => e = .returned (.int .i64 (if n = 0 then 0 else if neg then -1 else 1)) ∧ w = w' := by
  obtain ⟨A, c, hw, c0, c1, f0, f1, hl⟩ := h.cells
  by_cases h0 : n = 0
  · subst h0
    rw [wl_zero] at *
    go_enter Tryz.func63, Tryz.ntmps63
    go_wp2_with fail
    go_ret
    exact ⟨rfl, rfl⟩
  · have k0 : ((wl n : Int) == 0) = false := by
      rw [beq_eq_false_iff_ne]
      have := wl_pos h0
      omega
    rw [if_neg h0]
    cases neg
    all_goals
      go_enter Tryz.func63, Tryz.ntmps63
      go_wp2_with fail
      go_ret
      exact ⟨rfl, rfl⟩
set_option maxRecDepth 100000 in
theorem intBitLen_call (g o n : Nat) (neg : Bool) (hl : wl n ≤ 1000) (w : World) (h : ZAt w g o neg n) : Calls Tryz.prog 62 #[.pointer (some ⟨g, o, none⟩)] w fun e w' => e = .returned (.int .i64 (bl n : Nat)) ∧ w = w' := by
  obtain ⟨A, c, hw, c0, c1, f0, f1, _⟩ := h.cells
  have BC := bitLen_call n hl _ w hw
  go_enter Tryz.func62, Tryz.ntmps62
  go_wp2_with (go_at_call 71; refine BC.mono ?_; rintro _ w1 ⟨rfl, rfl⟩)
  go_ret
  exact ⟨rfl, rfl⟩
/-- Int64: the low 64 bits, read with their sign; the other way round below 0. -/
def i64of (neg : Bool) (n : Nat) : Int := if neg then wrap64 (-(wrap64 ((n % 18446744073709551616 : Nat) : Int))) else wrap64 ((n % 18446744073709551616 : Nat) : Int)
set_option maxRecDepth 100000 in
theorem int64_call (g o n : Nat) (neg : Bool) (hl : wl n ≤ 1000) (w : World) (h : ZAt w g o neg n) : Calls Tryz.prog 61 #[.pointer (some ⟨g, o, none⟩)] w fun e w' => e = .returned (.int .i64 (i64of neg n)) ∧ w = w' := by
  obtain ⟨A, c, hw, c0, c1, f0, f1, _⟩ := h.cells
  have LC := low64_call n hl A c w hw
  have hx : n % 18446744073709551616 < 18446744073709551616 := by omega
  unfold i64of
  generalize n % 18446744073709551616 = x at *
  cases neg
  all_goals
    go_enter Tryz.func61, Tryz.ntmps61
    go_wp2_with (go_at_call 70; refine LC.mono ?_; rintro _ w1 ⟨rfl, rfl⟩)
    go_ret
    exact ⟨rfl, rfl⟩
set_option maxRecDepth 100000 in
theorem isUint64_call (g o n : Nat) (neg : Bool) (w : World) (h : ZAt w g o neg n) : Calls Tryz.prog 58 #[.pointer (some ⟨g, o, none⟩)] w fun e w' => e = .returned (.bool (!neg && decide (n < 18446744073709551616))) ∧ w = w' := by
  obtain ⟨A, c, hw, c0, c1, f0, f1, _⟩ := h.cells
  by_cases h1 : n < 18446744073709551616
  · have k : (wl n : Int) ≤ 1 := by have := wl_one.2 h1; omega
    rw [decide_eq_true h1]
    cases neg
    all_goals
      go_enter Tryz.func58, Tryz.ntmps58
      go_wp2_with fail
      go_ret
      exact ⟨rfl, rfl⟩
  · have k : ¬ (wl n : Int) ≤ 1 := by have : ¬ wl n ≤ 1 := fun h => h1 (wl_one.1 h); omega
    have k2 : decide ((wl n : Int) ≤ 1) = false := decide_eq_false k
    rw [decide_eq_false h1]
    cases neg
    all_goals
      go_enter Tryz.func58, Tryz.ntmps58
      go_wp2_with fail
      go_ret
      exact ⟨rfl, rfl⟩
set_option maxRecDepth 100000 in
theorem uint64_call (g o n : Nat) (neg : Bool) (hl : wl n ≤ 1000) (w : World) (h : ZAt w g o neg n) : Calls Tryz.prog 59 #[.pointer (some ⟨g, o, none⟩)] w fun e w' => e = .returned (.int .u64 ((n % 18446744073709551616 : Nat) : Int)) ∧ w = w' := by
  obtain ⟨A, c, hw, c0, c1, f0, f1, _⟩ := h.cells
  have LC := low64_call n hl A c w hw
  go_enter Tryz.func59, Tryz.ntmps59
  go_wp2_with (go_at_call 70; refine LC.mono ?_; rintro _ w1 ⟨rfl, rfl⟩)
  go_ret
  exact ⟨rfl, rfl⟩
/-- Whether it has room in 64 bits with a sign. -/
theorem w64_neg {x : Nat} (h1 : 9223372036854775808 ≤ x) (h2 : x < 18446744073709551616) : wrap64 (x : Int) = (x : Int) - 18446744073709551616 := by unfold wrap64; omega
set_option maxRecDepth 100000 in
set_option maxHeartbeats 1000000 in
theorem isInt64_call (g o n : Nat) (neg : Bool) (hl : wl n ≤ 1000) (w : World) (h : ZAt w g o neg n) : Calls Tryz.prog 60 #[.pointer (some ⟨g, o, none⟩)] w fun e w' => e = .returned (.bool (decide (n < 9223372036854775808) || (neg && decide (n = 9223372036854775808)))) ∧ w = w' := by
  obtain ⟨A, c, hw, c0, c1, f0, f1, _⟩ := h.cells
  have LC := low64_call n hl A c w hw
  by_cases h1 : n < 18446744073709551616
  · have k : (wl n : Int) ≤ 1 := by have := wl_one.2 h1; omega
    rw [Nat.mod_eq_of_lt h1] at LC
    rcases Nat.lt_or_ge n 9223372036854775808 with h2 | h2
    · have e1 : wrap64 (n : Int) = n := by unfold wrap64; omega
      have e2 : (0 : Int) ≤ n := by omega
      rw [decide_eq_true h2]
      clear h1
      go_enter Tryz.func60, Tryz.ntmps60
      go_wp2_with (go_at_call 70; refine LC.mono ?_; rintro _ w1 ⟨rfl, rfl⟩)
      go_ret
      exact ⟨rfl, rfl⟩
    · obtain ⟨m, e1, hm0, hq⟩ : ∃ m : Int, wrap64 (n : Int) = m ∧ m < 0 ∧ (m == wrap64 (-m)) = decide (n = 9223372036854775808) := by
        refine ⟨_, w64_neg h2 h1, by omega, ?_⟩
        rw [Bool.eq_iff_iff]
        simp only [beq_iff_eq, decide_eq_true_eq]
        unfold wrap64
        omega
      rw [decide_eq_false (by omega : ¬ n < 9223372036854775808)]
      have e2 : decide ((0 : Int) ≤ m) = false := decide_eq_false (by omega)
      generalize decide (n = 9223372036854775808) = q at *
      clear h1 h2
      cases neg
      all_goals
        go_enter Tryz.func60, Tryz.ntmps60
        go_wp2_with (go_at_call 70; refine LC.mono ?_; rintro _ w1 ⟨rfl, rfl⟩)
        go_ret
        exact ⟨rfl, rfl⟩
  · have k : ¬ (wl n : Int) ≤ 1 := by have : ¬ wl n ≤ 1 := fun h => h1 (wl_one.1 h); omega
    have k2 : decide ((wl n : Int) ≤ 1) = false := decide_eq_false k
    rw [decide_eq_false (by omega : ¬ n < 9223372036854775808), decide_eq_false (by omega : ¬ n = 9223372036854775808)]
    go_enter Tryz.func60, Tryz.ntmps60
    go_wp2_with fail
    go_ret
    exact ⟨by simp, rfl⟩
end Go.Proofs.YtodipcgilgigbaaGreatDoor.V
