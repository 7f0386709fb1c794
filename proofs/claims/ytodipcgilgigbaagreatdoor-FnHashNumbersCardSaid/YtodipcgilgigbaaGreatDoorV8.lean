/- starlark's Int: made of a big.Int; impl.whole. -/
import Derived.Test.YtodipcgilgigbaaGreatDoorV7
set_option linter.unusedVariables false
namespace Go.Proofs.YtodipcgilgigbaaGreatDoor.V
open Go Go.RowKit Go.Proofs.YtodipcgilgigbaaGreatDoor.I

/-- It has room in 32 bits with a sign. -/
def small (neg : Bool) (n : Nat) : Bool := decide (n < 2147483648) || (neg && decide (n = 2147483648))
theorem bl_lt32 {n : Nat} (h : n < 2147483648) : bl n < 32 := by
  have := bl_le 31 (show n < 2 ^ 31 by omega)
  omega
theorem bl_32 {n : Nat} (h : 2147483648 ≤ n) (h2 : n < 4294967296) : bl n = 32 := by
  have a := bl_le 32 (show n < 2 ^ 32 by omega)
  have h0 : n ≠ 0 := by omega
  have b := (Nat.le_log2 h0).2 (show 2 ^ 31 ≤ n by omega)
  unfold bl at *
  rw [if_neg h0] at *
  omega
theorem bl_gt32 {n : Nat} (h : 4294967296 ≤ n) : 32 < bl n := by
  have h0 : n ≠ 0 := by omega
  have b := (Nat.le_log2 h0).2 (show 2 ^ 32 ≤ n by omega)
  unfold bl
  rw [if_neg h0]
  omega
theorem i64_small {neg : Bool} {n : Nat} (h : n < 9223372036854775808) : i64of neg n = if neg then -(n : Int) else n := by
  unfold i64of
  rw [Nat.mod_eq_of_lt (by omega)]
  have e : wrap64 (n : Int) = n := by unfold wrap64; omega
  rw [e]
  split
  · unfold wrap64; omega
  · rfl
set_option maxRecDepth 100000 in
set_option maxHeartbeats 1000000 in
theorem isSmall_call (g o n : Nat) (neg : Bool) (hl : wl n ≤ 1000) (w : World) (h : ZAt w g o neg n) : Calls Tryz.prog 80 #[.pointer (some ⟨g, o, none⟩)] w fun e w' => e = .returned (.bool (small neg n)) ∧ w = w' := by
  have BC := intBitLen_call g o n neg hl w h
  have IC := int64_call g o n neg hl w h
  have hb2 : bl n ≤ 64 * wl n := by
    by_cases h0 : n = 0
    · subst h0; simp [bl]
    · exact (bl_wl h0).2
  unfold small
  rcases Nat.lt_or_ge n 2147483648 with h1 | h1
  · have k := bl_lt32 h1
    have k2 : (bl n : Int) < 32 := by omega
    rw [decide_eq_true h1]
    generalize bl n = b at *
    go_enter Tryz.func80, Tryz.ntmps80
    go_wp2_with (go_at_call 62; refine BC.mono ?_; rintro _ w1 ⟨rfl, rfl⟩)
    go_ret
    exact ⟨rfl, rfl⟩
  · rw [decide_eq_false (by omega : ¬ n < 2147483648)]
    rcases Nat.lt_or_ge n 4294967296 with h2 | h2
    · have k := bl_32 h1 h2
      rw [k] at BC
      have hq : (i64of neg n == -2147483648) = (neg && decide (n = 2147483648)) := by
        rw [i64_small (by omega)]
        cases neg
        · rw [Bool.eq_iff_iff]; simp; try omega
        · rw [Bool.eq_iff_iff]; simp; try omega
      generalize (neg && decide (n = 2147483648)) = q at *
      generalize i64of neg n = m at *
      clear h1 h2 k hb2
      go_enter Tryz.func80, Tryz.ntmps80
      go_wp2_with (first | (go_at_call 62; refine BC.mono ?_; rintro _ w1 ⟨rfl, rfl⟩) | (go_at_call 61; refine IC.mono ?_; rintro _ w1 ⟨rfl, rfl⟩))
      go_ret
      exact ⟨rfl, rfl⟩
    · have k := bl_gt32 h2
      have k2 : ¬ (bl n : Int) < 32 := by omega
      have k3 : ((bl n : Int) == 32) = false := by rw [beq_eq_false_iff_ne]; omega
      rw [decide_eq_false (by omega : ¬ n = 2147483648)]
      clear h1 h2 k
      generalize bl n = b at *
      go_enter Tryz.func80, Tryz.ntmps80
      go_wp2_with (go_at_call 62; refine BC.mono ?_; rintro _ w1 ⟨rfl, rfl⟩)
      go_ret
      exact ⟨by simp; omega, rfl⟩
set_option maxRecDepth 100000 in
theorem makeSmall_call (i : Int) (w : World) : Calls Tryz.prog 81 #[.int .i64 i] w fun e w' => e = .returned (.agg #[.int .i64 i, .pointer none]) ∧ Below w.heap.size w w' := by
  go_enter Tryz.func81, Tryz.ntmps81
  go_wp2_with fail
  exact bodyPost_ret (v := .agg #[.int .i64 i, .pointer none]) (by simp [results, Tryz.results81, go_sem]) rfl ⟨rfl, (Below.refl _ _).alloc (Nat.le_refl _) _⟩
set_option maxRecDepth 100000 in
theorem makeBig_call (p : Option Addr) (w : World) : Calls Tryz.prog 82 #[.pointer p] w fun e w' => e = .returned (.agg #[.int .i64 0, .pointer p]) ∧ Below w.heap.size w w' := by
  go_enter Tryz.func82, Tryz.ntmps82
  go_wp2_with fail
  exact bodyPost_ret (v := .agg #[.int .i64 0, .pointer p]) (by simp [results, Tryz.results82, go_sem]) rfl ⟨rfl, (Below.refl _ _).alloc (Nat.le_refl _) _⟩
set_option maxRecDepth 100000 in
theorem get_call (i : Int) (p : Option Addr) (w : World) : Calls Tryz.prog 57 #[.agg #[.int .i64 i, .pointer p]] w fun e w' => e = .returned (.tuple #[.int .i64 i, .pointer p]) ∧ Below w.heap.size w w' := by
  go_enter Tryz.func57, Tryz.ntmps57
  go_wp2_with fail
  go_quiet (fail)
  go_wp2_with fail
  go_ret2
  exact ⟨rfl, (bt ((Below.refl _ w).alloc (Nat.le_refl _) _) (drewn_below _ _) (Nat.le_refl _))⟩
/-- The value is starlark's Int of the number z, its big.Int (if any) from block B on. -/
def IsS (w : World) (B : Nat) (v : Value) (z : Int) : Prop :=
  (v = .agg #[.int .i64 z, .pointer none] ∧ small (decide (z < 0)) z.natAbs = true) ∨ ∃ g, v = .agg #[.int .i64 0, .pointer (some ⟨g, 0, none⟩)] ∧ small (decide (z < 0)) z.natAbs = false ∧ ZAt w g 0 (decide (z < 0)) z.natAbs ∧ B ≤ g
theorem IsS.below {w w' : World} {B : Nat} {v : Value} {z : Int} (h : IsS w B v z) (hb : Below w.heap.size w w') : IsS w' B v z := by
  rcases h with h | ⟨g, rfl, hs, hz, hB⟩
  · exact .inl h
  · exact .inr ⟨g, rfl, hs, hz.below hb, hB⟩
/-- The number of a sign and a magnitude. -/
def zn (neg : Bool) (n : Nat) : Int := if neg then -(n : Int) else n
theorem zn_lt {neg : Bool} {n : Nat} (h : neg = true → n ≠ 0) : decide (zn neg n < 0) = neg := by
  unfold zn
  cases neg
  · simp
  · have := h rfl
    simp; omega
theorem zn_abs (neg : Bool) (n : Nat) : (zn neg n).natAbs = n := by unfold zn; cases neg <;> simp
theorem heap_put {w : World} {A : Nat} {cs : Array Value} {T : TypeId} (h : w.heap[A]? = some (.cells cs T (0, 0))) (i : Nat) (u : Value) : (w.setCell ⟨A, i, none⟩ u).heap[A]? = some (.cells (cs.setIfInBounds i u) T (0, 0)) := by
  simp [World.setCell, Array.getElem?_modify, h]
set_option maxRecDepth 100000 in
set_option maxHeartbeats 1000000 in
/-- z.SetBytes(m), z being new. -/
theorem intSetBytes_call (g : Nat) (v : Value) (m : List Int) (hm : Bytes m) (hl : m.length ≤ 1000) (w : World) (h : IsBy w v m) (hcap : ∀ A n c, v = .slice A n c → c ≤ 9223372036854775807) (hg : w.heap[g]? = some (.cells #[.bool false, .slice none 0 0] 147 (0, 0))) : Calls Tryz.prog 66 #[.pointer (some ⟨g, 0, none⟩), v] w fun e w' => e = .returned (.pointer (some ⟨g, 0, none⟩)) ∧ ZAt w' g 0 false (val m) ∧ Off (· = g) w w' := by
  have c0 := (Lib.cell_of_heap hg 0).trans (rfl : _ = some (Value.bool false))
  have c1 := (Lib.cell_of_heap hg 1).trans (rfl : _ = some (Value.slice none 0 0))
  have hgl := (Array.getElem?_eq_some_iff.1 hg).1
  have SC := setBytes_call v m hm hl w h hcap
  go_enter Tryz.func66, Tryz.ntmps66
  go_wp2_with fail
  refine SC.mono ?_
  rintro _ w1 ⟨v1, rfl, hv1, hb1, hf1⟩
  have hg1 := (hb1.block g hgl).trans hg
  have d0 := (Lib.cell_of_heap hg1 0).trans (rfl : _ = some (Value.bool false))
  have d1 := (Lib.cell_of_heap hg1 1).trans (rfl : _ = some (Value.slice none 0 0))
  have z0 := Lib.frozen_of_heap hg1 0
  have z1 := Lib.frozen_of_heap hg1 1
  obtain ⟨A1, k1, rfl, _⟩ := hv1.form
  go_wp2_with fail
  go_ret
  have hT : 147 ≠ 166 := by decide
  have p1 := heap_put hg1 1 (.slice A1 (words (val m)).length k1)
  have p2 := heap_put p1 0 (.bool false)
  refine ⟨rfl, ⟨_, _, _, p2, hT, rfl, rfl, (hv1.setOther hg1 hT 1 _).setOther p1 hT 0 _⟩, ?_⟩
  exact ((Off.of (S := (· = g)) hb1).setCell (p := ⟨g, 1, none⟩) (.inl rfl) _).setCell (p := ⟨g, 0, none⟩) (.inl rfl) _
end Go.Proofs.YtodipcgilgigbaaGreatDoor.V
