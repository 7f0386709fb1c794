/- nat's bitLen. -/
import Derived.Test.YtodipcgilgigbaaGreatDoorV3
import Derived.Test.YtodipcgilgigbaaGreatDoorSh
import Derived.Test.YtodipcgilgigbaaGreatDoorI6
set_option linter.unusedVariables false
namespace Go.Proofs.YtodipcgilgigbaaGreatDoor.V
open Go Go.RowKit Go.Proofs.YtodipcgilgigbaaGreatDoor.I

theorem ret_int {k : IntKind} {a b : Int} (h : a = b) : Ending.returned (.int k a) = .returned (.int k b) := by rw [h]
theorem bl_half {x : Nat} (h : x ≠ 0) : bl x = 1 + bl (x / 2) := by
  unfold bl
  rw [if_neg h]
  by_cases h1 : x / 2 = 0
  · rw [if_pos h1]
    have hx : x = 1 := by omega
    subst hx
    decide
  · rw [if_neg h1, Nat.log2_def x, if_pos (by omega)]
    omega
theorem bitLen_aux (f : Nat) : ∀ x, x < 2 ^ f → Lib.bitLenAux f x = bl x := by
  induction f with
  | zero =>
    intro x h
    obtain rfl : x = 0 := by simpa using h
    rfl
  | succ f ih =>
    intro x h
    rw [Lib.bitLenAux]
    by_cases h0 : x = 0
    · rw [if_pos h0, h0]; rfl
    · rw [if_neg h0, ih (x / 2) (by rw [Nat.pow_succ] at h; omega), bl_half h0]
theorem bitLen_is {x : Nat} (h : x < 18446744073709551616) : Lib.bitLen x = bl x := bitLen_aux 64 x h
theorem bl_le {x : Nat} (k : Nat) (h : x < 2 ^ k) : bl x ≤ k := by
  unfold bl
  split
  · omega
  · rename_i h0
    have := (Nat.log2_lt h0).2 h
    omega
theorem len_call (x : Nat) (h : x < 18446744073709551616) (w : World) : Calls Tryz.prog 88 #[.int .u64 x] w fun e w' => e = .returned (.int .i64 (bl x : Nat)) ∧ w = w' := by
  refine (Tryz.bits_Len _ _ (by omega) (by omega)).mono ?_
  rintro _ w1 ⟨rfl, rfl⟩
  rw [Int.toNat_natCast, bitLen_is h]
  exact ⟨rfl, rfl⟩
theorem or_step (t s : Nat) (q : Nat) (hs : q = 2 ^ s) (ht : t < 18446744073709551616) : ∃ t' : Nat, t' < 18446744073709551616 ∧ bl t' = bl t ∧ bits .or .u64 (t : Int) ((t : Int) / q) = (t' : Int) := by
  subst hs
  refine ⟨t ||| t / 2 ^ s, Nat.or_lt_two_pow (n := 64) ht (Nat.lt_of_le_of_lt (Nat.div_le_self _ _) ht), bl_or t s, ?_⟩
  have e : ((t : Int) / ((2 ^ s : Nat) : Int)) = ((t / 2 ^ s : Nat) : Int) := by rw [Int.natCast_ediv]
  rw [e]
  exact u64_or_nat t (t / 2 ^ s) ht (Nat.lt_of_le_of_lt (Nat.div_le_self _ _) ht)
set_option maxRecDepth 100000 in
set_option maxHeartbeats 1000000 in
theorem bitLen_call (n : Nat) (hl : wl n ≤ 1000) (v : Value) (w : World) (h : IsW w v (words n)) : Calls Tryz.prog 71 #[v] w fun e w' => e = .returned (.int .i64 (bl n : Nat)) ∧ w = w' := by
  obtain ⟨A, c, rfl, hc⟩ := h.form
  have hwl : (words n).length = wl n := rfl
  rw [hwl] at *
  by_cases h0 : n = 0
  · subst h0
    rw [wl_zero]
    go_enter Tryz.func71, Tryz.ntmps71
    go_wp2_with fail
    go_ret
    exact ⟨rfl, rfl⟩
  · rcases h with ⟨_, hn⟩ | ⟨g, cap, he, hr⟩
    · have := wl_pos h0
      unfold wl at this
      rw [hn] at this
      simp at this
    · simp only [Value.slice.injEq] at he
      obtain ⟨rfl, _, rfl⟩ := he
      have h1 := wl_pos h0
      obtain ⟨k, hk⟩ : ∃ k, wl n = k + 1 := ⟨wl n - 1, by omega⟩
      have hx := words_get (n := n) (i := k) (by omega)
      have hlast : n / 18446744073709551616 ^ k ≠ 0 ∧ n / 18446744073709551616 ^ k < 18446744073709551616 := by have := words_last h0; rwa [hk, Nat.add_sub_cancel] at this
      have hlog : n.log2 = 64 * k + (n / 18446744073709551616 ^ k).log2 := by have := log_words h0; rwa [hk, Nat.add_sub_cancel] at this
      rw [hk]
      rw [Nat.mod_eq_of_lt hlast.2] at hx
      have hcell := hr.cell hx
      generalize n / 18446744073709551616 ^ k = t at *
      have ht : t < 18446744073709551616 := hlast.2
      obtain ⟨t1, l1, b1, e1⟩ := or_step t 1 2 (by decide) ht
      obtain ⟨t2, l2, b2, e2⟩ := or_step t1 2 4 (by decide) l1
      obtain ⟨t3, l3, b3, e3⟩ := or_step t2 4 16 (by decide) l2
      obtain ⟨t4, l4, b4, e4⟩ := or_step t3 8 256 (by decide) l3
      obtain ⟨t5, l5, b5, e5⟩ := or_step t4 16 65536 (by decide) l4
      obtain ⟨t6, l6, b6, e6⟩ := or_step t5 32 4294967296 (by decide) l5
      have e6' : bits .or .u64 (t5 : Int) ((t5 : Int) / 65536 / 65536) = (t6 : Int) := by
        have : (t5 : Int) / 65536 / 65536 = (t5 : Int) / 4294967296 := by omega
        rw [this]; exact e6
      simp only [Int.cast_ofNat_Int] at e1 e2 e3 e4 e5
      clear e6
      have HB := Lib.hid (And.intro b1 (And.intro b2 (And.intro b3 (And.intro b4 (And.intro b5 b6)))))
      clear b1 b2 b3 b4 b5 b6
      have hb6 := bl_le 64 l6
      have HL := Lib.hid (And.intro hlast hlog)
      clear hlast hlog hx
      go_enter Tryz.func71, Tryz.ntmps71
      go_wp2_with (go_at_call 88; refine (len_call t6 l6 _).mono ?_; rintro _ w1 ⟨rfl, rfl⟩)
      go_ret
      refine ⟨?_, rfl⟩
      obtain ⟨b1, b2, b3, b4, b5, b6⟩ := HB.out
      obtain ⟨hlast, hlog⟩ := HL.out
      have e : bl n = k * 64 + bl t6 := by
        rw [b6, b5, b4, b3, b2, b1]
        unfold bl
        rw [if_neg h0, if_neg hlast.1, hlog]
        omega
      rw [e]
      exact ret_int (by omega)
end Go.Proofs.YtodipcgilgigbaaGreatDoor.V
