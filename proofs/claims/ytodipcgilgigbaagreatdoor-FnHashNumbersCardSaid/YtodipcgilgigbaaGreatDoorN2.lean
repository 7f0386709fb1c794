/- Numbers as words, the lowest first: the number that words stand for, a number's own words. Plain: no program in sight. -/
import Derived.RowKit
namespace Go.Proofs.YtodipcgilgigbaaGreatDoor.V
open Go

def Words (l : List Int) : Prop := ∀ d ∈ l, 0 ≤ d ∧ d < 18446744073709551616
/-- The number that words stand for. -/
def wv : List Int → Nat
  | [] => 0
  | d :: l => d.toNat + 18446744073709551616 * wv l
/-- A number's words, none of them a needless nought. -/
def words (n : Nat) : List Int := if h : n = 0 then [] else ((n % 18446744073709551616 : Nat) : Int) :: words (n / 18446744073709551616)
termination_by n
decreasing_by omega
theorem words_zero : words 0 = [] := by rw [words]; rfl
theorem words_pos {n : Nat} (h : n ≠ 0) : words n = ((n % 18446744073709551616 : Nat) : Int) :: words (n / 18446744073709551616) := by rw [words, dif_neg h]
theorem words_words (n : Nat) : Words (words n) := by
  induction n using Nat.strongRecOn with
  | _ n ih =>
    by_cases h : n = 0
    · subst h; rw [words_zero]; intro d hd; cases hd
    · rw [words_pos h]
      intro d hd
      rcases List.mem_cons.1 hd with rfl | hd
      · omega
      · exact ih _ (by omega) d hd
theorem wv_words (n : Nat) : wv (words n) = n := by
  induction n using Nat.strongRecOn with
  | _ n ih =>
    by_cases h : n = 0
    · subst h; rw [words_zero]; rfl
    · rw [words_pos h, wv, ih _ (by omega)]
      omega
theorem wv_lt {l : List Int} (h : Words l) : wv l < 18446744073709551616 ^ l.length := by
  induction l with
  | nil => simp [wv]
  | cons d l ih =>
    have h1 := h d (by simp)
    have h2 := ih fun x hx => h x (by simp [hx])
    rw [wv, List.length_cons, Nat.pow_succ]
    generalize 18446744073709551616 ^ l.length = P at *
    omega
theorem wv_append (a b : List Int) : wv (a ++ b) = wv a + 18446744073709551616 ^ a.length * wv b := by
  induction a with
  | nil => simp [wv]
  | cons d l ih =>
    rw [List.cons_append, wv, wv, ih, List.length_cons, Nat.pow_succ, Nat.mul_add, ← Nat.mul_assoc, Nat.mul_comm 18446744073709551616 (_ ^ _)]
    omega
theorem words_tail {l : List Int} {d : Int} (h : Words (d :: l)) : Words l := fun x hx => h x (by simp [hx])
/-- Words whose last is no nought are the number's own. -/
theorem words_of {l : List Int} (h : Words l) (hl : ∀ d, l.getLast? = some d → d ≠ 0) : words (wv l) = l := by
  induction l with
  | nil => rw [wv, words_zero]
  | cons d l ih =>
    have h1 := h d (by simp)
    have h2 := words_tail h
    by_cases hn : l = []
    · subst hn
      have h3 := hl d (by simp)
      rw [wv, wv, Nat.mul_zero, Nat.add_zero, words_pos (by omega), show d.toNat / 18446744073709551616 = 0 by omega, words_zero]
      congr 1
      omega
    · have h3 := ih h2 fun x hx => hl x (by rw [List.getLast?_cons]; simp [hx])
      have h4 : wv l ≠ 0 := by
        intro h0
        rw [h0, words_zero] at h3
        exact hn h3.symm
      rw [wv, words_pos (by omega), show (d.toNat + 18446744073709551616 * wv l) / 18446744073709551616 = wv l by omega, h3]
      congr 1
      omega
theorem wv_snoc_zero (l : List Int) : wv (l ++ [0]) = wv l := by rw [wv_append]; simp [wv]
/-- How many words a number has. -/
def wl (n : Nat) : Nat := (words n).length
theorem wl_le {n k : Nat} (h : n < 18446744073709551616 ^ k) : wl n ≤ k := by
  unfold wl
  induction k generalizing n with
  | zero =>
    obtain rfl : n = 0 := by simpa using h
    rw [words_zero]; exact Nat.le_refl _
  | succ k ih =>
    by_cases h0 : n = 0
    · subst h0; rw [words_zero]; simp
    · rw [words_pos h0, List.length_cons]
      have := ih (n := n / 18446744073709551616) (by rw [Nat.pow_succ] at h; omega)
      omega
theorem le_wl {n : Nat} (h : n ≠ 0) : 18446744073709551616 ^ (wl n - 1) ≤ n := by
  unfold wl
  induction n using Nat.strongRecOn with
  | _ n ih =>
    rw [words_pos h, List.length_cons, Nat.add_sub_cancel]
    by_cases h0 : n / 18446744073709551616 = 0
    · rw [h0, words_zero]; simp; omega
    · have := ih _ (by omega) h0
      have hp : (words (n / 18446744073709551616)).length ≠ 0 := by rw [words_pos h0]; simp
      obtain ⟨k, hk⟩ := Nat.exists_eq_succ_of_ne_zero hp
      rw [hk, Nat.succ_sub_one] at this
      rw [hk, Nat.pow_succ]
      omega
theorem lt_wl (n : Nat) : n < 18446744073709551616 ^ wl n := by
  have := wv_lt (words_words n)
  rw [wv_words] at this
  exact this
theorem wl_zero : wl 0 = 0 := by unfold wl; rw [words_zero]; rfl
theorem wl_pos {n : Nat} (h : n ≠ 0) : 0 < wl n := by unfold wl; rw [words_pos h]; simp
/-- The i-th word. -/
theorem words_get {n i : Nat} (h : i < wl n) : (words n)[i]? = some (((n / 18446744073709551616 ^ i % 18446744073709551616 : Nat)) : Int) := by
  unfold wl at h
  induction i generalizing n with
  | zero =>
    by_cases h0 : n = 0
    · subst h0; rw [words_zero] at h; simp at h
    · rw [words_pos h0]; simp
  | succ i ih =>
    by_cases h0 : n = 0
    · subst h0; rw [words_zero] at h; simp at h
    · rw [words_pos h0] at h ⊢
      rw [List.getElem?_cons_succ, ih (by simpa using h), Nat.div_div_eq_div_mul, Nat.pow_succ, Nat.mul_comm]
/-- The last word is no nought. -/
theorem words_last {n : Nat} (h : n ≠ 0) : n / 18446744073709551616 ^ (wl n - 1) ≠ 0 ∧ n / 18446744073709551616 ^ (wl n - 1) < 18446744073709551616 := by
  have h1 := le_wl h
  have h2 := lt_wl n
  have h3 := wl_pos h
  obtain ⟨k, hk⟩ := Nat.exists_eq_succ_of_ne_zero (Nat.pos_iff_ne_zero.1 h3)
  rw [hk] at h1 h2 ⊢
  rw [Nat.succ_sub_one] at h1 ⊢
  have hp : 0 < 18446744073709551616 ^ k := Nat.pow_pos (by decide)
  refine ⟨?_, ?_⟩
  · have := (Nat.le_div_iff_mul_le hp).2 (by rw [Nat.one_mul]; exact h1)
    omega
  · rw [Nat.div_lt_iff_lt_mul hp, Nat.mul_comm, ← Nat.pow_succ]; exact h2
theorem pow64 (k : Nat) : 18446744073709551616 ^ k = 2 ^ (64 * k) := by
  rw [Nat.pow_mul]
/-- The number's digits of two: those of its last word, and 64 for each word below. -/
theorem log_words {n : Nat} (h : n ≠ 0) : n.log2 = 64 * (wl n - 1) + (n / 18446744073709551616 ^ (wl n - 1)).log2 := by
  obtain ⟨h1, h2⟩ := words_last h
  rw [pow64] at *
  generalize 64 * (wl n - 1) = k at *
  have hp : 0 < 2 ^ k := Nat.two_pow_pos k
  have a := Nat.log2_self_le h1
  have b := @Nat.lt_log2_self (n / 2 ^ k)
  have c : 2 ^ (k + (n / 2 ^ k).log2) ≤ n := by
    rw [Nat.pow_add, Nat.mul_comm]
    exact (Nat.le_div_iff_mul_le hp).1 a
  have d : n < 2 ^ (k + ((n / 2 ^ k).log2 + 1)) := by
    rw [Nat.pow_add, Nat.mul_comm]
    exact (Nat.div_lt_iff_lt_mul hp).1 b
  have e1 := (Nat.le_log2 h).2 c
  have e2 := (Nat.log2_lt h).2 d
  omega
end Go.Proofs.YtodipcgilgigbaaGreatDoor.V
