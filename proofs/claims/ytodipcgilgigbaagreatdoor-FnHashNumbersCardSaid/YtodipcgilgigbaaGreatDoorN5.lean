/- Bytes, the highest first, as words, the lowest first; the length of a word. Plain: no program in sight. -/
import Derived.Test.YtodipcgilgigbaaGreatDoorN4
import Derived.Test.YtodipcgilgigbaaGreatDoorI5
namespace Go.Proofs.YtodipcgilgigbaaGreatDoor.V
open Go Go.Proofs.YtodipcgilgigbaaGreatDoor.I

theorem val_append (a b : List Int) : val (a ++ b) = val a * 256 ^ b.length + val b := by
  unfold val
  rw [List.foldl_append, val_foldl]
  rfl
theorem wv_push (l : List Int) (d : Int) : wv (l ++ [d]) = wv l + 18446744073709551616 ^ l.length * d.toNat := by
  rw [wv_append]
  simp [wv]
/-- The words of the last 8 k bytes. -/
def low8 (m : List Int) : Nat → List Int
  | 0 => []
  | k + 1 => low8 m k ++ [((val ((m.drop (m.length - 8 * (k + 1))).take 8) : Nat) : Int)]
theorem low8_length (m : List Int) (k : Nat) : (low8 m k).length = k := by
  induction k with
  | zero => rfl
  | succ k ih => simp [low8, ih]
theorem pow256 (k : Nat) : (256 : Nat) ^ (8 * k) = 18446744073709551616 ^ k := by
  rw [Nat.pow_mul]
theorem wv_low8 (m : List Int) (k : Nat) (hk : 8 * k ≤ m.length) : wv (low8 m k) = val (m.drop (m.length - 8 * k)) := by
  induction k with
  | zero => simp [low8, wv, val]
  | succ k ih =>
    rw [low8, wv_push, ih (by omega), low8_length, Int.toNat_natCast]
    have e : m.drop (m.length - 8 * (k + 1)) = (m.drop (m.length - 8 * (k + 1))).take 8 ++ m.drop (m.length - 8 * k) := by
      have h1 : m.drop (m.length - 8 * k) = (m.drop (m.length - 8 * (k + 1))).drop 8 := by
        rw [List.drop_drop]; congr 1; omega
      rw [h1, List.take_append_drop]
    conv => rhs; rw [e]
    rw [val_append, List.length_drop, show m.length - (m.length - 8 * k) = 8 * k by omega, pow256, Nat.add_comm, Nat.mul_comm]
theorem low8_words {m : List Int} (hm : Bytes m) (k : Nat) : Words (low8 m k) := by
  induction k with
  | zero => intro d hd; cases hd
  | succ k ih =>
    intro d hd
    rcases List.mem_append.1 hd with hd | hd
    · exact ih d hd
    · simp only [List.mem_singleton] at hd
      subst hd
      have hb : Bytes ((m.drop (m.length - 8 * (k + 1))).take 8) := fun x hx => hm x (List.mem_of_mem_drop (List.mem_of_mem_take hx))
      have h1 := val_lt _ _ rfl hb
      have h2 : ((m.drop (m.length - 8 * (k + 1))).take 8).length ≤ 8 := by rw [List.length_take]; omega
      have h3 : 256 ^ ((m.drop (m.length - 8 * (k + 1))).take 8).length ≤ 256 ^ 8 := Nat.pow_le_pow_right (by omega) h2
      have h4 : (256 : Nat) ^ 8 = 18446744073709551616 := by decide
      omega
/-- All of the words, before needless noughts are dropped. -/
def raw (m : List Int) : List Int := if m.length % 8 = 0 then low8 m (m.length / 8) else low8 m (m.length / 8) ++ [((val (m.take (m.length % 8)) : Nat) : Int)]
theorem raw_length (m : List Int) : (raw m).length = (m.length + 7) / 8 := by
  unfold raw
  split
  · rw [low8_length]; omega
  · rw [List.length_append, low8_length, List.length_singleton]; omega
theorem wv_raw (m : List Int) : wv (raw m) = val m := by
  unfold raw
  have h0 := wv_low8 m (m.length / 8) (by omega)
  split
  · rw [h0, show m.length - 8 * (m.length / 8) = 0 by omega, List.drop_zero]
  · rw [wv_push, h0, low8_length, Int.toNat_natCast, show m.length - 8 * (m.length / 8) = m.length % 8 by omega]
    conv => rhs; rw [← List.take_append_drop (m.length % 8) m]
    rw [val_append, List.length_drop, show m.length - m.length % 8 = 8 * (m.length / 8) by omega, pow256, Nat.add_comm, Nat.mul_comm]
theorem raw_words {m : List Int} (hm : Bytes m) : Words (raw m) := by
  unfold raw
  split
  · exact low8_words hm _
  · intro d hd
    rcases List.mem_append.1 hd with hd | hd
    · exact low8_words hm _ d hd
    · simp only [List.mem_singleton] at hd
      subst hd
      have hb : Bytes (m.take (m.length % 8)) := fun x hx => hm x (List.mem_of_mem_take hx)
      have h1 := val_lt _ _ rfl hb
      have h2 : (m.take (m.length % 8)).length ≤ 8 := by rw [List.length_take]; omega
      have h3 : 256 ^ (m.take (m.length % 8)).length ≤ 256 ^ 8 := Nat.pow_le_pow_right (by omega) h2
      have h4 : (256 : Nat) ^ 8 = 18446744073709551616 := by decide
      omega
/-- Words without their last noughts. -/
theorem wv_take_zeros {l : List Int} {i : Nat} (h : ∀ d ∈ l.drop i, d = 0) : wv (l.take i) = wv l := by
  conv => rhs; rw [← List.take_append_drop i l]
  rw [wv_append]
  have : wv (l.drop i) = 0 := by
    generalize l.drop i = t at *
    induction t with
    | nil => rfl
    | cons d t ih => rw [wv, h d (by simp), ih fun x hx => h x (by simp [hx])]; rfl
  rw [this]; simp
theorem bl_or (a s : Nat) : bl (a ||| a / 2 ^ s) = bl a := by
  by_cases h : a = 0
  · subst h; simp [bl]
  · have h1 : a ≤ a ||| a / 2 ^ s := Nat.left_le_or
    have h2 : a < 2 ^ (a.log2 + 1) := Nat.lt_log2_self
    have h3 : a / 2 ^ s < 2 ^ (a.log2 + 1) := Nat.lt_of_le_of_lt (Nat.div_le_self _ _) h2
    have h4 := Nat.or_lt_two_pow h2 h3
    have h5 : (a ||| a / 2 ^ s) ≠ 0 := by omega
    have h6 := (Nat.le_log2 h5).2 (Nat.le_trans (Nat.log2_self_le h) h1)
    have h7 := (Nat.log2_lt h5).2 h4
    unfold bl
    rw [if_neg h, if_neg h5]
    omega
end Go.Proofs.YtodipcgilgigbaaGreatDoor.V
