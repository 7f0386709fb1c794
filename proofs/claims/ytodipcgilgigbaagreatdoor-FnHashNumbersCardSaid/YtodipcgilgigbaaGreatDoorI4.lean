/- Whole numbers as bytes, the highest first: the number that bytes stand for, the shortest bytes of a number, bytes of a fixed count. Plain. -/
import Derived.Test.YtodipcgilgigbaaGreatDoorD
namespace Go.Proofs.YtodipcgilgigbaaGreatDoor.I
open Go Go.RowKit Go.Proofs.YtodipcgilgigbaaGreatDoorW.PrintWords Go.Proofs.YtodipcgilgigbaaGreatDoorW.PrintMore

/-- All are bytes. -/
def Bytes (l : List Int) : Prop := ∀ d ∈ l, 0 ≤ d ∧ d < 256
/-- The number that bytes stand for. -/
def val (l : List Int) : Nat := l.foldl (fun a d => a * 256 + d.toNat) 0
/-- The shortest bytes of a number: none of 0. -/
def bytes (n : Nat) : List Int := if _h : n = 0 then [] else bytes (n / 256) ++ [((n % 256 : Nat) : Int)]
termination_by n
decreasing_by omega
/-- The n lowest bytes of a number. -/
def fix : Nat → Nat → List Int
  | 0, _ => []
  | n + 1, x => fix n (x / 256) ++ [((x % 256 : Nat) : Int)]

theorem snoc_cases (l : List Int) : l = [] ∨ ∃ l' d, l = l' ++ [d] := by
  rcases List.eq_nil_or_concat l with h | ⟨l', d, h⟩
  · exact Or.inl h
  · exact Or.inr ⟨l', d, by rw [h, List.concat_eq_append]⟩
theorem val_nil : val [] = 0 := rfl
theorem val_snoc (l : List Int) (d : Int) : val (l ++ [d]) = val l * 256 + d.toNat := by simp [val, List.foldl_append]
theorem bytes_zero : bytes 0 = [] := by rw [bytes]; simp
theorem bytes_pos {n : Nat} (h : n ≠ 0) : bytes n = bytes (n / 256) ++ [((n % 256 : Nat) : Int)] := by rw [bytes]; simp [h]
theorem val_bytes (n : Nat) : val (bytes n) = n := by
  induction n using Nat.strongRecOn with
  | _ n ih =>
    by_cases h : n = 0
    · subst h; rw [bytes_zero]; rfl
    · rw [bytes_pos h, val_snoc, ih (n / 256) (by omega)]; omega
theorem Bytes.nil : Bytes [] := fun _ h => by cases h
theorem Bytes.append {a b : List Int} (h : Bytes a) (k : Bytes b) : Bytes (a ++ b) := fun d hd => (List.mem_append.1 hd).elim (h d) (k d)
theorem Bytes.one {d : Int} (h : 0 ≤ d) (k : d < 256) : Bytes [d] := fun e he => by simp at he; subst he; exact ⟨h, k⟩
theorem Bytes.left {a b : List Int} (h : Bytes (a ++ b)) : Bytes a := fun d hd => h d (List.mem_append_left _ hd)
theorem Bytes.right {a b : List Int} (h : Bytes (a ++ b)) : Bytes b := fun d hd => h d (List.mem_append_right _ hd)
theorem bytes_bytes (n : Nat) : Bytes (bytes n) := by
  induction n using Nat.strongRecOn with
  | _ n ih =>
    by_cases h : n = 0
    · subst h; rw [bytes_zero]; exact Bytes.nil
    · rw [bytes_pos h]; exact (ih (n / 256) (by omega)).append (Bytes.one (by omega) (by omega))
theorem fix_bytes : ∀ n x, Bytes (fix n x)
  | 0, _ => Bytes.nil
  | n + 1, x => (fix_bytes n (x / 256)).append (Bytes.one (by omega) (by omega))
theorem fix_length : ∀ n x, (fix n x).length = n
  | 0, _ => rfl
  | n + 1, x => by simp [fix, fix_length n]
theorem val_fix : ∀ n x, val (fix n x) = x % 256 ^ n
  | 0, x => by simp [fix, val_nil, Nat.mod_one]
  | n + 1, x => by
    rw [fix, val_snoc, val_fix n, Int.toNat_natCast, Nat.pow_succ, Nat.mul_comm (256 ^ n) 256, Nat.mod_mul]
    omega
theorem fix_cons : ∀ n x, fix (n + 1) x = ((x / 256 ^ n % 256 : Nat) : Int) :: fix n x
  | 0, x => by simp [fix]
  | n + 1, x => by
    rw [show fix (n + 1 + 1) x = fix (n + 1) (x / 256) ++ [((x % 256 : Nat) : Int)] from rfl, fix_cons n (x / 256)]
    rw [List.cons_append, Nat.div_div_eq_div_mul, Nat.pow_succ, Nat.mul_comm 256]
    rfl
theorem fix_mod (n x : Nat) : fix n (x % 256 ^ n) = fix n x := by
  induction n generalizing x with
  | zero => rfl
  | succ n ih =>
    have e1 : x % 256 ^ (n + 1) / 256 = x / 256 % 256 ^ n := by
      rw [Nat.pow_succ, Nat.mul_comm (256 ^ n) 256, Nat.mod_mul_right_div_self]
    have e2 : x % 256 ^ (n + 1) % 256 = x % 256 := Nat.mod_mod_of_dvd _ ⟨256 ^ n, by rw [Nat.pow_succ, Nat.mul_comm]⟩
    rw [fix, e1, ih, e2]
    rfl
theorem val_zeros (n : Nat) (l : List Int) : val (List.replicate n 0 ++ l) = val l := by
  induction n with
  | zero => simp
  | succ n ih => rw [List.replicate_succ, List.cons_append]; simp only [val, List.foldl_cons] at ih ⊢; simpa using ih
theorem val_head : ∀ (n : Nat) (l : List Int), l.length = n → Bytes l → (∀ d, l.head? = some d → d ≠ 0) → l ≠ [] → val l ≠ 0 := by
  intro n
  induction n with
  | zero => intro l hl _ _ hne; exact absurd (List.length_eq_zero_iff.1 hl) hne
  | succ n ih =>
    intro l hl hb h0 _
    rcases snoc_cases l with rfl | ⟨l', d, rfl⟩
    · simp at hl
    · rw [val_snoc]
      by_cases he : l' = []
      · subst he
        have hd := hb d (by simp)
        have := h0 d rfl
        omega
      · have := ih l' (by simpa using hl) hb.left (fun e h => h0 e (by cases l' with | nil => exact absurd rfl he | cons a r => simpa using h)) he
        omega
/-- Bytes that do not begin with 0 are the shortest of their number. -/
theorem bytes_val : ∀ (n : Nat) (l : List Int), l.length = n → Bytes l → (∀ d, l.head? = some d → d ≠ 0) → bytes (val l) = l := by
  intro n
  induction n with
  | zero => intro l hl _ _; rw [List.length_eq_zero_iff.1 hl, val_nil, bytes_zero]
  | succ n ih =>
    intro l hl hb h0
    have hne : l ≠ [] := by intro h; rw [h] at hl; cases hl
    have hv := val_head (n + 1) l hl hb h0 hne
    rcases snoc_cases l with rfl | ⟨l', d, rfl⟩
    · exact absurd rfl hne
    · rw [bytes_pos hv, val_snoc]
      have hd := hb d (by simp)
      have e1 : (val l' * 256 + d.toNat) / 256 = val l' := by omega
      have e2 : (((val l' * 256 + d.toNat) % 256 : Nat) : Int) = d := by omega
      rw [e1, e2]
      congr 1
      by_cases he : l' = []
      · subst he; exact bytes_zero
      · exact ih l' (by simpa using hl) hb.left (fun e h => h0 e (by cases l' with | nil => exact absurd rfl he | cons a r => simpa using h))
theorem bytes_fix_zero (n : Nat) : fix n 0 = List.replicate n 0 := by
  induction n with
  | zero => rfl
  | succ n ih => rw [fix, Nat.zero_div, ih]; simp [List.replicate_succ']
/-- How many bytes a number has. -/
def len (n : Nat) : Nat := (bytes n).length
theorem len_le {n k : Nat} (h : n < 256 ^ k) : len n ≤ k := by
  induction k generalizing n with
  | zero => have : n = 0 := by simpa using h
            subst this; simp [len, bytes_zero]
  | succ k ih =>
    by_cases h0 : n = 0
    · subst h0; simp [len, bytes_zero]
    · have := ih (n := n / 256) (by rw [Nat.pow_succ] at h; omega)
      unfold len at this ⊢
      rw [bytes_pos h0]; simp; omega
theorem lt_len (n : Nat) : n < 256 ^ len n := by
  induction n using Nat.strongRecOn with
  | _ n ih =>
    by_cases h0 : n = 0
    · subst h0; simp [len, bytes_zero]
    · have := ih (n / 256) (by omega)
      unfold len at this ⊢
      rw [bytes_pos h0, List.length_append, List.length_singleton, Nat.pow_succ]
      omega
theorem val_lt : ∀ (n : Nat) (l : List Int), l.length = n → Bytes l → val l < 256 ^ n := by
  intro n
  induction n with
  | zero => intro l hl _; rw [List.length_eq_zero_iff.1 hl]; simp [val_nil]
  | succ n ih =>
    intro l hl hb
    rcases snoc_cases l with rfl | ⟨l', d, rfl⟩
    · simp at hl
    · rw [val_snoc, Nat.pow_succ]
      have := ih l' (by simpa using hl) hb.left
      have hd := hb d (by simp)
      omega
theorem bytes_eq_fix (n : Nat) : bytes n = fix (len n) n := by
  have h1 : (bytes n).length = len n := rfl
  have key : ∀ (k : Nat) (l : List Int), l.length = k → Bytes l → fix k (val l) = l := by
    intro k
    induction k with
    | zero => intro l hl _; rw [List.length_eq_zero_iff.1 hl]; rfl
    | succ k ih =>
      intro l hl hb
      rcases snoc_cases l with rfl | ⟨l', d, rfl⟩
      · simp at hl
      · have hd := hb d (by simp)
        rw [val_snoc, fix]
        have e1 : (val l' * 256 + d.toNat) / 256 = val l' := by omega
        have e2 : (((val l' * 256 + d.toNat) % 256 : Nat) : Int) = d := by omega
        rw [e1, e2, ih l' (by simpa using hl) hb.left]
  have := key (len n) (bytes n) h1 (bytes_bytes n)
  rw [val_bytes] at this
  exact this.symm
/-- A byte of fixed bytes, by its place. -/
theorem fix_get : ∀ (n x p : Nat), p < n → (fix n x).getD p 0 = ((x / 256 ^ (n - 1 - p) % 256 : Nat) : Int)
  | 0, _, _, h => absurd h (by omega)
  | n + 1, x, 0, _ => by rw [fix_cons]; simp
  | n + 1, x, p + 1, h => by
    rw [fix_cons, List.getD_cons_succ, fix_get n x p (by omega)]
    congr 4
    omega
end Go.Proofs.YtodipcgilgigbaaGreatDoor.I
/- What spec's functions on whole numbers give: cut, digit, order, sum, less. Plain. -/
namespace Go.Proofs.YtodipcgilgigbaaGreatDoor.I
open Go Go.RowKit Go.Proofs.YtodipcgilgigbaaGreatDoorW.PrintWords Go.Proofs.YtodipcgilgigbaaGreatDoorW.PrintMore

theorem w64 {x : Int} (h0 : -9223372036854775808 ≤ x) (h1 : x ≤ 9223372036854775807) : wrap64 x = x := by unfold wrap64; omega
theorem rd_nat (l : List Int) (i : Nat) : rd l (i : Int) = l.getD i 0 := by simp [rd]

/-- A bound on all counts here. -/
def cap : Nat := 1000000000

theorem cut_loop (l : List Int) (hl : Bytes l) (hc : l.length ≤ cap) : ∀ (d i k : Nat), i ≤ l.length → l.length - i = d → d < k → spec_cut.l0 k l (i : Int) = some (bytes (val (l.drop i))) := by
  intro d
  have hcap : l.length ≤ 1000000000 := hc
  induction d with
  | zero =>
    intro i k hi hd hk
    obtain ⟨k, rfl⟩ : ∃ m, k = m + 1 := ⟨k - 1, by omega⟩
    have : i = l.length := by omega
    subst this
    simp only [spec_cut.l0]
    rw [if_neg (by omega)]
    simp only [Option.bind_some, List.length_nil, Int.toNat_natCast, List.drop_length, List.nil_append]
    rw [if_pos (by omega), if_pos (by omega), if_pos (by omega), val_nil, bytes_zero]
  | succ d ih =>
    intro i k hi hd hk
    obtain ⟨k, rfl⟩ : ∃ m, k = m + 1 := ⟨k - 1, by omega⟩
    have hlt : i < l.length := by omega
    have hdrop : l.drop i = l[i] :: l.drop (i + 1) := List.drop_eq_getElem_cons hlt
    simp only [spec_cut.l0]
    rw [if_pos (by omega), if_pos (by omega), rd_nat]
    have hg : l.getD i 0 = l[i] := by simp [hlt]
    rw [hg]
    by_cases h0 : l[i] = 0
    · rw [if_pos h0, w64 (by omega) (by omega)]
      have := ih (i + 1) k (by omega) (by omega) (by omega)
      rw [show ((i : Int) + 1) = ((i + 1 : Nat) : Int) by omega, this, hdrop, h0]
      have := val_zeros 1 (l.drop (i + 1))
      simp at this
      rw [this]
    · rw [if_neg h0]
      simp only [Option.bind_some, List.length_nil, Int.toNat_natCast, List.nil_append]
      rw [if_pos (by omega), if_pos (by simp; omega), bytes_val _ (l.drop i) rfl (fun e he => hl e (List.mem_of_mem_drop he)) (by
        intro e he
        rw [hdrop] at he
        have hh : l[i] = e := by simpa only [List.head?_cons, Option.some.injEq] using he
        rw [← hh]; exact h0)]
theorem cut_is (l : List Int) (hl : Bytes l) (hc : l.length ≤ cap) (k : Nat) (hk : l.length < k) : spec_cut.f k l = some (bytes (val l)) := by
  have := cut_loop l hl hc l.length 0 k (by omega) (by omega) hk
  simpa [spec_cut.f] using this
/-- The i-th byte of a number, counted from the lowest. -/
def dig (n i : Nat) : Nat := n / 256 ^ i % 256
theorem dig_lt (n i : Nat) : dig n i < 256 := Nat.mod_lt _ (by omega)
theorem digit_fix (m x i : Nat) (hm : m ≤ cap) (hx : x < 256 ^ m) : spec_digit.f (fix m x) (i : Int) = some ((dig x i : Nat) : Int) := by
  have hcap : m ≤ 1000000000 := hm
  unfold spec_digit.f
  rw [fix_length]
  by_cases h : m ≤ i
  · rw [if_pos (by omega)]
    have : x / 256 ^ i = 0 := Nat.div_eq_of_lt (Nat.lt_of_lt_of_le hx (Nat.pow_le_pow_right (by omega) h))
    simp [dig, this]
  · have e1 : wrap64 ((m : Int) - 1) = (m : Int) - 1 := w64 (by omega) (by omega)
    have e2 : wrap64 ((m : Int) - 1 - i) = ((m - 1 - i : Nat) : Int) := by rw [w64 (by omega) (by omega)]; omega
    rw [if_neg (by omega), e1, e2, if_pos (by omega), if_pos (by omega), rd_nat, fix_get m x _ (by omega)]
    have e3 : m - 1 - (m - 1 - i) = i := by omega
    rw [e3]
    have := dig_lt x i
    unfold dig at this ⊢
    rw [w64 (by omega) (by omega)]
theorem digit_is (x i : Nat) (hm : len x ≤ cap) : spec_digit.f (bytes x) (i : Int) = some ((dig x i : Nat) : Int) := by
  rw [bytes_eq_fix]; exact digit_fix _ _ _ hm (lt_len x)

/-- -1, 0, 1: a is less than b, equal, greater. -/
def cmpI (a b : Nat) : Int := if a < b then -1 else if a = b then 0 else 1
theorem len_ge {n : Nat} (h : n ≠ 0) : 256 ^ (len n - 1) ≤ n := by
  induction n using Nat.strongRecOn with
  | _ n ih =>
    have e : len n = len (n / 256) + 1 := by unfold len; rw [bytes_pos h]; simp
    rw [e, Nat.add_sub_cancel]
    by_cases h1 : n / 256 = 0
    · rw [h1]; simp [len, bytes_zero]; omega
    · have h2 := ih (n / 256) (by omega) h1
      have h3 : len (n / 256) = (len (n / 256) - 1) + 1 := by
        have : len (n / 256) ≠ 0 := by
          intro h0
          have := lt_len (n / 256)
          rw [h0] at this; omega
        omega
      rw [h3, Nat.pow_succ]
      omega
theorem order_loop (m a b : Nat) (hm : m ≤ cap) : ∀ (d i k : Nat), i ≤ m → m - i = d → d < k → a / 256 ^ d = b / 256 ^ d → spec_order.l0 k (fix m a) (fix m b) (i : Int) = some (cmpI a b) := by
  have hcap : m ≤ 1000000000 := hm
  intro d
  induction d with
  | zero =>
    intro i k hi hd hk he
    obtain ⟨k, rfl⟩ : ∃ n, k = n + 1 := ⟨k - 1, by omega⟩
    simp only [spec_order.l0, fix_length]
    rw [if_neg (by omega)]
    have : a = b := by simpa using he
    simp [cmpI, this]
  | succ d ih =>
    intro i k hi hd hk he
    obtain ⟨k, rfl⟩ : ∃ n, k = n + 1 := ⟨k - 1, by omega⟩
    simp only [spec_order.l0, fix_length]
    rw [if_pos (by omega), if_pos (by omega), if_pos (by omega), rd_nat, rd_nat, fix_get m a i (by omega), fix_get m b i (by omega)]
    have e : m - 1 - i = d := by omega
    rw [e]
    rw [Nat.pow_succ, ← Nat.div_div_eq_div_mul, ← Nat.div_div_eq_div_mul] at he
    have ha : 256 ^ d * (a / 256 ^ d) ≤ a := Nat.mul_div_le _ _
    have hb : 256 ^ d * (b / 256 ^ d) ≤ b := Nat.mul_div_le _ _
    have hp : 0 < 256 ^ d := Nat.pow_pos (by omega)
    by_cases h1 : a / 256 ^ d % 256 = b / 256 ^ d % 256
    · rw [if_pos (by omega), w64 (by omega) (by omega)]
      have := ih (i + 1) k (by omega) (by omega) (by omega) (by omega)
      rw [show ((i : Int) + 1) = ((i + 1 : Nat) : Int) by omega]
      exact this
    · rw [if_neg (by omega)]
      by_cases h2 : a / 256 ^ d % 256 < b / 256 ^ d % 256
      · rw [if_pos (by omega)]
        have h3 : a / 256 ^ d < b / 256 ^ d := by omega
        have : a < b := by
          rcases Nat.lt_or_ge a b with h | h
          · exact h
          · exact absurd (Nat.div_le_div_right (c := 256 ^ d) h) (by omega)
        simp [cmpI, this]
      · rw [if_neg (by omega)]
        have h3 : b / 256 ^ d < a / 256 ^ d := by omega
        have : b < a := by
          rcases Nat.lt_or_ge b a with h | h
          · exact h
          · exact absurd (Nat.div_le_div_right (c := 256 ^ d) h) (by omega)
        simp [cmpI, show ¬ a < b by omega, show ¬ a = b by omega]
theorem order_is (a b k : Nat) (ha : len a ≤ cap) (hk : len a < k) : spec_order.f k (bytes a) (bytes b) = some (cmpI a b) := by
  unfold spec_order.f
  have h1 : (bytes a).length = len a := rfl
  have h2 : (bytes b).length = len b := rfl
  rw [h1, h2]
  by_cases he : len a = len b
  · rw [if_pos (by omega), bytes_eq_fix a, bytes_eq_fix b, ← he]
    refine order_loop (len a) a b ha (len a) 0 k (by omega) (by omega) hk ?_
    rw [Nat.div_eq_of_lt (lt_len a), Nat.div_eq_of_lt (by rw [he]; exact lt_len b)]
  · rw [if_neg (by omega)]
    by_cases hl : len a < len b
    · rw [if_pos (by omega)]
      have hb0 : b ≠ 0 := by intro h; subst h; simp [len, bytes_zero] at hl
      have : a < b := Nat.lt_of_lt_of_le (lt_len a) (Nat.le_trans (Nat.pow_le_pow_right (by omega) (by omega)) (len_ge hb0))
      simp [cmpI, this]
    · rw [if_neg (by omega)]
      have ha0 : a ≠ 0 := by
        intro h; subst h
        have : len 0 = 0 := by simp [len, bytes_zero]
        omega
      have : b < a := Nat.lt_of_lt_of_le (lt_len b) (Nat.le_trans (Nat.pow_le_pow_right (by omega) (by omega)) (len_ge ha0))
      simp [cmpI, show ¬ a < b by omega, show ¬ a = b by omega]

theorem set_zeros (n : Nat) (l : List Int) (v : Int) : (List.replicate (n + 1) 0 ++ l).set n v = List.replicate n 0 ++ v :: l := by
  rw [List.replicate_succ', List.append_assoc, List.singleton_append, List.set_append_right _ _ (by simp)]
  simp
theorem add_div_parts (a b P : Nat) (hP : 0 < P) : (a + b) / P = a / P + b / P + (a % P + b % P) / P := by
  have h1 := Nat.div_add_mod a P
  have h2 := Nat.div_add_mod b P
  have h3 : a + b = (a % P + b % P) + P * (a / P + b / P) := by rw [Nat.mul_add]; omega
  rw [h3, Nat.add_mul_div_left _ _ hP]
  have e1 : (a % P + b % P + P * (a / P + b / P)) = a + b := h3.symm
  omega
theorem mod_mul_parts (a P : Nat) : a % (P * 256) = a % P + P * (a / P % 256) := by rw [Nat.mod_mul]
theorem carry_next (a b P : Nat) (hP : 0 < P) : (a % (P * 256) + b % (P * 256)) / (P * 256) = (a / P % 256 + b / P % 256 + (a % P + b % P) / P) / 256 := by
  rw [mod_mul_parts, mod_mul_parts, ← Nat.div_div_eq_div_mul]
  have : a % P + P * (a / P % 256) + (b % P + P * (b / P % 256)) = (a % P + b % P) + P * (a / P % 256 + b / P % 256) := by rw [Nat.mul_add]; omega
  rw [this, Nat.add_mul_div_left _ _ hP]
  congr 1
  omega
theorem s_add {x y : Nat} (h : x + y ≤ 1000000000000) : wrap64 ((x : Int) + (y : Int)) = ((x + y : Nat) : Int) := by rw [w64 (by omega) (by omega)]; omega
theorem s_mod (x : Nat) : Int.tmod (x : Int) 256 % 256 = ((x % 256 : Nat) : Int) := by rw [Int.tmod_eq_emod_of_nonneg (by omega)]; omega
theorem s_mod1 (x : Nat) : Int.tmod (x : Int) 256 = ((x % 256 : Nat) : Int) := by rw [Int.tmod_eq_emod_of_nonneg (by omega)]; omega
theorem s_div {x : Nat} (h : x ≤ 1000000000000) : wrap64 (Int.tdiv (x : Int) 256) = ((x / 256 : Nat) : Int) := by rw [Int.tdiv_eq_ediv_of_nonneg (by omega), w64 (by omega) (by omega)]; omega
theorem s_mul {x y : Nat} (h : x * y ≤ 1000000000000) : wrap64 ((x : Int) * (y : Int)) = ((x * y : Nat) : Int) := by
  have : ((x : Int) * (y : Int)) = ((x * y : Nat) : Int) := by simp
  rw [this, w64 (by omega) (by omega)]
theorem s_succ {x : Nat} (h : x ≤ 1000000000000) : wrap64 ((x : Int) + 1) = ((x + 1 : Nat) : Int) := by rw [w64 (by omega) (by omega)]; omega
theorem s_pred2 {m i : Nat} (hm : m ≤ 1000000000000) (h : i < m) : wrap64 (wrap64 ((m : Int) - 1) - (i : Int)) = ((m - 1 - i : Nat) : Int) := by
  have e1 : wrap64 ((m : Int) - 1) = (m : Int) - 1 := w64 (by omega) (by omega)
  rw [e1, w64 (by omega) (by omega)]; omega
theorem dig_step (a b P c : Nat) (hP : 0 < P) (hc : (a % P + b % P) / P = c) : (a / P % 256 + b / P % 256 + c) % 256 = (a + b) / P % 256 := by
  rw [add_div_parts a b P hP, hc]
  generalize a / P = x
  generalize b / P = y
  omega
theorem carry_le (a b P : Nat) (hP : 0 < P) : (a % P + b % P) / P ≤ 1 := by
  have h1 := Nat.mod_lt a hP
  have h2 := Nat.mod_lt b hP
  rw [← Nat.lt_succ_iff, Nat.div_lt_iff_lt_mul hP]
  omega
theorem sum_loop (a b m : Nat) (ha : len a ≤ cap) (hb : len b ≤ cap) (hm : m ≤ cap) : ∀ (d i k : Nat), i ≤ m → m - i = d → d + m + 1 < k →
    spec_sum.l0 k (bytes a) (bytes b) (m : Int) (List.replicate d 0 ++ fix i (a + b)) (((a % 256 ^ i + b % 256 ^ i) / 256 ^ i : Nat) : Int) (i : Int) = some (bytes ((a + b) % 256 ^ m)) := by
  have hcap : m ≤ 1000000000 := hm
  intro d
  induction d with
  | zero =>
    intro i k hi hd hk
    obtain ⟨k, rfl⟩ : ∃ n, k = n + 1 := ⟨k - 1, by omega⟩
    obtain rfl : i = m := by omega
    simp only [spec_sum.l0]
    rw [if_neg (by omega), List.replicate_zero, List.nil_append, cut_is _ (fix_bytes _ _) (by rw [fix_length]; exact hm) k (by rw [fix_length]; omega)]
    rw [Option.bind_some, val_fix]
  | succ d ih =>
    intro i k hi hd hk
    obtain ⟨k, rfl⟩ : ∃ n, k = n + 1 := ⟨k - 1, by omega⟩
    have hP : 0 < 256 ^ i := Nat.pow_pos (by omega)
    have hc := carry_le a b (256 ^ i) hP
    have hn := carry_next a b (256 ^ i) hP
    have d1 := dig_lt a i
    have d2 := dig_lt b i
    simp only [spec_sum.l0]
    rw [if_pos (by omega), digit_is a i ha, digit_is b i hb]
    simp only [Option.bind_some]
    have hlen : (List.replicate (d + 1) (0 : Int) ++ fix i (a + b)).length = m := by simp [fix_length]; omega
    have hi' : (i : Int) < (m : Int) := by omega
    have hmi : m - 1 - i = d := by omega
    have e2 : wrap64 (wrap64 ((m : Int) - 1) - (i : Int)) = ((d : Nat) : Int) := by rw [s_pred2 (by omega) (by omega), hmi]
    have g1 : (0 : Int) ≤ ((d : Nat) : Int) := by omega
    have g2 : ((d : Nat) : Int) < ((List.replicate (d + 1) (0 : Int) ++ fix i (a + b)).length : Int) := by rw [hlen]; omega
    have g3 : i ≤ 1000000000000 := by omega
    have IH := fun h1 h2 h3 => ih (i + 1) k h1 h2 h3
    have q1 : i + 1 ≤ m := by omega
    have q2 : m - (i + 1) = d := by omega
    have q3 : d + m + 1 < k := by omega
    generalize hcc : (a % 256 ^ i + b % 256 ^ i) / 256 ^ i = c at hc hn ⊢
    have b1 : dig a i + dig b i ≤ 1000000000000 := by omega
    have b2 : dig a i + dig b i + c ≤ 1000000000000 := by omega
    have e7 : (dig a i + dig b i + c) % 256 = (a + b) / 256 ^ i % 256 := dig_step a b (256 ^ i) c hP hcc
    have e8 : (dig a i + dig b i + c) / 256 = (a % 256 ^ (i + 1) + b % 256 ^ (i + 1)) / 256 ^ (i + 1) := by rw [Nat.pow_succ, hn]; rfl
    rw [e2, s_add b1, s_add b2, s_mod, s_div b2, if_pos g1, if_pos g2, Int.toNat_natCast, set_zeros, e7, ← fix_cons, e8, s_succ g3]
    exact IH q1 q2 q3
theorem len_mono {a b : Nat} (h : a ≤ b) : len a ≤ len b := len_le (Nat.lt_of_le_of_lt h (lt_len b))
theorem sum_is (a b k : Nat) (ha : len a ≤ 100000000) (hb : len b ≤ 100000000) (hk : 2 * (len a + len b + 2) < k) : spec_sum.f k (bytes a) (bytes b) = some (bytes (a + b)) := by
  have h1 : (bytes a).length = len a := rfl
  have h2 : (bytes b).length = len b := rfl
  unfold spec_sum.f
  rw [h1, h2]
  have e1 : mx (len a : Int) (len b : Int) = ((max (len a) (len b) : Nat) : Int) := by unfold mx; omega
  have e2 : wrap64 (((max (len a) (len b) : Nat) : Int) + 1) = ((max (len a) (len b) + 1 : Nat) : Int) := by rw [w64 (by omega) (by omega)]; omega
  rw [e1, e2, if_pos (by omega), if_pos (by omega), Int.toNat_natCast]
  have hlt : a + b < 256 ^ (max (len a) (len b) + 1) := by
    have ha' := Nat.lt_of_lt_of_le (lt_len a) (Nat.pow_le_pow_right (n := 256) (by omega) (Nat.le_max_left (len a) (len b)))
    have hb' := Nat.lt_of_lt_of_le (lt_len b) (Nat.pow_le_pow_right (n := 256) (by omega) (Nat.le_max_right (len a) (len b)))
    rw [Nat.pow_succ]; omega
  have hk' : max (len a) (len b) + 1 + (max (len a) (len b) + 1) + 1 < k := by clear hlt e1 e2 h1 h2; omega
  have := sum_loop a b (max (len a) (len b) + 1) (by unfold cap; omega) (by unfold cap; omega) (by unfold cap; omega) (max (len a) (len b) + 1) 0 k (Nat.zero_le _) (Nat.sub_zero _) hk'
  simp only [fix, List.append_nil, Nat.pow_zero, Nat.mod_one, Nat.add_zero, Nat.zero_div, Nat.mod_eq_of_lt hlt] at this
  exact this
end Go.Proofs.YtodipcgilgigbaaGreatDoor.I
/- What spec's functions on whole numbers give: less, bit. Plain. -/
namespace Go.Proofs.YtodipcgilgigbaaGreatDoor.I
open Go Go.RowKit Go.Proofs.YtodipcgilgigbaaGreatDoorW.PrintWords Go.Proofs.YtodipcgilgigbaaGreatDoorW.PrintMore

/-! ### One is taken away from another: the borrow. -/
/-- 1, where b's low part is greater than a's. -/
def brw (a b P : Nat) : Nat := if a % P < b % P then 1 else 0
theorem brw_le (a b P : Nat) : brw a b P ≤ 1 := by unfold brw; split <;> omega
theorem sub_parts (a b P : Nat) (hP : 0 < P) (h : b ≤ a) : (a - b) / P + b / P + brw a b P = a / P := by
  have ha := Nat.div_add_mod a P
  have hb := Nat.div_add_mod b P
  have hra := Nat.mod_lt a hP
  have hrb := Nat.mod_lt b hP
  unfold brw
  generalize hqa : a / P = qa at *
  generalize hqb : b / P = qb at *
  generalize hsa : a % P = ra at *
  generalize hsb : b % P = rb at *
  split
  · rename_i hlt
    have h1 : qb < qa := by
      rcases Nat.lt_or_ge qb qa with h1 | h1
      · exact h1
      · have := Nat.mul_le_mul_left P h1; omega
    obtain ⟨t, rfl⟩ : ∃ t, qa = qb + 1 + t := ⟨qa - (qb + 1), by omega⟩
    have e : a - b = (ra + P - rb) + P * t := by
      rw [Nat.mul_add, Nat.mul_add] at ha
      omega
    rw [e, Nat.add_mul_div_left _ _ hP, Nat.div_eq_of_lt (by omega)]
    omega
  · have h1 : qb ≤ qa := by
      rcases Nat.lt_or_ge qa qb with h1 | h1
      · have := Nat.mul_le_mul_left P (show qa + 1 ≤ qb from h1); rw [Nat.mul_add] at this; omega
      · exact h1
    obtain ⟨t, rfl⟩ : ∃ t, qa = qb + t := ⟨qa - qb, by omega⟩
    have e : a - b = (ra - rb) + P * t := by
      rw [Nat.mul_add] at ha
      omega
    rw [e, Nat.add_mul_div_left _ _ hP, Nat.div_eq_of_lt (by omega)]
    omega
theorem brw_next (a b P : Nat) (hP : 0 < P) : brw a b (P * 256) = if ((a / P % 256 : Nat) : Int) - ((b / P % 256 : Nat) : Int) - ((brw a b P : Nat) : Int) < 0 then 1 else 0 := by
  have hra := Nat.mod_lt a hP
  have hrb := Nat.mod_lt b hP
  unfold brw
  rw [mod_mul_parts a P, mod_mul_parts b P]
  generalize a / P % 256 = x
  generalize b / P % 256 = y
  generalize a % P = ra at *
  generalize b % P = rb at *
  rcases Nat.lt_trichotomy x y with h | h | h
  · have := Nat.mul_le_mul_left P (show x + 1 ≤ y from h)
    rw [Nat.mul_add] at this
    rw [if_pos (by omega), if_pos (by split <;> omega)]
  · subst h
    by_cases hl : ra < rb
    · rw [if_pos (by omega), if_pos hl, if_pos (by omega)]
    · rw [if_neg (by omega), if_neg hl, if_neg (by omega)]
  · have := Nat.mul_le_mul_left P (show y + 1 ≤ x from h)
    rw [Nat.mul_add] at this
    rw [if_neg (by omega), if_neg (by split <;> omega)]
theorem s_sub2 {x y c : Nat} (hx : x ≤ 1000000) (hy : y ≤ 1000000) (hc : c ≤ 1000000) : wrap64 (wrap64 ((x : Int) - (y : Int)) - (c : Int)) = (x : Int) - (y : Int) - (c : Int) := by
  rw [w64 (x := (x : Int) - (y : Int)) (by omega) (by omega), w64 (by omega) (by omega)]
theorem less_digit (p x y c : Nat) (h : p + y + c = x) : ((x % 256 : Nat) : Int) - ((y % 256 : Nat) : Int) - (c : Int) < 0 → (((x % 256 : Nat) : Int) - ((y % 256 : Nat) : Int) - (c : Int) + 256) % 256 = ((p % 256 : Nat) : Int) := by omega
theorem less_digit' (p x y c : Nat) (h : p + y + c = x) : ¬ ((x % 256 : Nat) : Int) - ((y % 256 : Nat) : Int) - (c : Int) < 0 → (((x % 256 : Nat) : Int) - ((y % 256 : Nat) : Int) - (c : Int)) % 256 = ((p % 256 : Nat) : Int) := by omega
theorem less_loop (a b m : Nat) (hab : b ≤ a) (hm : len a = m) (hb : len b ≤ cap) (hmc : m ≤ cap) : ∀ (d i k : Nat), i ≤ m → m - i = d → d + m + 1 < k →
    spec_less.l0 k (bytes a) (bytes b) (List.replicate d 0 ++ fix i (a - b)) ((brw a b (256 ^ i) : Nat) : Int) (i : Int) = some (bytes (a - b)) := by
  have hcap : m ≤ 1000000000 := hmc
  have h1 : (bytes a).length = m := hm
  intro d
  induction d with
  | zero =>
    intro i k hi hd hk
    obtain ⟨k, rfl⟩ : ∃ n, k = n + 1 := ⟨k - 1, by omega⟩
    obtain rfl : i = m := by omega
    simp only [spec_less.l0, h1]
    rw [if_neg (by omega), List.replicate_zero, List.nil_append, cut_is _ (fix_bytes _ _) (by rw [fix_length]; exact hmc) k (by rw [fix_length]; omega)]
    rw [Option.bind_some, val_fix, Nat.mod_eq_of_lt]
    have := lt_len a
    rw [hm] at this
    exact Nat.lt_of_le_of_lt (Nat.sub_le _ _) this
  | succ d ih =>
    intro i k hi hd hk
    obtain ⟨k, rfl⟩ : ∃ n, k = n + 1 := ⟨k - 1, by omega⟩
    have hP : 0 < 256 ^ i := Nat.pow_pos (by omega)
    have hc := brw_le a b (256 ^ i)
    have hn := brw_next a b (256 ^ i) hP
    have hs := sub_parts a b (256 ^ i) hP hab
    have d1 := dig_lt a i
    have d2 := dig_lt b i
    simp only [spec_less.l0, h1]
    rw [if_pos (by omega), digit_is a i (by rw [hm]; exact hmc), digit_is b i hb]
    simp only [Option.bind_some]
    have hlen : (List.replicate (d + 1) (0 : Int) ++ fix i (a - b)).length = m := by simp [fix_length]; omega
    have hmi : m - 1 - i = d := by omega
    have e2 : wrap64 (wrap64 ((m : Int) - 1) - (i : Int)) = ((d : Nat) : Int) := by rw [s_pred2 (by omega) (by omega), hmi]
    have g1 : (0 : Int) ≤ ((d : Nat) : Int) := by omega
    have g2 : ((d : Nat) : Int) < ((List.replicate (d + 1) (0 : Int) ++ fix i (a - b)).length : Int) := by rw [hlen]; omega
    have g3 : i ≤ 1000000000000 := by omega
    have IH := ih (i + 1) k (by omega) (by omega) (by omega)
    rw [Nat.pow_succ] at IH
    rw [hn] at IH
    generalize brw a b (256 ^ i) = c at hc hs IH ⊢
    rw [e2, s_sub2 (by omega) (by omega) (by omega)]
    have l1 := less_digit _ _ _ _ hs
    have l2 := less_digit' _ _ _ _ hs
    unfold dig
    by_cases hneg : ((a / 256 ^ i % 256 : Nat) : Int) - ((b / 256 ^ i % 256 : Nat) : Int) - (c : Int) < 0
    · rw [if_pos hneg, if_pos g1, if_pos g2, Int.toNat_natCast, set_zeros, w64 (by unfold dig at d1 d2; omega) (by unfold dig at d1 d2; omega), l1 hneg, s_succ g3, ← fix_cons]
      rw [if_pos hneg] at IH
      exact IH
    · rw [if_neg hneg, if_pos g1, if_pos g2, Int.toNat_natCast, set_zeros, l2 hneg, s_succ g3, ← fix_cons]
      rw [if_neg hneg] at IH
      exact IH
theorem less_is (a b k : Nat) (hab : b ≤ a) (ha : len a ≤ 100000000) (hk : 2 * (len a + 2) < k) : spec_less.f k (bytes a) (bytes b) = some (bytes (a - b)) := by
  have h1 : (bytes a).length = len a := rfl
  have hb := len_mono hab
  unfold spec_less.f
  rw [h1, if_pos (by omega), if_pos (by omega), Int.toNat_natCast]
  have := less_loop a b (len a) hab rfl (by unfold cap; omega) (by unfold cap; omega) (len a) 0 k (Nat.zero_le _) (Nat.sub_zero _) (by omega)
  simp only [fix, List.append_nil, Nat.pow_zero, brw, Nat.mod_one] at this
  exact this

/-! ### A bit. -/
theorem s_div8 {i : Nat} (h : i ≤ 1000000000000) : wrap64 (Int.tdiv (i : Int) 8) = ((i / 8 : Nat) : Int) := by rw [Int.tdiv_eq_ediv_of_nonneg (by omega), w64 (by omega) (by omega)]; omega
theorem s_mod8 (i : Nat) : IntKind.u64.wrap (Int.tmod (i : Int) 8) = ((i % 8 : Nat) : Int) := by
  rw [Int.tmod_eq_emod_of_nonneg (by omega)]
  have : IntKind.u64.wrap ((i : Int) % 8) = (i : Int) % 8 % 18446744073709551616 := by simp [IntKind.wrap, IntKind.bits, IntKind.signed]
  rw [this]; omega
theorem s_shr (x s : Nat) (hs : s ≤ 64) : shr .i64 (x : Int) (s : Int) = ((x / 2 ^ s : Nat) : Int) := by
  unfold shr
  rw [Int.toNat_natCast, show IntKind.i64.bits = 64 from rfl, Nat.min_eq_left hs]
  push_cast
  rfl
theorem s_and1 (x : Nat) (h : x < 2 ^ 63) : Go.bits .and .i64 (x : Int) 1 = ((x % 2 : Nat) : Int) := by
  have := bits_mask .i64 63 (by decide) (fun n h0 h1 => by rw [IntKind.wrap_i64]; omega) 1 (by decide) (x : Int) (by omega) (by exact_mod_cast h)
  simp at this
  rw [this]; omega
/-- A bit of a number. -/
def bt2 (n i : Nat) : Nat := n / 2 ^ i % 2
theorem dig_bit (n i : Nat) : dig n (i / 8) / 2 ^ (i % 8) % 2 = n / 2 ^ i % 2 := by
  have h8 : 256 ^ (i / 8) = 2 ^ (8 * (i / 8)) := by rw [Nat.pow_mul]
  have hi : 8 * (i / 8) + i % 8 = i := Nat.div_add_mod i 8
  have h1 : n / 2 ^ i = n / 256 ^ (i / 8) / 2 ^ (i % 8) := by
    rw [h8, Nat.div_div_eq_div_mul, ← Nat.pow_add, hi]
  rw [h1]
  unfold dig
  generalize n / 256 ^ (i / 8) = y
  have hs : i % 8 < 8 := Nat.mod_lt _ (by omega)
  generalize i % 8 = s at hs
  match s, hs with
  | 0, _ => simp
  | 1, _ => simp; omega
  | 2, _ => simp; omega
  | 3, _ => simp; omega
  | 4, _ => simp; omega
  | 5, _ => simp; omega
  | 6, _ => simp; omega
  | 7, _ => simp; omega
theorem bit_is (n i : Nat) (hm : len n ≤ cap) (hi : i ≤ 1000000000000) : spec_bit.f (bytes n) (i : Int) = some ((n / 2 ^ i % 2 : Nat) : Int) := by
  unfold spec_bit.f
  rw [s_div8 hi, s_mod8, digit_is n _ hm, Option.bind_some, if_pos (by omega), s_shr _ _ (by omega)]
  have h := dig_lt n (i / 8)
  have h2 : dig n (i / 8) / 2 ^ (i % 8) ≤ dig n (i / 8) := Nat.div_le_self _ _
  rw [s_and1 _ (by omega), dig_bit]
end Go.Proofs.YtodipcgilgigbaaGreatDoor.I
/- What spec's functions on whole numbers give: split (a quotient and what is left), bit by bit. Plain. -/
namespace Go.Proofs.YtodipcgilgigbaaGreatDoor.I
open Go Go.RowKit Go.Proofs.YtodipcgilgigbaaGreatDoorW.PrintWords Go.Proofs.YtodipcgilgigbaaGreatDoorW.PrintMore

/-! ### One byte of a number is replaced. -/
theorem dig_parts (x P : Nat) : x = x / (P * 256) * (P * 256) + x / P % 256 * P + x % P := by
  have h1 := Nat.div_add_mod x P
  have h2 := Nat.div_add_mod (x / P) 256
  rw [Nat.div_div_eq_div_mul] at h2
  calc x = P * (x / P) + x % P := h1.symm
    _ = P * (256 * (x / (P * 256)) + x / P % 256) + x % P := by rw [h2]
    _ = _ := by rw [Nat.mul_add, ← Nat.mul_assoc, Nat.mul_comm (P * 256), Nat.mul_comm P (x / P % 256)]
/-- A number with one of its bytes replaced. -/
def upd (x p d : Nat) : Nat := x / (256 ^ p * 256) * (256 ^ p * 256) + d * 256 ^ p + x % 256 ^ p
theorem upd_add (x p d : Nat) : upd x p (dig x p + d) = x + d * 256 ^ p := by
  have hP : 0 < 256 ^ p := Nat.pow_pos (by omega)
  have h := dig_parts x (256 ^ p)
  unfold upd dig
  generalize x / (256 ^ p * 256) * (256 ^ p * 256) = H at h ⊢
  generalize x % 256 ^ p = L at h ⊢
  generalize x / 256 ^ p % 256 = D at h ⊢
  rw [Nat.add_mul]
  omega
theorem dig_upd (x p d j : Nat) (hd : d < 256) : dig (upd x p d) j = if j = p then d else dig x j := by
  have hP : 0 < 256 ^ p := Nat.pow_pos (by omega)
  have hlo := Nat.mod_lt x hP
  have hx := dig_parts x (256 ^ p)
  have hdp := Nat.mod_lt (x / 256 ^ p) (show 0 < 256 by omega)
  rcases Nat.lt_trichotomy j p with h | h | h
  · rw [if_neg (by omega)]
    have hT : ∃ T, 256 ^ p = 256 ^ j * 256 * T := ⟨256 ^ (p - j - 1), by rw [← Nat.pow_succ, ← Nat.pow_add]; congr 1; omega⟩
    obtain ⟨T, hT⟩ := hT
    unfold dig upd
    rw [← Nat.mod_mul_right_div_self, ← Nat.mod_mul_right_div_self x]
    congr 1
    conv => rhs; rw [hx]
    generalize x / (256 ^ p * 256) = H
    generalize x % 256 ^ p = L
    generalize x / 256 ^ p % 256 = D
    rw [hT]
    have e1 : ∀ D, H * (256 ^ j * 256 * T * 256) + D * (256 ^ j * 256 * T) + L = L + 256 ^ j * 256 * (H * T * 256 + D * T) := by
      intro D
      rw [Nat.mul_add, Nat.add_comm]
      have a1 : H * (256 ^ j * 256 * T * 256) = 256 ^ j * 256 * (H * T * 256) := by
        ac_rfl
      have a2 : D * (256 ^ j * 256 * T) = 256 ^ j * 256 * (D * T) := by
        ac_rfl
      rw [a1, a2]
    rw [e1, e1, Nat.add_mul_mod_self_left, Nat.add_mul_mod_self_left]
  · subst h
    rw [if_pos rfl]
    unfold dig upd
    generalize x / (256 ^ j * 256) = H
    have e1 : H * (256 ^ j * 256) + d * 256 ^ j + x % 256 ^ j = x % 256 ^ j + 256 ^ j * (H * 256 + d) := by
      rw [Nat.mul_add, ← Nat.mul_assoc, ← Nat.mul_assoc, Nat.mul_comm (256 ^ j) H, Nat.mul_comm (256 ^ j) d]; omega
    rw [e1, Nat.add_mul_div_left _ _ hP, Nat.div_eq_of_lt hlo]
    omega
  · rw [if_neg (by omega)]
    have hT : ∃ T, 256 ^ j = 256 ^ p * 256 * T := ⟨256 ^ (j - p - 1), by rw [← Nat.pow_succ, ← Nat.pow_add]; congr 1; omega⟩
    obtain ⟨T, hT⟩ := hT
    unfold dig
    rw [hT, ← Nat.div_div_eq_div_mul (upd x p d), ← Nat.div_div_eq_div_mul x]
    congr 2
    unfold upd
    have h256 : 0 < 256 ^ p * 256 := by omega
    have hb : d * 256 ^ p + x % 256 ^ p < 256 ^ p * 256 := by
      have := Nat.mul_le_mul_right (256 ^ p) (show d ≤ 255 by omega)
      omega
    rw [Nat.add_assoc, Nat.add_comm, Nat.add_mul_div_right _ _ h256, Nat.div_eq_of_lt hb, Nat.zero_add]
theorem fix_set (n x p d : Nat) (hp : p < n) (hd : d < 256) : (fix n x).set (n - 1 - p) (d : Int) = fix n (upd x p d) := by
  refine List.ext_getElem (by rw [List.length_set, fix_length, fix_length]) fun q h1 h2 => ?_
  rw [List.length_set, fix_length] at h1
  rw [List.getElem_set]
  have key : ∀ y (h : q < (fix n y).length), (fix n y)[q] = ((dig y (n - 1 - q) : Nat) : Int) := by
    intro y h
    have := fix_get n y q h1
    simpa [h, dig] using this
  rw [key (upd x p d) h2, dig_upd _ _ _ _ hd]
  by_cases he : n - 1 - p = q
  · rw [if_pos he, if_pos (by omega)]
  · rw [if_neg he, key, if_neg (by omega)]

/-! ### A bit is set. -/
theorem or_bit : ∀ s, s < 8 → ∀ x, x < 256 → x / 2 ^ s % 2 = 0 → x ||| 2 ^ s = x + 2 ^ s ∧ x + 2 ^ s < 256 := by decide +kernel
theorem s_shl (s : Nat) (hs : s < 8) : shl .u8 1 (s : Int) = ((2 ^ s : Nat) : Int) := by
  unfold shl
  rw [IntKind.wrap_u8, Int.toNat_natCast, show IntKind.u8.bits = 8 from rfl]
  match s, hs with
  | 0, _ => rfl
  | 1, _ => rfl
  | 2, _ => rfl
  | 3, _ => rfl
  | 4, _ => rfl
  | 5, _ => rfl
  | 6, _ => rfl
  | 7, _ => rfl
theorem s_or (x s : Nat) (hx : x < 256) (hs : s < 8) (h0 : x / 2 ^ s % 2 = 0) : Go.bits .or .u8 (x : Int) (shl .u8 1 (s : Int)) = ((x + 2 ^ s : Nat) : Int) := by
  have h := or_bit s hs x hx h0
  rw [s_shl s hs]
  have hp : 2 ^ s < 2 ^ 8 := Nat.pow_lt_pow_right (by omega) hs
  have := (bits_nat .u8 8 (by decide) (fun n h0 h1 => wraps_u8 n h0 (by simpa using h1)) x (2 ^ s) hx hp)
  rw [this.2, h.1]

/-! ### A quotient. -/
theorem cmpI_ge (a b : Nat) : cmpI a b ≥ 0 ↔ b ≤ a := by
  unfold cmpI
  split
  · omega
  · split <;> omega
theorem half_div (a j : Nat) : a / 2 ^ (j + 1) = a / 2 ^ j / 2 := by rw [Nat.pow_succ, Nat.div_div_eq_div_mul]
theorem step_lt (A b t : Nat) (h : 2 * (A % b) + t < b) : (2 * A + t) / b = 2 * (A / b) ∧ (2 * A + t) % b = 2 * (A % b) + t := by
  have h1 := Nat.div_add_mod A b
  have e : 2 * A + t = (2 * (A % b) + t) + b * (2 * (A / b)) := by
    have : b * (2 * (A / b)) = 2 * (b * (A / b)) := by rw [Nat.mul_left_comm]
    omega
  have hb : 0 < b := by omega
  constructor
  · rw [e, Nat.add_mul_div_left _ _ hb, Nat.div_eq_of_lt h, Nat.zero_add]
  · rw [e, Nat.add_mul_mod_self_left, Nat.mod_eq_of_lt h]
theorem step_ge (A b t : Nat) (hb : 0 < b) (ht : t ≤ 1) (h : b ≤ 2 * (A % b) + t) : (2 * A + t) / b = 2 * (A / b) + 1 ∧ (2 * A + t) % b = 2 * (A % b) + t - b := by
  have h1 := Nat.div_add_mod A b
  have h2 := Nat.mod_lt A hb
  have e : 2 * A + t = (2 * (A % b) + t - b) + b * (2 * (A / b) + 1) := by
    have : b * (2 * (A / b) + 1) = 2 * (b * (A / b)) + b := by rw [Nat.mul_add, Nat.mul_one, Nat.mul_left_comm]
    omega
  have hlt : 2 * (A % b) + t - b < b := by omega
  constructor
  · rw [e, Nat.add_mul_div_left _ _ hb, Nat.div_eq_of_lt hlt, Nat.zero_add]
  · rw [e, Nat.add_mul_mod_self_left, Nat.mod_eq_of_lt hlt]
theorem bytes_one : bytes 1 = [1] := by rw [bytes_pos (by omega), show 1 / 256 = 0 from rfl, bytes_zero]; rfl
theorem len_one : len 1 = 1 := by unfold len; rw [bytes_one]; rfl
theorem len_succ_le {a b : Nat} (h : a < 2 * b + 2) : len a ≤ len b + 1 := by
  refine len_le ?_
  have := lt_len b
  rw [Nat.pow_succ]; omega
theorem split_next (a b m : Nat) (hm : len a = m) (hmc : m ≤ 10000000) (hbl : len b ≤ 10000000) (j k L : Nat) (hj : j < 8 * m) (hk : 4 * len b + 40 + m < k)
    (hLlt : L < 2 * b) (hle : L < b → (a / 2 ^ j) / b = 2 * (a / 2 ^ (j + 1) / b) ∧ (a / 2 ^ j) % b = L)
    (hge : b ≤ L → (a / 2 ^ j) / b = 2 * (a / 2 ^ (j + 1) / b) + 1 ∧ (a / 2 ^ j) % b = L - b)
    (ih : spec_split.l0 k (bytes a) (bytes b) (fix m (a / 2 ^ j / b * 2 ^ j)) (bytes (a / 2 ^ j % b)) ((j : Int) - 1) = some (bytes (a / b), bytes (a % b))) :
    spec_split.j1 (k + 1) (bytes a) (bytes b) (fix m (a / 2 ^ (j + 1) / b * 2 ^ (j + 1))) (bytes L) (j : Int) = some (bytes (a / b), bytes (a % b)) := by
  have h1 : (bytes a).length = m := hm
  have hLl : len L ≤ len b + 1 := len_succ_le (by omega)
  simp only [spec_split.j1]
  rw [order_is L b k (by unfold cap; omega) (by omega), Option.bind_some]
  have hw : wrap64 ((j : Int) - 1) = (j : Int) - 1 := w64 (by omega) (by omega)
  have e2 : a / 2 ^ (j + 1) / b * 2 ^ (j + 1) = 2 * (a / 2 ^ (j + 1) / b) * 2 ^ j := by rw [Nat.pow_succ, Nat.mul_comm 2, Nat.mul_assoc, Nat.mul_comm (2 ^ j) 2]
  by_cases hc : b ≤ L
  · rw [if_pos ((cmpI_ge L b).2 hc), less_is L b k hc (by omega) (by omega), Option.bind_some]
    have hp : j / 8 < m := by omega
    have e1 : wrap64 (wrap64 ((m : Int) - 1) - wrap64 (Int.tdiv (j : Int) 8)) = ((m - 1 - j / 8 : Nat) : Int) := by
      rw [s_div8 (by omega), s_pred2 (by omega) hp]
    rw [h1, e1, s_mod8, if_pos (by omega), fix_length, if_pos (by omega), if_pos (by omega), rd_nat, fix_get _ _ _ (by omega)]
    have e3 : m - 1 - (m - 1 - j / 8) = j / 8 := by omega
    rw [e3, Int.toNat_natCast]
    have hx := dig_lt (a / 2 ^ (j + 1) / b * 2 ^ (j + 1)) (j / 8)
    have hb := dig_bit (a / 2 ^ (j + 1) / b * 2 ^ (j + 1)) j
    have hz : a / 2 ^ (j + 1) / b * 2 ^ (j + 1) / 2 ^ j % 2 = 0 := by
      rw [e2, Nat.mul_div_cancel _ (Nat.pow_pos (by omega))]; omega
    rw [hz] at hb
    have hs : j % 8 < 8 := Nat.mod_lt _ (by omega)
    have hor := s_or _ _ hx hs hb
    have hlt := (or_bit _ hs _ hx hb).2
    have hset := fix_set m (a / 2 ^ (j + 1) / b * 2 ^ (j + 1)) (j / 8) (dig (a / 2 ^ (j + 1) / b * 2 ^ (j + 1)) (j / 8) + 2 ^ (j % 8)) hp hlt
    rw [upd_add] at hset
    unfold dig at hor hset
    rw [hor, hset, hw]
    have e4 : 2 ^ (j % 8) * 256 ^ (j / 8) = 2 ^ j := by
      rw [show (256 : Nat) = 2 ^ 8 from rfl, ← Nat.pow_mul, ← Nat.pow_add]; congr 1; omega
    rw [e4]
    have := hge hc
    rw [this.1, this.2, Nat.add_mul, Nat.one_mul, ← e2] at ih
    exact ih
  · rw [if_neg (fun h => hc ((cmpI_ge L b).1 h)), hw]
    have := hle (by omega)
    rw [this.1, this.2, ← e2] at ih
    exact ih
theorem split_loop (a b m : Nat) (hb0 : 0 < b) (hm : len a = m) (hmc : m ≤ 10000000) (hbl : len b ≤ 10000000) : ∀ (j k : Nat), j ≤ 8 * m → 2 * j + (4 * len b + 40 + m) < k →
    spec_split.l0 k (bytes a) (bytes b) (fix m (a / 2 ^ j / b * 2 ^ j)) (bytes (a / 2 ^ j % b)) ((j : Int) - 1) = some (bytes (a / b), bytes (a % b)) := by
  have h1 : (bytes a).length = m := hm
  intro j
  induction j with
  | zero =>
    intro k _ hk
    obtain ⟨k, rfl⟩ : ∃ n, k = n + 1 := ⟨k - 1, by omega⟩
    simp only [spec_split.l0]
    rw [if_neg (by omega), cut_is _ (fix_bytes _ _) (by rw [fix_length]; unfold cap; omega) k (by rw [fix_length]; omega), Option.bind_some, val_fix]
    simp only [Nat.pow_zero, Nat.div_one, Nat.mul_one]
    have := lt_len a
    rw [hm] at this
    rw [Nat.mod_eq_of_lt (Nat.lt_of_le_of_lt (Nat.div_le_self _ _) this)]
  | succ j ih =>
    intro k hj hk
    obtain ⟨k, rfl⟩ : ∃ n, k = n + 2 := ⟨k - 2, by omega⟩
    have hw : ((j + 1 : Nat) : Int) - 1 = (j : Int) := by omega
    have hAlt := Nat.mod_lt (a / 2 ^ (j + 1)) hb0
    have hA : a / 2 ^ j = 2 * (a / 2 ^ (j + 1)) + a / 2 ^ j % 2 := by rw [half_div]; omega
    have hl : len (a / 2 ^ (j + 1) % b) ≤ len b := len_mono (by omega)
    have hl2 : len (a / 2 ^ (j + 1) % b + a / 2 ^ (j + 1) % b) ≤ len b + 1 := len_succ_le (by omega)
    have IH := ih k (by omega) (by omega)
    rw [hw]
    rw [show k + 2 = (k + 1) + 1 from rfl]
    simp only [spec_split.l0]
    rw [if_pos (by omega), sum_is _ _ _ (by omega) (by omega) (by omega), Option.bind_some, bit_is a j (by unfold cap; omega) (by omega), Option.bind_some]
    have htt : a / 2 ^ j % 2 = 0 ∨ a / 2 ^ j % 2 = 1 := by omega
    have hlt := step_lt (a / 2 ^ (j + 1)) b (a / 2 ^ j % 2)
    have hge := step_ge (a / 2 ^ (j + 1)) b (a / 2 ^ j % 2) hb0 (by omega)
    rw [← hA] at hlt hge
    rcases htt with ht | ht
    · rw [ht] at hlt hge ⊢
      rw [if_neg (by omega)]
      refine split_next a b m hm hmc hbl j k _ (by omega) (by omega) (by omega) (fun h => ?_) (fun h => ?_) IH
      · have := hlt (by omega); exact ⟨this.1, by rw [this.2]; omega⟩
      · have := hge (by omega); exact ⟨this.1, by rw [this.2]; omega⟩
    · rw [ht] at hlt hge ⊢
      rw [if_pos (by omega), ← bytes_one, sum_is _ _ _ (by omega) (by rw [len_one]; omega) (by rw [len_one]; omega), Option.bind_some]
      refine split_next a b m hm hmc hbl j k _ (by omega) (by omega) (by omega) (fun h => ?_) (fun h => ?_) IH
      · have := hlt (by omega); exact ⟨this.1, by rw [this.2]; omega⟩
      · have := hge (by omega); exact ⟨this.1, by rw [this.2]; omega⟩
theorem split_is (a b k : Nat) (hb0 : 0 < b) (ha : len a ≤ 10000000) (hb : len b ≤ 10000000) (hk : 17 * len a + (4 * len b + 40) < k) : spec_split.f k (bytes a) (bytes b) = some (bytes (a / b), bytes (a % b)) := by
  have h1 : (bytes a).length = len a := rfl
  unfold spec_split.f
  have e1 : wrap64 (8 * (len a : Int)) = ((8 * len a : Nat) : Int) := by rw [w64 (by omega) (by omega)]; omega
  rw [h1, if_pos (by omega), if_pos (by omega), Int.toNat_natCast, e1, w64 (x := ((8 * len a : Nat) : Int) - 1) (by omega) (by omega)]
  have hz : a / 2 ^ (8 * len a) = 0 := by
    rw [Nat.pow_mul]; exact Nat.div_eq_of_lt (lt_len a)
  have := split_loop a b (len a) hb0 rfl ha hb (8 * len a) k (Nat.le_refl _) (by omega)
  rw [hz, Nat.zero_div, Nat.zero_mul, bytes_fix_zero, Nat.zero_mod, bytes_zero] at this
  exact this
end Go.Proofs.YtodipcgilgigbaaGreatDoor.I
