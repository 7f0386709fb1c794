/- What spec's functions on whole numbers give: Lsh, frontTens, Text, padded. Plain. -/
import Derived.Test.YtodipcgilgigbaaGreatDoorI6
namespace Go.Proofs.YtodipcgilgigbaaGreatDoor.I
open Go Go.RowKit Go.Proofs.YtodipcgilgigbaaGreatDoorW.PrintWords Go.Proofs.YtodipcgilgigbaaGreatDoorW.PrintMore

theorem ri_nat (n : Nat) : ri (n : Int) = (false, bytes n) := by simp [ri]
theorem len_mul (a b : Nat) : len (a * b) ≤ len a + len b := by
  refine len_le ?_
  rw [Nat.pow_add]
  exact Nat.mul_lt_mul'' (lt_len a) (lt_len b)
theorem len_pow2 (n : Nat) : len (2 ^ n) ≤ n / 8 + 1 := by
  refine len_le ?_
  rw [show (256 : Nat) = 2 ^ 8 from rfl, ← Nat.pow_mul]
  exact Nat.pow_lt_pow_right (by omega) (by omega)
theorem mulN_is (x y k : Nat) (hx : len x ≤ 10000000) (hy : len y ≤ 10000000) (hk : (2 * len y + 6) * len x + 2 * (len x + len y) + 10 ≤ k) : spec_Int_Mul.f k (ri (x : Int)).1 (ri (x : Int)).2 (ri (y : Int)).1 (ri (y : Int)).2 = some (ri ((x * y : Nat) : Int)) := by
  rw [ri_nat, ri_nat]
  rw [mul_is false false x y k hx hy hk]
  exact congrArg some (sg_false _)
theorem lsh_is (x n k : Nat) (hx : len x ≤ 100000) (hn : n ≤ 100000) (hk : (2 * n + 10) * len x + 2 * (len x + n) + 20 ≤ k) : spec_Int_Lsh.f k (ri (x : Int)).1 (ri (x : Int)).2 (n : Int) = some (ri ((x * 2 ^ n : Nat) : Int)) := by
  unfold spec_Int_Lsh.f
  rw [zero_is, Option.bind_some]
  by_cases h : x = 0
  · subst h; rw [if_pos (by rfl), Nat.zero_mul]; rw [ri_nat, bytes_zero]
  · have hp := len_pow2 n
    have hm : (2 * len (2 ^ n) + 6) * len x ≤ (2 * n + 10) * len x := Nat.mul_le_mul_right _ (by omega)
    rw [if_neg (by simp; omega), power_is n k (by omega) (by omega), Option.bind_some, sg_false]
    rw [mulN_is x (2 ^ n) k (by omega) (by omega) (by omega)]
    rfl
theorem len_pow10 (n : Nat) : len (10 ^ n) ≤ n / 2 + 1 := by
  refine len_le ?_
  have h1 : 10 ^ n ≤ 16 ^ n := Nat.pow_le_pow_left (by omega) n
  have h2 : 16 ^ n < 256 ^ (n / 2 + 1) := by
    rw [show (256 : Nat) = 16 ^ 2 from rfl, ← Nat.pow_mul]
    exact Nat.pow_lt_pow_right (by omega) (by omega)
  omega
theorem tens_one (F : Nat) (r : Option (Bool × List Int)) : ∀ (d a k : Nat), a + d ≤ 10000 → 100000 + 100000 * d ≤ k + F → F = 0 → r = some (ri ((10 ^ (a + d) : Nat) : Int)) → spec_frontTens.l1 k (d : Int) (ri ((10 ^ a : Nat) : Int)).1 (ri ((10 ^ a : Nat) : Int)).2 = r := by
  intro d
  induction d with
  | zero =>
    intro a k _ hk hF hr
    obtain ⟨k, rfl⟩ : ∃ m, k = m + 1 := ⟨k - 1, by omega⟩
    simp only [spec_frontTens.l1]
    rw [if_neg (by omega), hr]; rfl
  | succ d ih =>
    intro a k ha hk hF hr
    obtain ⟨k, rfl⟩ : ∃ m, k = m + 1 := ⟨k - 1, by omega⟩
    simp only [spec_frontTens.l1]
    have hl := len_pow10 a
    have h10 : len 10 ≤ 1 := len_le (by decide)
    have e10 : sg (decide ((10 : Int) < 0)) (Int.natAbs 10) = ri ((10 : Nat) : Int) := sg_false 10
    have hm : (2 * len 10 + 6) * len (10 ^ a) ≤ 8 * 5001 := Nat.mul_le_mul (by omega) (by omega)
    rw [if_pos (by omega), small_is 10 k (by omega) (by omega) (by omega), Option.bind_some, e10, mulN_is _ _ _ (by omega) (by omega) (by omega), Option.bind_some]
    have e : wrap64 (((d + 1 : Nat) : Int) - 1) = (d : Int) := by rw [w64 (by omega) (by omega)]; omega
    rw [e, ← Nat.pow_succ]
    exact ih (a + 1) k (by omega) (by omega) hF (by rw [hr, show a + 1 + d = a + (d + 1) by omega])
theorem tens_loop : ∀ (n d a k : Nat), d ≤ n → a + d ≤ 10000 → 200000 + 100000 * d ≤ k → spec_frontTens.l0 k (d : Int) (ri ((10 ^ a : Nat) : Int)).1 (ri ((10 ^ a : Nat) : Int)).2 = some (ri ((10 ^ (a + d) : Nat) : Int)) := by
  intro n
  induction n with
  | zero =>
    intro d a k hd ha hk
    obtain ⟨k, rfl⟩ : ∃ m, k = m + 1 := ⟨k - 1, by omega⟩
    simp only [spec_frontTens.l0]
    rw [if_neg (by omega)]
    exact tens_one 0 _ d a k ha (by omega) rfl rfl
  | succ n ih =>
    intro d a k hd ha hk
    obtain ⟨k, rfl⟩ : ∃ m, k = m + 1 := ⟨k - 1, by omega⟩
    simp only [spec_frontTens.l0]
    by_cases h : d < 15
    · rw [if_neg (by omega)]
      exact tens_one 0 _ d a k ha (by omega) rfl rfl
    · have hl := len_pow10 a
      have h10 : len (10 ^ 15) ≤ 7 := len_le (by decide)
      have e10 : sg (decide ((1000000000000000 : Int) < 0)) (Int.natAbs 1000000000000000) = ri ((10 ^ 15 : Nat) : Int) := sg_false 1000000000000000
      have hm : (2 * len (10 ^ 15) + 6) * len (10 ^ a) ≤ 20 * 5001 := Nat.mul_le_mul (by omega) (by omega)
      rw [if_pos (by omega), small_is 1000000000000000 k (by omega) (by omega) (by omega), Option.bind_some, e10, mulN_is _ _ _ (by omega) (by omega) (by omega), Option.bind_some]
      have e : wrap64 ((d : Int) - 15) = ((d - 15 : Nat) : Int) := by rw [w64 (by omega) (by omega)]; omega
      rw [e, ← Nat.pow_add, ih (d - 15) (a + 15) k (by omega) (by omega) (by omega), show a + 15 + (d - 15) = a + d by omega]
theorem tens_is (n k : Nat) (hn : n ≤ 10000) (hk : 200000 + 100000 * n ≤ k) : spec_frontTens.f k (n : Int) = some (ri ((10 ^ n : Nat) : Int)) := by
  unfold spec_frontTens.f
  have e1 : sg (decide ((1 : Int) < 0)) (Int.natAbs 1) = ri ((10 ^ 0 : Nat) : Int) := sg_false 1
  rw [small_is 1 k (by omega) (by omega) (by omega), Option.bind_some, e1, tens_loop n n 0 k (Nat.le_refl _) (by omega) hk, Nat.zero_add]

/-! ### Decimal text. -/
/-- The decimal digits as characters, the lowest first: none of 0. -/
def decl (n : Nat) : List Int := if _h : n = 0 then [] else ((48 + n % 10 : Nat) : Int) :: decl (n / 10)
termination_by n
decreasing_by omega
theorem decl_zero : decl 0 = [] := by rw [decl]; simp
theorem decl_pos {n : Nat} (h : n ≠ 0) : decl n = ((48 + n % 10 : Nat) : Int) :: decl (n / 10) := by rw [decl]; simp [h]
/-- The decimal text of a number. -/
def decs (n : Nat) : List Int := if n = 0 then [48] else (decl n).reverse
theorem ten_char : ∀ d, d < 10 → bt (⟨#[48, 49, 50, 51, 52, 53, 54, 55, 56, 57, 97, 98, 99, 100, 101, 102, 103, 104, 105, 106, 107, 108, 109, 110, 111, 112, 113, 114, 115, 116, 117, 118, 119, 120, 121, 122]⟩ : ByteArray) ((d : Nat) : Int) = ((48 + d : Nat) : Int) := by decide
theorem base_step (x e : Nat) (h : e < 256) : wrap64 (((x % 10 : Nat) : Int) * 256) = ((x % 10 * 256 : Nat) : Int) ∧ wrap64 (e : Int) = (e : Int) ∧ wrap64 (((x % 10 * 256 : Nat) : Int) + (e : Int)) = ((x % 10 * 256 + e : Nat) : Int)
    ∧ wrap64 (Int.tdiv ((x % 10 * 256 + e : Nat) : Int) 10) = (((x % 10 * 256 + e) / 10 : Nat) : Int) ∧ Int.tmod ((x % 10 * 256 + e : Nat) : Int) 10 = (((x * 256 + e) % 10 : Nat) : Int)
    ∧ (((x % 10 * 256 + e) / 10 : Nat) : Int) % 256 = (((x * 256 + e) / 10 % 256 : Nat) : Int) ∧ (x * 256 + e) / 10 / 256 = x / 10 := by
  have m10 := Nat.mod_lt x (show 0 < 10 by omega)
  refine ⟨?_, w64 (by omega) (by omega), s_add (by omega), ?_, ?_, by omega, by omega⟩
  · rw [w64 (by omega) (by omega)]; omega
  · rw [Int.tdiv_eq_ediv_of_nonneg (by omega), w64 (by omega) (by omega)]; omega
  · rw [Int.tmod_eq_emod_of_nonneg (by omega)]; omega
theorem div_row (M n F : Nat) (out : List Int) (neg : Bool) (l1 : List Int) (r : Option ByteArray) (hM : M ≤ 10000000) (hn : n < 256 ^ M) (ho : out.length ≤ 1000000000)
    (next : ∀ k, F ≤ k → spec_Int_Base.l0 k 10 (out ++ [((48 + n % 10 : Nat) : Int)]) (bytes (n / 10)) neg l1 = r) :
    ∀ (d i k : Nat), i + d = M → d + M + 2 + F ≤ k →
      spec_Int_Base.l1 k 10 out (fix i (n / 256 ^ d / 10) ++ fix d n) ((n / 256 ^ d % 10 : Nat) : Int) (i : Int) neg l1 = r := by
  intro d
  induction d with
  | zero =>
    intro i k hi hk
    obtain ⟨k, rfl⟩ : ∃ m, k = m + 1 := ⟨k - 1, by omega⟩
    obtain rfl : i = M := by omega
    have hm := Nat.mod_lt n (show 0 < 10 by omega)
    simp only [spec_Int_Base.l1, Nat.pow_zero, Nat.div_one]
    have hf : (fix i (n / 10) ++ fix 0 n) = fix i (n / 10) := by simp [fix]
    rw [hf, fix_length, if_neg (by omega), cut_is _ (fix_bytes _ _) (by rw [fix_length]; unfold cap; omega) _ (by rw [fix_length]; omega), Option.bind_some, if_pos (by omega), if_pos (by omega), if_pos (by omega), ten_char _ hm, val_fix,
      Nat.mod_eq_of_lt (Nat.lt_of_le_of_lt (Nat.div_le_self _ _) hn)]
    exact next k (by omega)
  | succ d ih =>
    intro i k hi hk
    obtain ⟨k, rfl⟩ : ∃ m, k = m + 1 := ⟨k - 1, by omega⟩
    have hlen : (fix i (n / 256 ^ (d + 1) / 10) ++ fix (d + 1) n).length = M := by rw [List.length_append, fix_length, fix_length]; exact hi
    have hrd : rd (fix i (n / 256 ^ (d + 1) / 10) ++ fix (d + 1) n) (i : Int) = ((dig n d : Nat) : Int) := by
      rw [rd_nat, fix_cons]
      have := fix_length i (n / 256 ^ (d + 1) / 10)
      simp [List.getD, this, dig]
    have hd := dig_lt n d
    have hy : n / 256 ^ d = n / 256 ^ (d + 1) * 256 + dig n d := by
      unfold dig
      rw [Nat.pow_succ, ← Nat.div_div_eq_div_mul]; omega
    simp only [spec_Int_Base.l1]
    rw [hlen, if_pos (by omega), if_pos (by omega), if_neg (by omega), hrd]
    have IH := ih (i + 1) k (by omega) (by omega)
    rw [hy] at IH
    generalize n / 256 ^ (d + 1) = x at *
    obtain ⟨e1, e2, e3, e4, e5, e6, e7⟩ := base_step x (dig n d) hd
    have hset : (fix i (x / 10) ++ fix (d + 1) n).set i (((x * 256 + dig n d) / 10 % 256 : Nat) : Int) = fix (i + 1) ((x * 256 + dig n d) / 10) ++ fix d n := by
      rw [fix_cons, List.set_append_right _ _ (by rw [fix_length]; omega), fix_length, Nat.sub_self, List.set_cons_zero]
      rw [show fix (i + 1) ((x * 256 + dig n d) / 10) = fix i ((x * 256 + dig n d) / 10 / 256) ++ [(((x * 256 + dig n d) / 10 % 256 : Nat) : Int)] from rfl, List.append_assoc]
      rw [e7]; rfl
    rw [e1, e2, e3, e4, e5, e6, Int.toNat_natCast, hset, s_succ (by omega)]
    exact IH
/-- A list of which the outer i places, from both ends, stand swapped. -/
def swp (l : List Int) (i : Nat) : List Int := (List.range l.length).map fun p => if p < i ∨ l.length ≤ p + i then l.getD (l.length - 1 - p) 0 else l.getD p 0
theorem swp_length (l : List Int) (i : Nat) : (swp l i).length = l.length := by simp [swp]
theorem swp_zero (l : List Int) : swp l 0 = l := by
  refine List.ext_getElem (swp_length l 0) fun q h1 h2 => ?_
  simp only [swp, List.getElem_map, List.getElem_range]
  rw [if_neg (by omega)]
  simp [h2]
theorem swp_all (l : List Int) (i : Nat) (h : l.length ≤ 2 * i + 1) : swp l i = l.reverse := by
  refine List.ext_getElem (by simp [swp_length]) fun q h1 h2 => ?_
  rw [swp_length] at h1
  simp only [swp, List.getElem_map, List.getElem_range, List.getElem_reverse]
  have hq : l.length - 1 - q < l.length := by omega
  split
  · simp [hq]
  · have : q = l.length - 1 - q := by omega
    simp only [← this]; simp [h1]
theorem swp_get (l : List Int) (i p : Nat) (hp : p < l.length) : rd (swp l i) (p : Int) = if p < i ∨ l.length ≤ p + i then l.getD (l.length - 1 - p) 0 else l.getD p 0 := by
  rw [rd_nat]; simp [swp, hp]
theorem swp_step (l : List Int) (i : Nat) (h : 2 * i + 1 < l.length) : ((swp l i).set i (l.getD (l.length - 1 - i) 0)).set (l.length - 1 - i) (l.getD i 0) = swp l (i + 1) := by
  refine List.ext_getElem (by simp [swp_length]) fun q h1 h2 => ?_
  rw [swp_length] at h2
  rw [List.getElem_set, List.getElem_set]
  simp only [swp, List.getElem_map, List.getElem_range]
  by_cases e1 : l.length - 1 - i = q
  · rw [if_pos e1, if_pos (by omega)]; congr 1; omega
  · rw [if_neg e1]
    by_cases e2 : i = q
    · rw [if_pos e2, if_pos (by omega), e2]
    · rw [if_neg e2]
      by_cases e3 : q < i ∨ l.length ≤ q + i
      · rw [if_pos e3, if_pos (by omega)]
      · rw [if_neg e3, if_neg (by omega)]
theorem swap_loop (l : List Int) (hl : l.length ≤ 1000000000) : ∀ (d i k : Nat), l.length ≤ 2 * i + d → d < k → 2 * i ≤ l.length → spec_Int_Base.l2 k (swp l i) (i : Int) ((l.length : Int) - 1 - i) = some (strOfNums l.reverse) := by
  intro d
  induction d using Nat.strongRecOn with
  | _ d ih =>
    intro i k hd hk hi
    obtain ⟨k, rfl⟩ : ∃ m, k = m + 1 := ⟨k - 1, by omega⟩
    simp only [spec_Int_Base.l2, swp_length]
    by_cases h : 2 * i + 1 < l.length
    · have e : (l.length : Int) - 1 - i = ((l.length - 1 - i : Nat) : Int) := by omega
      rw [e, if_pos (by omega), if_pos (by omega), if_pos (by omega), if_pos (by omega), if_pos (by omega), swp_get _ _ _ (by omega), swp_get _ _ _ (by omega), if_neg (by omega), if_neg (by omega)]
      rw [Int.toNat_natCast, Int.toNat_natCast, swp_step l i h, s_succ (by omega), w64 (by omega) (by omega)]
      have e2 : ((l.length - 1 - i : Nat) : Int) - 1 = (l.length : Int) - 1 - ((i + 1 : Nat) : Int) := by omega
      rw [e2]
      exact ih (d - 2) (by omega) (i + 1) k (by omega) (by omega) (by omega)
    · rw [if_neg (by omega), swp_all l i (by omega)]
theorem decl_len (n : Nat) : (decl n).length ≤ n := by
  induction n using Nat.strongRecOn with
  | _ n ih =>
    by_cases h : n = 0
    · subst h; rw [decl_zero]; simp
    · rw [decl_pos h, List.length_cons]
      have := ih (n / 10) (by omega)
      omega
theorem decl_len_le {n j : Nat} (h : n < 10 ^ j) : (decl n).length ≤ j := by
  induction j generalizing n with
  | zero => have : n = 0 := by simpa using h
            subst this; rw [decl_zero]; simp
  | succ j ih =>
    by_cases h0 : n = 0
    · subst h0; rw [decl_zero]; simp
    · rw [decl_pos h0, List.length_cons]
      have := ih (n := n / 10) (by rw [Nat.pow_succ] at h; omega)
      omega
theorem digits_loop (neg : Bool) (l1 : List Int) : ∀ (j n k : Nat) (out : List Int), n < 10 ^ j → len n ≤ 1000000 → out.length + j ≤ 100000000 → (2 * len n + 20) * j + out.length + j + 10 ≤ k → (out ++ decl n ≠ []) →
    spec_Int_Base.l0 k 10 out (bytes n) neg l1 = some (strOfNums (out ++ decl n ++ if neg then [45] else []).reverse) := by
  intro j
  induction j with
  | zero =>
    intro n k out hn hl ho hk hne
    obtain ⟨k, rfl⟩ : ∃ m, k = m + 2 := ⟨k - 2, by omega⟩
    have : n = 0 := by simpa using hn
    subst this
    rw [decl_zero, List.append_nil] at hne ⊢
    rw [show k + 2 = (k + 1) + 1 from rfl]
    simp only [spec_Int_Base.l0, spec_Int_Base.j2, bytes_zero]
    have fin : ∀ l : List Int, l ≠ [] → l.length ≤ 100000001 → l.length < k → spec_Int_Base.l2 k l 0 (wrap64 ((l.length : Int) - 1)) = some (strOfNums l.reverse) := by
      intro l hne h1 h2
      have hpos : 0 < l.length := List.length_pos_iff.2 hne
      have := swap_loop l (by omega) l.length 0 k (by omega) h2 (by omega)
      rw [swp_zero] at this
      rw [w64 (by omega) (by omega)]
      simpa using this
    rw [if_neg (by simp)]
    cases neg
    · rw [if_neg (by simp), fin out hne (by omega) (by omega)]; simp
    · rw [if_pos rfl, if_pos (by omega), fin _ (by simp) (by simp; omega) (by simp; omega)]; simp
  | succ j ih =>
    intro n k out hn hl ho hk hne
    by_cases h0 : n = 0
    · subst h0
      have hp : 0 < 10 ^ j := Nat.pow_pos (by omega)
      rw [Nat.mul_succ] at hk
      exact ih 0 k out hp hl (by omega) (by omega) hne
    · obtain ⟨k, rfl⟩ : ∃ m, k = m + 1 := ⟨k - 1, by omega⟩
      simp only [spec_Int_Base.l0]
      have hbl : (bytes n).length = len n := rfl
      have hpos : 0 < len n := by unfold len; rw [bytes_pos h0]; simp
      rw [hbl, if_pos (by omega)]
      have hlm : len (n / 10) ≤ len n := len_mono (Nat.div_le_self _ _)
      have := div_row (len n) n ((2 * len n + 20) * j + (out.length + 1) + j + 10) out neg l1 (some (strOfNums (out ++ decl n ++ if neg then [45] else []).reverse)) (by omega) (lt_len n) (by omega) (fun k hk => by
        rw [decl_pos h0]
        have hle : (2 * len (n / 10) + 20) * j ≤ (2 * len n + 20) * j := Nat.mul_le_mul_right _ (by omega)
        have := ih (n / 10) k (out ++ [((48 + n % 10 : Nat) : Int)]) (by rw [Nat.pow_succ] at hn; omega) (by omega) (by simp; omega) (by simp; omega) (by simp)
        rw [this]; simp) (len n) 0 k (by omega) (by rw [Nat.mul_succ] at hk; omega)
      rw [Nat.div_eq_of_lt (lt_len n)] at this
      simpa [fix, bytes_eq_fix] using this
theorem text_is (n j k : Nat) (hn : n < 10 ^ j) (hl : len n ≤ 1000000) (hj : j ≤ 100000000) (hk : (2 * len n + 20) * j + j + 20 ≤ k) : spec_Int_Text.f k (ri (n : Int)).1 (ri (n : Int)).2 = some (strOfNums (decs n)) := by
  unfold spec_Int_Text.f spec_Int_Base.f
  rw [zero_is, Option.bind_some]
  by_cases h : n = 0
  · subst h; rw [if_pos (by rfl)]; rfl
  · have hbl : (bytes n).length = len n := rfl
    rw [if_neg (by simp; omega), ri_nat]
    simp only [Option.bind_some, List.nil_append, List.length_nil, hbl]
    rw [if_pos (by omega), digits_loop false (bytes n) j n k [] hn hl (by simp; omega) (by simp; omega) (by rw [decl_pos h]; simp), Option.bind_some]
    simp [decs, h]
theorem pad_is (n : Nat) (hn : n ≤ 1000) : ∀ (d k : Nat) (l : List Int), l.length ≤ 1000000 → n ≤ l.length + d → d < k → spec_padded.l0 k (strOfNums l) (n : Int) = some (strOfNums (List.replicate (n - l.length) 48 ++ l)) := by
  intro d
  induction d with
  | zero =>
    intro k l hl hd hk
    obtain ⟨k, rfl⟩ : ∃ m, k = m + 1 := ⟨k - 1, by omega⟩
    have hsz : (strOfNums l).size = l.length := by simp [strOfNums, ByteArray.size]
    simp only [spec_padded.l0, hsz]
    rw [if_neg (by omega), show n - l.length = 0 by omega]; rfl
  | succ d ih =>
    intro k l hl hd hk
    obtain ⟨k, rfl⟩ : ∃ m, k = m + 1 := ⟨k - 1, by omega⟩
    have hsz : (strOfNums l).size = l.length := by simp [strOfNums, ByteArray.size]
    simp only [spec_padded.l0, hsz]
    by_cases h : l.length < n
    · rw [if_pos (by omega), if_pos (by omega)]
      have e : (⟨#[48]⟩ : ByteArray) ++ strOfNums l = strOfNums (48 :: l) := by
        apply ByteArray.ext
        simp [strOfNums, ByteArray.data_append]
      rw [e, ih k (48 :: l) (by simp; omega) (by simp; omega) (by omega)]
      congr 2
      rw [List.length_cons, show n - l.length = (n - (l.length + 1)) + 1 by omega, List.replicate_succ']
      simp
    · rw [if_neg (by omega), show n - l.length = 0 by omega]; rfl
end Go.Proofs.YtodipcgilgigbaaGreatDoor.I
