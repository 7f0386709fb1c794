/- What spec's functions on whole numbers give: Of, Small, Power, Mul, Lsh. Plain. -/
import Derived.Test.YtodipcgilgigbaaGreatDoorI4
namespace Go.Proofs.YtodipcgilgigbaaGreatDoor.I
open Go Go.RowKit Go.Proofs.YtodipcgilgigbaaGreatDoorW.PrintWords Go.Proofs.YtodipcgilgigbaaGreatDoorW.PrintMore

/-! ### A sign and a magnitude. -/
/-- A number of a sign and a magnitude, as spec's Int has it. -/
def sg (neg : Bool) (n : Nat) : Bool × List Int := (neg && decide (n ≠ 0), bytes n)
theorem of_is (neg : Bool) (l : List Int) (hl : Bytes l) (hc : l.length ≤ cap) (k : Nat) (hk : l.length < k) : spec_Of.f k neg l = some (sg neg (val l)) := by
  unfold spec_Of.f
  rw [cut_is l hl hc k hk, Option.bind_some]
  have h0 : (0 < (bytes (val l)).length) ↔ val l ≠ 0 := by
    constructor
    · intro h h0; rw [h0, bytes_zero] at h; simp at h
    · intro h; rw [bytes_pos h]; simp
  cases neg
  · rw [if_neg (by simp)]; simp [sg]
  · rw [if_pos rfl]; simp [sg, h0]
theorem of_bytes (neg : Bool) (n k : Nat) (hc : len n ≤ cap) (hk : len n < k) : spec_Of.f k neg (bytes n) = some (sg neg n) := by
  rw [of_is neg (bytes n) (bytes_bytes n) hc k hk, val_bytes]
theorem of_fix (neg : Bool) (m n k : Nat) (hc : m ≤ cap) (hk : m < k) : spec_Of.f k neg (fix m n) = some (sg neg (n % 256 ^ m)) := by
  rw [of_is neg (fix m n) (fix_bytes m n) (by rw [fix_length]; exact hc) k (by rw [fix_length]; exact hk), val_fix]

/-! ### Bytes, the lowest first. -/
def lit (n x : Nat) : List Int := (List.range n).map fun j => ((dig x j : Nat) : Int)
theorem lit_length (n x : Nat) : (lit n x).length = n := by simp [lit]
theorem lit_get (n x p : Nat) (h : p < n) : rd (lit n x) (p : Int) = ((dig x p : Nat) : Int) := by
  rw [rd_nat]; simp [lit, h]
theorem lit_set (n x p d : Nat) (hd : d < 256) : (lit n x).set p (d : Int) = lit n (upd x p d) := by
  refine List.ext_getElem (by simp [lit_length]) fun q h1 h2 => ?_
  rw [List.getElem_set]
  simp only [lit, List.getElem_map, List.getElem_range]
  rw [dig_upd _ _ _ _ hd]
  by_cases h : p = q
  · rw [if_pos h, if_pos h.symm]
  · rw [if_neg h, if_neg (fun e => h e.symm)]
theorem lit_zero (n : Nat) : lit n 0 = List.replicate n 0 := by
  refine List.ext_getElem (by simp [lit_length]) fun q h1 h2 => ?_
  simp [lit, dig]
theorem dig_big {x j m : Nat} (hx : x < 256 ^ m) (h : m ≤ j) : dig x j = 0 := by
  have : x / 256 ^ j = 0 := Nat.div_eq_of_lt (Nat.lt_of_lt_of_le hx (Nat.pow_le_pow_right (by omega) h))
  simp [dig, this]

/-! ### A product. -/
theorem row_bound (A B D P y Q : Nat) (hA : A < P) (hD : D < 256) (hy : y < Q) (hB : B ≤ y) : A * y + D * B * P < P * 256 * Q := by
  have h1 : D * B * P ≤ 255 * y * P := Nat.mul_le_mul_right P (Nat.mul_le_mul (by omega) hB)
  have h2 : A * y ≤ (P - 1) * y := Nat.mul_le_mul_right y (by omega)
  have h3 : P * 256 * y < P * 256 * Q := Nat.mul_lt_mul_of_pos_left hy (by omega)
  have h4 : P * 256 * y = P * y + 255 * y * P := by
    have : 255 * y * P = 255 * (P * y) := by ac_rfl
    have e : P * 256 * y = 256 * (P * y) := by ac_rfl
    omega
  have h5 : (P - 1) * y ≤ P * y := Nat.mul_le_mul_right y (by omega)
  omega
theorem row_next (v c p s D X Y : Nat) (hs : s = dig v p + X * Y + c) (h : v + c * 256 ^ p = D) : upd v p (s % 256) + s / 256 * 256 ^ (p + 1) = D + X * Y * 256 ^ p := by
  have hv := dig_parts v (256 ^ p)
  unfold upd
  unfold dig at hs
  rw [Nat.pow_succ]
  generalize 256 ^ p = P at *
  generalize v / (P * 256) * (P * 256) = H at *
  generalize v / P % 256 = d at *
  generalize v % P = L at *
  have e1 : s / 256 * (P * 256) + s % 256 * P = s * P := by
    have e2 := Nat.div_add_mod s 256
    have e3 : s * P = (256 * (s / 256) + s % 256) * P := by rw [e2]
    rw [e3, Nat.add_mul]
    have : s / 256 * (P * 256) = 256 * (s / 256) * P := by ac_rfl
    omega
  have e4 : s * P = d * P + X * Y * P + c * P := by rw [hs, Nat.add_mul, Nat.add_mul]
  omega
theorem mul_j2 (x y n v c i kk k : Nat) (n1 n2 : Bool) (hx : len x ≤ 10000000) (hy : len y ≤ 10000000) (hn : n = len x + len y) (hkk : i + kk < n + 1) (hc : c ≤ 255) :
    spec_Int_Mul.j2 (k + 1) (n : Int) (lit (n + 1) v) (i : Int) (c : Int) (kk : Int) true n1 (bytes x) n2 (bytes y)
      = spec_Int_Mul.l1 k (n : Int) (lit (n + 1) (upd v (i + kk) ((dig v (i + kk) + dig x i * dig y kk + c) % 256))) (i : Int) (((dig v (i + kk) + dig x i * dig y kk + c) / 256 : Nat) : Int) ((kk + 1 : Nat) : Int) n1 (bytes x) n2 (bytes y) := by
  have d1 := dig_lt v (i + kk)
  have d2 := dig_lt x i
  have d3 := dig_lt y kk
  have d4 : dig x i * dig y kk ≤ 255 * 255 := Nat.mul_le_mul (by omega) (by omega)
  simp only [spec_Int_Mul.j2, if_true]
  rw [s_add (x := i) (y := kk) (by omega), if_pos (by omega), lit_length, if_pos (by omega), digit_is x i (by unfold cap; omega), digit_is y kk (by unfold cap; omega)]
  simp only [Option.bind_some]
  rw [lit_get _ _ _ hkk, s_mul (by omega), s_add (by omega), s_add (by omega), s_mod1, s_div (by omega), Int.toNat_natCast, lit_set _ _ _ _ (Nat.mod_lt _ (by omega)), s_succ (by omega)]
theorem row_loop (x y n i F : Nat) (n1 n2 : Bool) (r : Option (Bool × List Int)) (hx : len x ≤ 10000000) (hy : len y ≤ 10000000) (hn : n = len x + len y) (hi : i < len x)
    (next : ∀ k, F ≤ k → spec_Int_Mul.l0 k (n : Int) (lit (n + 1) (x % 256 ^ (i + 1) * y)) ((i + 1 : Nat) : Int) n1 (bytes x) n2 (bytes y) = r) :
    ∀ (d kk k v c : Nat), kk + d = len y + 1 → c ≤ 255 → v + c * 256 ^ (i + kk) = x % 256 ^ i * y + dig x i * (y % 256 ^ kk) * 256 ^ i → 2 * d + 2 + F ≤ k →
      spec_Int_Mul.l1 k (n : Int) (lit (n + 1) v) (i : Int) (c : Int) (kk : Int) n1 (bytes x) n2 (bytes y) = r := by
  have hly : (bytes y).length = len y := rfl
  have hylt := lt_len y
  intro d
  induction d with
  | zero =>
    intro kk k v c hkd hc hinv hk
    obtain ⟨k, rfl⟩ : ∃ m, k = m + 2 := ⟨k - 2, by omega⟩
    have hc0 : c = 0 := by
      have hb := row_bound (x % 256 ^ i) (y % 256 ^ kk) (dig x i) (256 ^ i) y (256 ^ len y) (Nat.mod_lt _ (Nat.pow_pos (by omega))) (dig_lt _ _) hylt (Nat.mod_le _ _)
      rcases Nat.eq_zero_or_pos c with h | h
      · exact h
      · have h1 : 256 ^ (i + kk) ≤ c * 256 ^ (i + kk) := Nat.le_mul_of_pos_left _ h
        have h2 : 256 ^ (i + kk) = 256 ^ i * 256 * 256 ^ len y := by rw [show i + kk = i + 1 + len y by omega, Nat.pow_add, Nat.pow_succ]
        rw [← h2] at hb
        omega
    subst hc0
    simp only [spec_Int_Mul.l1, spec_Int_Mul.j2, hly]
    rw [if_neg (by omega), if_neg (by simp), s_succ (by omega)]
    have : v = x % 256 ^ (i + 1) * y := by
      rw [Nat.mod_eq_of_lt (Nat.lt_of_lt_of_le hylt (Nat.pow_le_pow_right (by omega) (show len y ≤ kk by omega)))] at hinv
      rw [Nat.pow_succ, mod_mul_parts, Nat.add_mul]
      unfold dig at hinv
      have e : x / 256 ^ i % 256 * y * 256 ^ i = 256 ^ i * (x / 256 ^ i % 256) * y := by ac_rfl
      omega
    rw [this]
    exact next k (by omega)
  | succ d ih =>
    intro kk k v c hkd hc hinv hk
    obtain ⟨k, rfl⟩ : ∃ m, k = m + 2 := ⟨k - 2, by omega⟩
    have d1 := dig_lt v (i + kk)
    have d2 := dig_lt x i
    have d3 := dig_lt y kk
    have d4 : dig x i * dig y kk ≤ 255 * 255 := Nat.mul_le_mul (by omega) (by omega)
    have hstep := row_next v c (i + kk) _ _ (dig x i) (dig y kk) rfl hinv
    have hinv' : x % 256 ^ i * y + dig x i * (y % 256 ^ kk) * 256 ^ i + dig x i * dig y kk * 256 ^ (i + kk) = x % 256 ^ i * y + dig x i * (y % 256 ^ (kk + 1)) * 256 ^ i := by
      rw [Nat.pow_succ 256 kk, mod_mul_parts, Nat.pow_add]
      unfold dig
      rw [Nat.mul_add, Nat.add_mul]
      have e : x / 256 ^ i % 256 * (y / 256 ^ kk % 256) * (256 ^ i * 256 ^ kk) = x / 256 ^ i % 256 * (256 ^ kk * (y / 256 ^ kk % 256)) * 256 ^ i := by ac_rfl
      omega
    have hT := ih (kk + 1) k _ _ (by omega) (by omega) (hstep.trans hinv') (by omega)
    have hj := mul_j2 x y n v c i kk k n1 n2 hx hy hn (by omega) hc
    by_cases h1 : kk < len y
    · rw [show k + 2 = (k + 1) + 1 from rfl]
      simp only [spec_Int_Mul.l1, hly]
      rw [if_pos (by omega), hj]
      exact hT
    · by_cases h2 : 0 < c
      · rw [show k + 2 = (k + 1) + 1 from rfl]
        simp only [spec_Int_Mul.l1, hly]
        rw [if_neg (by omega), decide_eq_true (show (c : Int) > 0 by omega), hj]
        exact hT
      · obtain rfl : c = 0 := by omega
        simp only [spec_Int_Mul.l1, spec_Int_Mul.j2, hly]
        rw [if_neg (by omega), if_neg (by simp), s_succ (by omega)]
        have : v = x % 256 ^ (i + 1) * y := by
          rw [Nat.mod_eq_of_lt (Nat.lt_of_lt_of_le hylt (Nat.pow_le_pow_right (by omega) (show len y ≤ kk by omega)))] at hinv
          rw [Nat.pow_succ, mod_mul_parts, Nat.add_mul]
          unfold dig at hinv
          have e : x / 256 ^ i % 256 * y * 256 ^ i = 256 ^ i * (x / 256 ^ i % 256) * y := by ac_rfl
          omega
        rw [this]
        exact next k (by omega)
theorem mul_out (x y n v : Nat) (n1 n2 : Bool) (hn : n ≤ 20000000) : ∀ (d i k : Nat), i + d = n → d + n + 1 < k →
    spec_Int_Mul.l2 k (n : Int) (lit (n + 1) v) (List.replicate d 0 ++ fix i v) (i : Int) n1 (bytes x) n2 (bytes y) = some (sg (n1 != n2) (v % 256 ^ n)) := by
  intro d
  induction d with
  | zero =>
    intro i k hi hk
    obtain ⟨k, rfl⟩ : ∃ m, k = m + 1 := ⟨k - 1, by omega⟩
    obtain rfl : i = n := by omega
    simp only [spec_Int_Mul.l2]
    rw [if_neg (by omega), List.replicate_zero, List.nil_append, of_fix _ _ _ _ (by unfold cap; omega) (by omega)]
    simp
  | succ d ih =>
    intro i k hi hk
    obtain ⟨k, rfl⟩ : ∃ m, k = m + 1 := ⟨k - 1, by omega⟩
    simp only [spec_Int_Mul.l2]
    have e1 : wrap64 (wrap64 ((n : Int) - 1) - (i : Int)) = ((d : Nat) : Int) := by rw [s_pred2 (by omega) (by omega)]; congr 1; omega
    have hlen : (List.replicate (d + 1) (0 : Int) ++ fix i v).length = n := by simp [fix_length]; omega
    have hd := dig_lt v i
    have e2 : ((dig v i : Nat) : Int) % 256 = ((dig v i : Nat) : Int) := by omega
    rw [if_pos (by omega), if_pos (by omega), lit_length, if_pos (by omega), e1, if_pos (by omega), hlen, if_pos (by omega), lit_get _ _ _ (by omega), e2, Int.toNat_natCast, set_zeros, s_succ (by omega)]
    unfold dig
    rw [← fix_cons]
    exact ih (i + 1) k (by omega) (by omega)
theorem mul_rows (x y n : Nat) (n1 n2 : Bool) (hx : len x ≤ 10000000) (hy : len y ≤ 10000000) (hn : n = len x + len y) : ∀ (d i k : Nat), i + d = len x → (2 * len y + 6) * d + 2 * n + 10 ≤ k →
    spec_Int_Mul.l0 k (n : Int) (lit (n + 1) (x % 256 ^ i * y)) (i : Int) n1 (bytes x) n2 (bytes y) = some (sg (n1 != n2) (x * y)) := by
  have hlx : (bytes x).length = len x := rfl
  intro d
  induction d with
  | zero =>
    intro i k hi hk
    obtain ⟨k, rfl⟩ : ∃ m, k = m + 1 := ⟨k - 1, by omega⟩
    simp only [spec_Int_Mul.l0, hlx]
    have hxm : x % 256 ^ i = x := Nat.mod_eq_of_lt (by rw [show i = len x by omega]; exact lt_len x)
    have := mul_out x y n (x * y) n1 n2 (by omega) n 0 k (by omega) (by omega)
    rw [fix, List.append_nil, show (((0 : Nat) : Int)) = 0 from rfl] at this
    rw [if_neg (by omega), if_pos (by omega), if_pos (by omega), hxm, Int.toNat_natCast, this, Nat.mod_eq_of_lt]
    rw [hn, Nat.pow_add]
    exact Nat.mul_lt_mul'' (lt_len x) (lt_len y)
  | succ d ih =>
    intro i k hi hk
    obtain ⟨k, rfl⟩ : ∃ m, k = m + 1 := ⟨k - 1, by omega⟩
    simp only [spec_Int_Mul.l0, hlx]
    rw [Nat.mul_succ] at hk
    rw [if_pos (by omega)]
    refine row_loop x y n i ((2 * len y + 6) * d + 2 * n + 10) n1 n2 _ hx hy hn (by omega) (fun k hk => ih (i + 1) k (by omega) hk) (len y + 1) 0 k _ 0 (by omega) (by omega) ?_ (by omega)
    simp [Nat.mod_one]
theorem mul_is (n1 n2 : Bool) (x y k : Nat) (hx : len x ≤ 10000000) (hy : len y ≤ 10000000) (hk : (2 * len y + 6) * len x + 2 * (len x + len y) + 10 ≤ k) : spec_Int_Mul.f k n1 (bytes x) n2 (bytes y) = some (sg (n1 != n2) (x * y)) := by
  have hlx : (bytes x).length = len x := rfl
  have hly : (bytes y).length = len y := rfl
  unfold spec_Int_Mul.f
  rw [hlx, hly, s_add (by omega), s_succ (by omega), if_pos (by omega), if_pos (by omega), Int.toNat_natCast]
  have := mul_rows x y (len x + len y) n1 n2 hx hy rfl (len x) 0 k (by omega) hk
  rw [Nat.pow_zero, Nat.mod_one, Nat.zero_mul, lit_zero] at this
  exact this

/-! ### Small, Power, Lsh. -/
theorem bytesOf_loop (u : Nat) : ∀ (d i k : Nat), i + d = 8 → d < k → spec_bytesOf.l0 k ((u / 256 ^ i : Nat) : Int) (List.replicate d 0 ++ fix i u) ((d : Int) - 1) = some (fix 8 u) := by
  intro d
  induction d with
  | zero =>
    intro i k hi hk
    obtain ⟨k, rfl⟩ : ∃ m, k = m + 1 := ⟨k - 1, by omega⟩
    obtain rfl : i = 8 := by omega
    simp only [spec_bytesOf.l0]
    rw [if_neg (by omega)]; simp
  | succ d ih =>
    intro i k hi hk
    obtain ⟨k, rfl⟩ : ∃ m, k = m + 1 := ⟨k - 1, by omega⟩
    have e : ((d + 1 : Nat) : Int) - 1 = ((d : Nat) : Int) := by omega
    have hlen : (List.replicate (d + 1) (0 : Int) ++ fix i u).length = 8 := by simp [fix_length]; omega
    rw [e]
    simp only [spec_bytesOf.l0]
    rw [if_pos (by omega), if_pos (by omega), hlen, if_pos (by omega), Int.toNat_natCast, set_zeros, w64 (by omega) (by omega)]
    have e1 : ((u / 256 ^ i : Nat) : Int) / 256 = ((u / 256 ^ (i + 1) : Nat) : Int) := by rw [Nat.pow_succ, ← Nat.div_div_eq_div_mul]; rfl
    have e2 : ((u / 256 ^ i : Nat) : Int) % 256 = ((u / 256 ^ i % 256 : Nat) : Int) := by rfl
    rw [e1, e2, ← fix_cons]
    exact ih (i + 1) k (by omega) (by omega)
theorem bytesOf_is (u k : Nat) (hk : 8 < k) : spec_bytesOf.f k (u : Int) = some (fix 8 u) := by
  unfold spec_bytesOf.f
  rw [if_pos (by omega)]
  have := bytesOf_loop u 8 0 k (by omega) hk
  rw [Nat.pow_zero, Nat.div_one, fix, List.append_nil] at this
  exact this
theorem u64w (x : Int) : IntKind.u64.wrap x = x % 18446744073709551616 := by simp [IntKind.wrap, IntKind.bits, IntKind.signed]
theorem small_is (z : Int) (k : Nat) (h0 : -9223372036854775808 ≤ z) (h1 : z < 9223372036854775808) (hk : 8 < k) : spec_Small.f k z = some (sg (decide (z < 0)) z.natAbs) := by
  have hlt : z.natAbs < 256 ^ 8 := by
    have : (256 : Nat) ^ 8 = 18446744073709551616 := by decide
    omega
  unfold spec_Small.f
  by_cases h : z < 0
  · have e : IntKind.u64.wrap (-(IntKind.u64.wrap z)) = ((z.natAbs : Nat) : Int) := by rw [u64w, u64w]; omega
    rw [if_pos h, e, bytesOf_is _ _ hk, Option.bind_some, of_fix _ _ _ _ (by decide) hk, Option.bind_some, Nat.mod_eq_of_lt hlt]
  · have e : IntKind.u64.wrap z = ((z.natAbs : Nat) : Int) := by rw [u64w]; omega
    rw [if_neg h, e, bytesOf_is _ _ hk, Option.bind_some, of_fix _ _ _ _ (by decide) hk, Option.bind_some, Nat.mod_eq_of_lt hlt]
theorem val_foldl (l : List Int) : ∀ a, l.foldl (fun a d => a * 256 + d.toNat) a = a * 256 ^ l.length + val l := by
  induction l with
  | nil => intro a; simp [val]
  | cons d l ih =>
    intro a
    simp only [List.foldl_cons, List.length_cons, val, Nat.zero_mul, Nat.zero_add]
    rw [ih, ih d.toNat, Nat.add_mul, Nat.pow_succ]
    have : a * 256 * 256 ^ l.length = a * (256 ^ l.length * 256) := by ac_rfl
    omega
theorem val_cons (d : Int) (l : List Int) : val (d :: l) = d.toNat * 256 ^ l.length + val l := by
  rw [← val_foldl]; simp [val]
theorem power_is (n k : Nat) (hn : n ≤ 1000000) (hk : n + 1 < k) : spec_Power.f k (n : Int) = some (sg false (2 ^ n)) := by
  unfold spec_Power.f
  rw [s_div8 (by omega), s_succ (by omega), if_pos (by omega), if_pos (by omega)]
  simp only [Option.bind_some, Int.toNat_natCast, List.length_replicate]
  have hs : n % 8 < 8 := Nat.mod_lt _ (by omega)
  rw [s_mod8, if_pos (by omega), if_pos (by omega), s_shl _ hs, show ((0 : Int).toNat) = 0 from rfl, List.replicate_succ, List.set_cons_zero]
  have hp : 2 ^ (n % 8) < 2 ^ 8 := Nat.pow_lt_pow_right (by omega) hs
  have hb : Bytes (((2 ^ (n % 8) : Nat) : Int) :: List.replicate (n / 8) 0) := by
    intro d hd
    rcases List.mem_cons.1 hd with rfl | hd
    · exact ⟨Int.natCast_nonneg _, Int.ofNat_lt.2 hp⟩
    · rw [(List.mem_replicate.1 hd).2]; omega
  rw [of_is _ _ hb (by simp only [List.length_cons, List.length_replicate]; unfold cap; omega) k (by simp only [List.length_cons, List.length_replicate]; omega), Option.bind_some, val_cons]
  have hz := val_zeros (n / 8) []
  rw [List.append_nil] at hz
  rw [hz, List.length_replicate, Int.toNat_natCast, val_nil, Nat.add_zero]
  have e4 : 2 ^ (n % 8) * 256 ^ (n / 8) = 2 ^ n := by
    rw [show (256 : Nat) = 2 ^ 8 from rfl, ← Nat.pow_mul, ← Nat.pow_add]; congr 1; omega
  rw [e4]
end Go.Proofs.YtodipcgilgigbaaGreatDoor.I
