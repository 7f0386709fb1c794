/- A row of words shifted to the left in place: lshVU, fnorm. -/
import Derived.Test.YtodipcgilgigbaaGreatDoorV9
import Derived.RegionTactic
import Derived.BigRegion
import Derived.IntWalk
set_option linter.unusedVariables false
namespace Go.Proofs.YtodipcgilgigbaaGreatDoor.V
open Go Go.RowKit Go.Proofs.YtodipcgilgigbaaGreatDoor.I

/-- A word of a shifted number. -/
theorem shift_word (n s i : Nat) (hs : 0 < s) (hs2 : s < 64) : n * 2 ^ s / 18446744073709551616 ^ (i + 1) % 18446744073709551616 = (n / 18446744073709551616 ^ (i + 1) % 18446744073709551616) * 2 ^ s % 18446744073709551616 + (n / 18446744073709551616 ^ i % 18446744073709551616) / 2 ^ (64 - s) := by
  have hB : (18446744073709551616 : Nat) = 2 ^ s * 2 ^ (64 - s) := by rw [← Nat.pow_add, show s + (64 - s) = 64 by omega]
  have hP : 0 < (18446744073709551616 : Nat) ^ i := Nat.pow_pos (by omega)
  have hS : 0 < 2 ^ s := Nat.two_pow_pos s
  have hT : 0 < 2 ^ (64 - s) := Nat.two_pow_pos _
  obtain ⟨q, r, hr, rfl⟩ : ∃ q r, r < 18446744073709551616 ^ i ∧ n = 18446744073709551616 ^ i * q + r := ⟨n / 18446744073709551616 ^ i, n % 18446744073709551616 ^ i, Nat.mod_lt _ hP, (Nat.div_add_mod _ _).symm⟩
  have e1 : (18446744073709551616 ^ i * q + r) / 18446744073709551616 ^ i = q := by rw [Nat.mul_add_div hP, Nat.div_eq_of_lt hr, Nat.add_zero]
  have e2 : (18446744073709551616 ^ i * q + r) / 18446744073709551616 ^ (i + 1) = q / 18446744073709551616 := by rw [Nat.pow_succ, ← Nat.div_div_eq_div_mul, e1]
  have e3 : (18446744073709551616 ^ i * q + r) * 2 ^ s / 18446744073709551616 ^ (i + 1) = (q * 2 ^ s + r * 2 ^ s / 18446744073709551616 ^ i) / 18446744073709551616 := by
    rw [Nat.pow_succ, ← Nat.div_div_eq_div_mul, Nat.add_mul, Nat.mul_assoc, Nat.mul_add_div hP]
  have he : r * 2 ^ s / 18446744073709551616 ^ i < 2 ^ s := by
    rw [Nat.div_lt_iff_lt_mul hP, Nat.mul_comm]
    exact Nat.mul_lt_mul_of_pos_left hr hS
  rw [e1, e2, e3]
  generalize r * 2 ^ s / 18446744073709551616 ^ i = e at *
  obtain ⟨a, b, hb, rfl⟩ : ∃ a b, b < 18446744073709551616 ∧ q = 18446744073709551616 * a + b := ⟨q / 18446744073709551616, q % 18446744073709551616, Nat.mod_lt _ (by omega), (Nat.div_add_mod _ _).symm⟩
  have f1 : (18446744073709551616 * a + b) / 18446744073709551616 = a := by omega
  have f2 : (18446744073709551616 * a + b) % 18446744073709551616 = b := by omega
  have f3 : ((18446744073709551616 * a + b) * 2 ^ s + e) / 18446744073709551616 = a * 2 ^ s + b / 2 ^ (64 - s) := by
    have g1 : (18446744073709551616 * a + b) * 2 ^ s + e = 18446744073709551616 * (a * 2 ^ s) + (b * 2 ^ s + e) := by rw [Nat.add_mul, Nat.mul_assoc, Nat.add_assoc]
    rw [g1, Nat.mul_add_div (by omega)]
    congr 1
    rw [hB, ← Nat.div_div_eq_div_mul]
    congr 1
    rw [Nat.mul_comm b, Nat.mul_add_div hS, Nat.div_eq_of_lt he, Nat.add_zero]
  rw [f1, f2, f3]
  have hc : b / 2 ^ (64 - s) < 2 ^ s := by
    rw [Nat.div_lt_iff_lt_mul hT, ← hB]; exact hb
  generalize b / 2 ^ (64 - s) = c at *
  -- a shifted word leaves room for what comes from below
  have hm : a % 18446744073709551616 * 2 ^ s % 18446744073709551616 = (a % 2 ^ (64 - s)) * 2 ^ s := by
    have h1 : a % 18446744073709551616 * 2 ^ s % 18446744073709551616 = (a * 2 ^ s) % 18446744073709551616 := by rw [Nat.mod_mul_mod]
    rw [h1]
    conv => lhs; rw [hB, Nat.mul_comm a, Nat.mul_mod_mul_left, Nat.mul_comm]
  have hl : (a % 2 ^ (64 - s)) * 2 ^ s + c < 18446744073709551616 := by
    have h1 : a % 2 ^ (64 - s) + 1 ≤ 2 ^ (64 - s) := Nat.mod_lt _ hT
    have h2 := Nat.mul_le_mul_right (2 ^ s) h1
    rw [Nat.add_mul, Nat.mul_comm (2 ^ (64 - s)), ← hB] at h2
    omega
  rw [hm, Nat.add_mod, show (a * 2 ^ s) % 18446744073709551616 = a % 2 ^ (64 - s) * 2 ^ s by rw [← hm, Nat.mod_mul_mod], Nat.mod_eq_of_lt (show c < 18446744073709551616 by omega), Nat.mod_eq_of_lt hl]
theorem shift_low (n s : Nat) : n * 2 ^ s % 18446744073709551616 = (n % 18446744073709551616) * 2 ^ s % 18446744073709551616 := by rw [Nat.mod_mul_mod]
/-- The i-th word of a number. -/
def wd (n i : Nat) : Nat := n / 18446744073709551616 ^ i % 18446744073709551616
theorem wd_lt (n i : Nat) : wd n i < 18446744073709551616 := Nat.mod_lt _ (by omega)
theorem words_wd {n i : Nat} (h : i < wl n) : (words n)[i]? = some ((wd n i : Nat) : Int) := words_get h
theorem wd_shift (n s i : Nat) (hs : 0 < s) (hs2 : s < 64) : wd (n * 2 ^ s) (i + 1) = wd n (i + 1) * 2 ^ s % 18446744073709551616 + wd n i / 2 ^ (64 - s) := shift_word n s i hs hs2
theorem wd_shift0 (n s : Nat) : wd (n * 2 ^ s) 0 = wd n 0 * 2 ^ s % 18446744073709551616 := by
  unfold wd
  rw [Nat.pow_zero, Nat.div_one, Nat.div_one]
  exact shift_low n s
/-- While it is shifted: from i on the words of the shifted number, below those of the number. -/
def half (a b : List Int) (i : Nat) : List Int := a.take i ++ b.drop i
theorem half_length (a b : List Int) (i : Nat) (h : a.length = b.length) (hi : i ≤ a.length) : (half a b i).length = a.length := by
  unfold half
  rw [List.length_append, List.length_take, List.length_drop]
  omega
theorem half_low (a b : List Int) (i j : Nat) (hj : j < i) (hi : i ≤ a.length) : (half a b i)[j]? = a[j]? := by
  unfold half
  rw [List.getElem?_append_left (by rw [List.length_take]; omega), List.getElem?_take, if_pos hj]
theorem half_set (a b : List Int) (i : Nat) (h : a.length = b.length) (hi : i < a.length) (x : Int) (hx : b[i]? = some x) : (half a b (i + 1)).set i x = half a b i := by
  unfold half
  apply List.ext_getElem?
  intro j
  rw [List.getElem?_set, List.length_append, List.length_take, List.length_drop]
  by_cases hij : i = j
  · subst hij
    rw [if_pos rfl, if_pos (by omega), List.getElem?_append_right (by rw [List.length_take]; omega), List.length_take, List.getElem?_drop, ← hx]
    congr 1
    omega
  · rw [if_neg hij]
    rcases Nat.lt_or_ge j i with hj | hj
    · rw [List.getElem?_append_left (by rw [List.length_take]; omega), List.getElem?_append_left (by rw [List.length_take]; omega), List.getElem?_take, List.getElem?_take, if_pos (by omega), if_pos hj]
    · rw [List.getElem?_append_right (by rw [List.length_take]; omega), List.getElem?_append_right (by rw [List.length_take]; omega), List.length_take, List.length_take, List.getElem?_drop, List.getElem?_drop]
      congr 1
      omega
theorem half_top (a b : List Int) (h : a.length = b.length) : half a b a.length = a := by
  unfold half
  rw [List.take_length, List.drop_eq_nil_of_le (by omega), List.append_nil]
theorem half_zero (a b : List Int) : half a b 0 = b := by simp [half]
theorem wrapu_nat (a : Nat) : IntKind.u64.wrap (a : Int) = ((a % 18446744073709551616 : Nat) : Int) := by
  rw [IntKind.wrap_u64]
  omega
theorem or_shift (x y s : Nat) (hs : 0 < s) (hs2 : s < 64) (hy : y < 18446744073709551616) : ∃ t : Nat, t = x * 2 ^ s % 18446744073709551616 + y / 2 ^ (64 - s) ∧ bits .or .u64 (IntKind.u64.wrap ((x : Int) * 2 ^ s)) ((y : Int) / 2 ^ (64 - s)) = (t : Int) := by
  refine ⟨_, rfl, ?_⟩
  have hB : (18446744073709551616 : Nat) = 2 ^ s * 2 ^ (64 - s) := by rw [← Nat.pow_add, show s + (64 - s) = 64 by omega]
  have e1 : (x : Int) * 2 ^ s = ((x * 2 ^ s : Nat) : Int) := by rw [Int.natCast_mul, Int.natCast_pow]; rfl
  have e2 : (y : Int) / 2 ^ (64 - s) = ((y / 2 ^ (64 - s) : Nat) : Int) := by rw [Int.natCast_ediv, Int.natCast_pow]; rfl
  have hc : y / 2 ^ (64 - s) < 2 ^ s := by rw [Nat.div_lt_iff_lt_mul (Nat.two_pow_pos _), ← hB]; exact hy
  have hm : x * 2 ^ s % 18446744073709551616 = (x % 2 ^ (64 - s)) * 2 ^ s := by
    conv => lhs; rw [hB, Nat.mul_comm x, Nat.mul_mod_mul_left, Nat.mul_comm]
  rw [e1, e2, wrapu_nat, u64_or_nat _ _ (Nat.mod_lt _ (by omega)) (by have : 2 ^ s < 18446744073709551616 := (show (2 : Nat) ^ s < 2 ^ 64 from Nat.pow_lt_pow_right (by omega) hs2); omega), hm, Nat.or_comm, or_join s _ _ _ rfl hc, Nat.add_comm]
set_option maxRecDepth 100000 in
set_option maxHeartbeats 2000000 in
/-- lshVU(z, z, s): the words of n become those of n times 2 to the s, nothing being left above. -/
theorem lshg_call (n s k g cap : Nat) (hs : 0 < s) (hs2 : s < 64) (hk : wl n = k + 1) (hk2 : wl (n * 2 ^ s) = k + 1) (hl : k ≤ 1000) (w : World) (h : Row w g cap (words n)) :
    Calls Tryz.prog 101 #[.slice (some ⟨g, 0, none⟩) (k + 1) cap, .slice (some ⟨g, 0, none⟩) (k + 1) cap, .int .u64 s] w fun e w' => ∃ c, e = .returned (.int .u64 c) ∧ Row w' g cap (words (n * 2 ^ s)) ∧ Off (· = g) w w' := by
  have s0 : ((s : Int) == 0) = false := by rw [beq_eq_false_iff_ne]; omega
  have sA : bits .and .u64 (s : Int) 63 = (s : Int) := by
    have := u64_and_nat s 63 (by omega) (by omega)
    rw [show ((63 : Nat) : Int) = 63 from rfl] at this
    rw [this, show (63 : Nat) = 2 ^ 6 - 1 from rfl, Nat.and_two_pow_sub_one_eq_mod, Nat.mod_eq_of_lt (by omega)]
  have sB : bits .and .u64 (64 - (s : Int)) 63 = 64 - (s : Int) := by
    have := u64_and_nat (64 - s) 63 (by omega) (by omega)
    rw [show ((63 : Nat) : Int) = 63 from rfl, show ((64 - s : Nat) : Int) = 64 - (s : Int) by omega] at this
    rw [this, show (63 : Nat) = 2 ^ 6 - 1 from rfl, Nat.and_two_pow_sub_one_eq_mod, Nat.mod_eq_of_lt (by omega)]
    omega
  have b1 : (0 : Int) < s := by omega
  have b2 : (s : Int) < 64 := by omega
  have k0 : (0 : Int) ≤ k := by omega
  have kk : (k : Int) ≤ 1000 := by omega
  have hlen : (words n).length = k + 1 := hk
  have hlen2 : (words (n * 2 ^ s)).length = k + 1 := hk2
  have hx := words_wd (n := n) (i := k) (by omega)
  have hc := h.cell hx
  have hr0 : Row w g cap (half (words n) (words (n * 2 ^ s)) (k + 1)) := by
    have := half_top (words n) (words (n * 2 ^ s)) (by omega)
    rw [hlen] at this
    rwa [this]
  have hH : ∀ i, i ≤ k → (words n)[i]? = some ((wd n i : Nat) : Int) ∧ (words (n * 2 ^ s))[i]? = some ((wd (n * 2 ^ s) i : Nat) : Int) := fun i hi => ⟨words_wd (by omega), words_wd (by omega)⟩
  have hS : ∀ i, wd (n * 2 ^ s) (i + 1) = wd n (i + 1) * 2 ^ s % 18446744073709551616 + wd n i / 2 ^ (64 - s) := fun i => wd_shift n s i hs hs2
  have hS0 := wd_shift0 n s
  have hL : ∀ i, wd n i < 18446744073709551616 := wd_lt n
  have HX := Lib.hid (And.intro hlen (And.intro hlen2 (And.intro hH (And.intro hS (And.intro hS0 hL)))))
  clear hk hk2 hx hH hS hS0 hL hlen hlen2
  generalize wd n = a at *
  generalize wd (n * 2 ^ s) = b at *
  generalize words n = la at *
  generalize words (n * 2 ^ s) = lb at *
  go_enter Tryz.func101, Tryz.ntmps101
  go_wp2_with fail
  go_loopw [8] (fun s8 wr => ∃ i : Nat, i ≤ k ∧ s8 = .int .i64 i ∧ Row wr g cap (half la lb (i + 1)) ∧ Off (· = g) w wr) (fun s8 _ => (intOf s8).toNat)
  case atStart => exact ⟨k, Nat.le_refl _, rfl, hr0, Off.refl _ _⟩
  case round =>
    obtain ⟨i, hi, rfl, hrow, hoff⟩ := hrel
    obtain ⟨hlen, hlen2, hH, hS, hS0, hL⟩ := HX.out
    have hci := hrow.cell ((half_low la lb (i + 1) i (by omega) (by omega)).trans (hH i hi).1)
    have hfi := hrow.frozen i
    have hset := half_set la lb i (by omega) (by omega) _ (hH i hi).2
    rcases Nat.eq_zero_or_pos i with rfl | hi0
    · have e : IntKind.u64.wrap ((a 0 : Int) * 2 ^ s) = ((b 0 : Nat) : Int) := by
        have e1 : (a 0 : Int) * 2 ^ s = ((a 0 * 2 ^ s : Nat) : Int) := by rw [Int.natCast_mul, Int.natCast_pow]; rfl
        rw [e1, wrapu_nat, hS0]
      have hnew := hrow.set (i := 0) (IntKind.u64.wrap ((a 0 : Int) * 2 ^ s))
      rw [e, hset, half_zero, ← e] at hnew
      have HN := Lib.hid (And.intro hnew hoff)
      clear e
      clear hset hnew hS0 hS hL hH hlen hlen2
      go_wp2_with fail
      go_ret
      exact ⟨_, rfl, HN.out.1, HN.out.2.setCell (p := ⟨g, 0, none⟩) (.inl rfl) _⟩
    · obtain ⟨j, rfl⟩ : ∃ j, i = j + 1 := ⟨i - 1, by omega⟩
      have hcj := hrow.cell ((half_low la lb (j + 1 + 1) j (by omega) (by omega)).trans (hH j (by omega)).1)
      obtain ⟨t, ht, hor⟩ := or_shift (a (j + 1)) (a j) s hs hs2 (hL j)
      rw [← hS j] at ht
      have hnew := hrow.set (i := j + 1) ((b (j + 1) : Nat) : Int)
      rw [hset, ← ht] at hnew
      have HN := Lib.hid (And.intro hnew hoff)
      have u1 : (j : Int) < k := by omega
      have u2 : (j : Int) + 1 < (k : Int) + 1 := by omega
      clear hset hnew hS0 hS hL hH hlen hlen2 ht hoff
      go_wp2_with fail
      go_region
      all_goals
        go_wp2_with fail
        go_roundw
        case rel =>
          obtain ⟨hnew, hoff⟩ := HN.out
          exact ⟨j, by omega, by go_num, hnew.below (Below.refl _ _).drew, (hoff.setCell (p := ⟨g, j + 1, none⟩) (.inl rfl) _).drew⟩
        case measure => simp [intOf]; try omega
set_option maxRecDepth 100000 in
theorem lsh_call (n s k g cap : Nat) (hs : 0 < s) (hs2 : s < 64) (hk : wl n = k + 1) (hk2 : wl (n * 2 ^ s) = k + 1) (hl : k ≤ 1000) (w : World) (h : Row w g cap (words n)) :
    Calls Tryz.prog 91 #[.slice (some ⟨g, 0, none⟩) (k + 1) cap, .slice (some ⟨g, 0, none⟩) (k + 1) cap, .int .u64 s] w fun e w' => ∃ c, e = .returned (.int .u64 c) ∧ Row w' g cap (words (n * 2 ^ s)) ∧ Off (· = g) w w' := by
  have LC := lshg_call n s k g cap hs hs2 hk hk2 hl w h
  go_enter Tryz.func91, Tryz.ntmps91
  go_wp2_with (go_at_call 101; refine LC.mono ?_; rintro _ w1 ⟨c, rfl, hr, ho⟩)
  go_ret
  exact ⟨_, rfl, hr, ho⟩
set_option maxRecDepth 100000 in
theorem nlz_call (x : Nat) (hx : x < 18446744073709551616) (w : World) : Calls Tryz.prog 90 #[.int .u64 x] w fun e w' => e = .returned (.int .u64 ((64 - bl x : Nat) : Int)) ∧ w = w' := by
  have hb := bl_le 64 hx
  have LZ : ∀ wq, Calls Tryz.prog 100 #[.int .u64 x] wq fun e w' => e = .returned (.int .i64 ((64 - bl x : Nat) : Int)) ∧ wq = w' := by
    intro wq
    refine (Tryz.bits_LeadingZeros _ _ (by omega) (by omega)).mono ?_
    rintro _ w1 ⟨rfl, rfl⟩
    rw [Int.toNat_natCast, bitLen_is hx]
    exact ⟨ret_int (by omega), rfl⟩
  have hd : 64 - bl x ≤ 64 := by omega
  generalize 64 - bl x = d at *
  go_enter Tryz.func90, Tryz.ntmps90
  go_wp2_with (go_at_call 100; refine (LZ _).mono ?_; rintro _ w1 ⟨rfl, rfl⟩)
  go_ret
  exact ⟨rfl, rfl⟩
theorem top_word {n k : Nat} (h0 : n ≠ 0) (hk : wl n = k + 1) : 64 - bl (wd n k) = nz n ∧ wd n k < 18446744073709551616 := by
  have h1 := words_last h0
  have h2 := log_words h0
  rw [hk, Nat.add_sub_cancel] at h1 h2
  have e : wd n k = n / 18446744073709551616 ^ k := by unfold wd; exact Nat.mod_eq_of_lt h1.2
  refine ⟨?_, wd_lt n k⟩
  have h3 := bl_le 64 h1.2
  unfold nz
  rw [e, hk]
  unfold bl at *
  rw [if_neg h1.1] at *
  rw [if_neg h0]
  omega
set_option maxRecDepth 100000 in
set_option maxHeartbeats 1000000 in
theorem fnorm_call (n g cap : Nat) (h0 : n ≠ 0) (hl : wl n ≤ 1000) (w : World) (h : Row w g cap (words n)) :
    Calls Tryz.prog 73 #[.slice (some ⟨g, 0, none⟩) (wl n) cap] w fun e w' => e = .returned (.int .i64 ((nz n : Nat) : Int)) ∧ Row w' g cap (words (n * 2 ^ nz n)) ∧ Off (· = g) w w' := by
  have h1 := wl_pos h0
  obtain ⟨k, hk⟩ : ∃ k, wl n = k + 1 := ⟨wl n - 1, by omega⟩
  obtain ⟨t1, t2⟩ := top_word h0 hk
  have hk2 := (wl_nz h0).1
  rw [hk] at hk2
  have hz : nz n < 64 := by
    have := bl_wl h0
    unfold nz
    omega
  have hc := h.cell (words_wd (n := n) (i := k) (by omega))
  have NZ := nlz_call (wd n k) t2
  rw [t1] at NZ
  have LC := fun (hs : 0 < nz n) => lsh_call n (nz n) k g cap hs hz hk hk2 (by omega)
  rw [hk] at hl ⊢
  have k1 : (k : Int) ≤ 1000 := by omega
  have hlen : (words n).length = k + 1 := hk
  have h1' := h
  generalize wd n k = t at *
  have HK := Lib.hid (And.intro hk (And.intro hk2 (And.intro hlen h1)))
  clear hk hk2 hlen h1
  rcases Nat.eq_zero_or_pos (nz n) with hz0 | hz0
  · rw [hz0] at NZ ⊢
    rw [Nat.pow_zero, Nat.mul_one]
    clear t1 hz0 hz
    go_enter Tryz.func73, Tryz.ntmps73
    go_wp2_with (go_at_call 90; refine (NZ _).mono ?_; rintro _ w1 ⟨rfl, rfl⟩)
    go_ret
    exact ⟨rfl, h, Off.refl _ _⟩
  · have LC := LC hz0
    have z1 : (0 : Int) < nz n := by omega
    generalize nz n = d at *
    clear t1
    go_enter Tryz.func73, Tryz.ntmps73
    go_wp2_with (first | (go_at_call 90; refine (NZ _).mono ?_; rintro _ w1 ⟨rfl, rfl⟩) | (go_at_call 91; refine (LC _ h).mono ?_; rintro _ w2 ⟨c2, rfl, hr2, ho2⟩))
    go_ret
    exact ⟨rfl, hr2, ho2⟩
end Go.Proofs.YtodipcgilgigbaaGreatDoor.V
