/- A number divided by a word: divWVW, divW, setWord, div, QuoRem. -/
import Derived.Test.YtodipcgilgigbaaGreatDoorX3
set_option linter.unusedVariables false
namespace Go.Proofs.YtodipcgilgigbaaGreatDoor.V
open Go Go.RowKit Go.Proofs.YtodipcgilgigbaaGreatDoor.I
attribute [local go_sem ↓] Go.wp_at_zero Go.wp_at_succ
/-- The lowest k words of a number. -/
def wds (n k : Nat) : List Int := (List.range k).map fun j => ((wd n j : Nat) : Int)
theorem wds_length (n k : Nat) : (wds n k).length = k := by simp [wds]
theorem wds_get (n k j : Nat) (h : j < k) : (wds n k)[j]? = some ((wd n j : Nat) : Int) := by simp [wds, h]
theorem wds_words (n k : Nat) : Words (wds n k) := by
  intro d hd
  unfold wds at hd
  obtain ⟨j, _, rfl⟩ := List.mem_map.1 hd
  have := wd_lt n j
  omega
theorem wds_wv (n k : Nat) : wv (wds n k) = n % 18446744073709551616 ^ k := by
  induction k with
  | zero => simp [wds, wv, Nat.mod_one]
  | succ k ih =>
    have e : wds n (k + 1) = wds n k ++ [((wd n k : Nat) : Int)] := by simp [wds, List.range_succ]
    rw [e, wv_push, ih, wds_length, mod_next]
    rfl
/-- A digit of the quotient. -/
theorem quo_digit (n y j : Nat) (hy : 0 < y) : wd (n / y) j = ((n / 18446744073709551616 ^ (j + 1) % y) * 18446744073709551616 + wd n j) / y ∧ (n / 18446744073709551616 ^ (j + 1) % y * 18446744073709551616 + wd n j) % y = n / 18446744073709551616 ^ j % y := by
  unfold wd
  have e1 : n / y / 18446744073709551616 ^ j = n / 18446744073709551616 ^ j / y := by rw [Nat.div_div_eq_div_mul, Nat.mul_comm, ← Nat.div_div_eq_div_mul]
  have e2 : n / 18446744073709551616 ^ (j + 1) = n / 18446744073709551616 ^ j / 18446744073709551616 := by rw [Nat.pow_succ, Nat.div_div_eq_div_mul]
  rw [e1, e2]
  generalize n / 18446744073709551616 ^ j = m
  have h1 := Nat.div_add_mod m 18446744073709551616
  generalize hq : m / 18446744073709551616 = q at *
  have h3 := Nat.mod_lt m (show 18446744073709551616 > 0 by omega)
  generalize m % 18446744073709551616 = d at *
  have h2 := Nat.div_add_mod q y
  have h4 := Nat.mod_lt q hy
  generalize q / y = a at *
  generalize q % y = r at *
  have e3 : m = (r * 18446744073709551616 + d) + y * (a * 18446744073709551616) := by
    rw [← Nat.mul_assoc]
    omega
  have e4 : (r * 18446744073709551616 + d) / y < 18446744073709551616 := (Nat.div_lt_iff_lt_mul hy).2 (by omega)
  rw [e3, Nat.add_mul_div_left _ _ hy, Nat.add_mul_mod_self_left]
  refine ⟨?_, rfl⟩
  rw [Nat.add_mul_mod_self_right, Nat.mod_eq_of_lt e4]
theorem half_at (a b : List Int) (k : Nat) (ha : a.length = k) : half a b k = a ++ b.drop k := by unfold half; rw [List.take_of_length_le (by omega)]
/-- What holds at the head of a round: the words from i on are divided. -/
def Wvw (n y k g c : Nat) (zs : List Int) (w : World) (s8 s12 : Value) (wr : World) : Prop := ∃ i : Nat, i ≤ k + 2 ∧ s12 = .int .i64 ((i : Int) - 1) ∧ s8 = .int .u64 ((n / 18446744073709551616 ^ i % y : Nat) : Int) ∧ Row wr g c (half zs (wds (n / y) (k + 2)) i) ∧ Off (· = g) w wr
set_option maxRecDepth 100000 in
set_option maxHeartbeats 2000000 in
theorem divwvw_many (n y k g g2 c c2 : Nat) (hy : y ≠ 0) (hy1 : y < 18446744073709551616) (hk : wl n = k + 2) (hk2 : k ≤ 1000) (w : World) (hx : Row w g2 c2 (words n)) (zs : List Int) (hz : zs.length = k + 2) (hr : Row w g c zs) (hne : g ≠ g2) :
    Calls Tryz.prog 177 #[.slice (some ⟨g, 0, none⟩) (k + 2) c, .int .u64 0, .slice (some ⟨g2, 0, none⟩) (k + 2) c2, .int .u64 y] w fun e w' => e = .returned (.int .u64 ((n % y : Nat) : Int)) ∧ Row w' g c (wds (n / y) (k + 2)) ∧ Off (· = g) w w' := by
  have RC := rcp_call y hy hy1
  have W0 : n / 18446744073709551616 ^ (k + 2) = 0 := Nat.div_eq_of_lt (hk ▸ lt_wl n)
  have hr0 : Row w g c (half zs (wds (n / y) (k + 2)) (k + 2)) := by
    rw [half_at _ _ _ hz, List.drop_of_length_le (by rw [wds_length]; omega), List.append_nil]
    exact hr
  have HD := Lib.hid (fun j => quo_digit n y j (by omega))
  have kk : (k : Int) ≤ 1000 := by omega
  have k0 : (0 : Int) ≤ k := by omega
  have hn1 : ((k : Int) + 2 == 1) = false := by rw [beq_eq_false_iff_ne]; omega
  have HW := Lib.hid (And.intro W0 (And.intro hk hz))
  have HY := Lib.hid (And.intro hy hy1)
  clear W0 hy hz hk hk2
  generalize hrc : rcp y = rc at RC
  have HR := Lib.hid hrc
  have HX := Lib.hid (And.intro hx (And.intro hr0 hr))
  clear hrc hx hr0 hr
  go_enter Tryz.func177, Tryz.ntmps177
  go_wp2_with (go_at_call 187; ((with_reducible refine (RC _).mono ?_); rintro _ w1 ⟨rfl, hb1⟩))
  go_loopw [8, 12] (fun s8 s12 wr => Wvw n y k g c zs w s8 s12 wr) (fun _ s12 _ => (intOf s12 + 1).toNat)
  case atStart => exact ⟨k + 2, Nat.le_refl _, by rw [show ((k + 2 : Nat) : Int) = (k : Int) + 2 from rfl], by rw [HW.out.1]; simp, HX.out.2.1.below hb1, Off.of hb1⟩
  case round =>
    obtain ⟨i, hi, rfl, rfl, hrow, hoff⟩ := hrel
    rcases Nat.eq_zero_or_pos i with rfl | hi0
    · rw [half_zero] at hrow
      rw [Nat.pow_zero, Nat.div_one]
      go_wp2_with fail
      go_ret
      exact ⟨rfl, hrow, hoff⟩
    · obtain ⟨j, rfl⟩ : ∃ j, i = j + 1 := ⟨i - 1, by omega⟩
      have hj : j < k + 2 := by omega
      have hxj := HX.out.1.cell ((words_wd (n := n) (i := j) (by rw [HW.out.2.1]; exact hj)))
      have hxj' := (hoff.block g2 HX.out.1.lt (Ne.symm hne))
      obtain ⟨d1, d2⟩ := HD.out j
      have DC := divww_call (n / 18446744073709551616 ^ (j + 1) % y) (wd n j) y HY.out.2 (Nat.mod_lt _ (by have := HY.out.1; omega)) (wd_lt n j)
      rw [HR.out, ← d1, d2] at DC
      have hcx := (World.cell?_of_block hxj').trans hxj
      have hset := hrow.set (i := j) ((wd (n / y) j : Nat) : Int)
      have hfr := hrow.frozen j
      have hzj : ∃ v, zs[j]? = some v := ⟨_, List.getElem?_eq_getElem (by have := HW.out.2.2; omega)⟩
      obtain ⟨zj, hzj⟩ := hzj
      have hcz := hrow.cell ((half_low zs (wds (n / y) (k + 2)) (j + 1) j (by omega) (by have := HW.out.2.2; omega)).trans hzj)
      clear hzj
      rw [half_set zs _ j (by rw [wds_length]; exact HW.out.2.2) (by have := HW.out.2.2; omega) _ (wds_get (n / y) (k + 2) j hj)] at hset
      have hlt := hrow.lt
      generalize n / 18446744073709551616 ^ (j + 1) % y = r at *
      generalize hr' : n / 18446744073709551616 ^ j % y = r' at *
      generalize wd n j = x at *
      generalize hq' : wd (n / y) j = q at *
      have HDJ := Lib.hid (And.intro hr' (And.intro hq' (And.intro d1 (And.intro d2 (And.intro hxj' (And.intro hset hlt))))))
      have u0 : (0 : Int) ≤ j := by omega
      have u1 : (j : Int) < (k : Int) + 2 := by omega
      have hs : ((j + 1 : Nat) : Int) - 1 = j := by omega
      have HROW := Lib.hid (And.intro hrow hoff)
      clear d1 d2 hrow hoff hi hi0 hr' hq' hxj hxj' hset hlt
      rw [hs]
      clear hs
      go_wp2_with (go_at_call 188; ((with_reducible refine (DC _).mono ?_); (rintro _ w2 ⟨rfl, hb2⟩; have hf2 := (hb2.frozen (p := ⟨g, j, none⟩) HDJ.out.2.2.2.2.2.2).trans hfr; have hc2 := (hb2.cell (p := ⟨g, j, none⟩) HDJ.out.2.2.2.2.2.2).trans hcz)))
      go_roundw
      case rel =>
        obtain ⟨hr', hq', d1, d2, hxj', hset, hlt⟩ := HDJ.out
        obtain ⟨hrow, hoff⟩ := HROW.out
        have hrow2 := (hrow.below hb2).set (i := j) ((wd (n / y) j : Nat) : Int)
        rw [half_set zs _ j (by rw [wds_length]; exact HW.out.2.2) (by have := HW.out.2.2; omega) _ (wds_get (n / y) (k + 2) j hj), hq'] at hrow2
        refine ⟨j, by omega, rfl, by rw [hr'], hrow2, (hoff.trans (Off.of hb2)).setCell (p := ⟨g, j, none⟩) (.inl rfl) _⟩
      case measure => simp [intOf]; try omega
set_option maxRecDepth 100000 in
theorem divwvw_one (n y g g2 c c2 : Nat) (hy : y ≠ 0) (hy1 : y < 18446744073709551616) (hk : wl n = 1) (w : World) (hx : Row w g2 c2 (words n)) (zs : List Int) (hz : zs.length = 1) (hr : Row w g c zs) :
    Calls Tryz.prog 177 #[.slice (some ⟨g, 0, none⟩) 1 c, .int .u64 0, .slice (some ⟨g2, 0, none⟩) 1 c2, .int .u64 y] w fun e w' => e = .returned (.int .u64 ((n % y : Nat) : Int)) ∧ Row w' g c (wds (n / y) 1) ∧ Off (· = g) w w' := by
  have hn : n < 18446744073709551616 := wl_one.1 (by omega)
  have hw := words_wd (n := n) (i := 0) (by omega)
  have e0 : wd n 0 = n := by unfold wd; rw [Nat.pow_zero, Nat.div_one, Nat.mod_eq_of_lt hn]
  have e1 : wd (n / y) 0 = n / y := by unfold wd; rw [Nat.pow_zero, Nat.div_one, Nat.mod_eq_of_lt (Nat.lt_of_le_of_lt (Nat.div_le_self _ _) hn)]
  rw [e0] at hw
  have hcx := hx.cell hw
  obtain ⟨z0, rfl⟩ : ∃ z0, zs = [z0] := List.length_eq_one_iff.1 hz
  have hcz := hr.cell (i := 0) rfl
  have hfz := hr.frozen 0
  have hg := hr.lt
  have DC := bitsDiv_call 0 n y (by omega) (by omega) (by omega) (by omega) (.inl rfl) (by omega)
  rw [Int.zero_mul, Int.zero_add, ← Int.natCast_ediv, ← Int.natCast_emod] at DC
  have ew : wds (n / y) 1 = [((n / y : Nat) : Int)] := by simp [wds, e1]
  rw [ew]
  have HR := Lib.hid hr
  clear hw e0 e1 hz hr ew hx hn hk hy hy1
  generalize n / y = q at *
  generalize n % y = r at *
  go_enter Tryz.func177, Tryz.ntmps177
  go_wp2_with (go_at_call 186; ((with_reducible refine (DC _).mono ?_); (rintro _ w2 ⟨rfl, hb2⟩; have hf2 := (hb2.frozen (p := ⟨g, 0, none⟩) hg).trans hfz; have hc2 := (hb2.cell (p := ⟨g, 0, none⟩) hg).trans hcz)))
  go_ret
  have h2 := (HR.out.below hb2).set (i := 0) (q : Int)
  exact ⟨rfl, h2, (Off.of (S := (· = g)) hb2).setCell (p := ⟨g, 0, none⟩) (.inl rfl) _⟩
theorem divwvw_call (n y g g2 c c2 : Nat) (hy : y ≠ 0) (hy1 : y < 18446744073709551616) (h0 : n ≠ 0) (hl : wl n ≤ 900) (w : World) (hx : Row w g2 c2 (words n)) (zs : List Int) (hz : zs.length = wl n) (hr : Row w g c zs) (hne : g ≠ g2) :
    Calls Tryz.prog 177 #[.slice (some ⟨g, 0, none⟩) (wl n) c, .int .u64 0, .slice (some ⟨g2, 0, none⟩) (wl n) c2, .int .u64 y] w fun e w' => e = .returned (.int .u64 ((n % y : Nat) : Int)) ∧ Row w' g c (wds (n / y) (wl n)) ∧ Off (· = g) w w' := by
  have hp := wl_pos h0
  by_cases h1 : wl n = 1
  · rw [h1]
    exact divwvw_one n y g g2 c c2 hy hy1 h1 w hx zs (by omega) hr
  · obtain ⟨k, hk⟩ : ∃ k, wl n = k + 2 := ⟨wl n - 2, by omega⟩
    rw [hk]
    exact divwvw_many n y k g g2 c c2 hy hy1 hk (by omega) w hx zs (by omega) hr hne
/-- x.divW: a new number. -/
def DivW (w : World) (n y : Nat) (e : Ending) (w' : World) : Prop := ∃ v, e = .returned (.tuple #[v, .int .u64 ((n % y : Nat) : Int)]) ∧ IsW w' v (words (n / y)) ∧ Below w.heap.size w w' ∧ From w.heap.size v
set_option maxRecDepth 100000 in
set_option maxHeartbeats 1000000 in
theorem divW_call (n y : Nat) (hy : y ≠ 0) (hy1 : y < 18446744073709551616) (hl : wl n ≤ 900) (A : Option Addr) (c : Nat) (w : World) (h : IsW w (.slice A (wl n) c) (words n)) :
    Calls Tryz.prog 167 #[.slice none 0 0, .slice A (wl n) c, .int .u64 y] w (DivW w n y) := by
  by_cases h1 : y = 1
  · subst h1
    have SC := set_call (.slice A (wl n) c) (words n) (by show wl n ≤ 1000; omega) w h
    unfold DivW
    rw [Nat.div_one, Nat.mod_one]
    go_enter Tryz.func167, Tryz.ntmps167
    go_wp2_with (go_at_call 72; ((with_reducible refine SC.mono ?_); (rintro _ w2 ⟨v, rfl, hv, hb2, hf2⟩)))
    go_ret2
    exact ⟨_, rfl, hv, hb2, hf2⟩
  · have y1 : ((y : Int) == 1) = false := by rw [beq_eq_false_iff_ne]; omega
    have y0 : ((y : Int) == 0) = false := by rw [beq_eq_false_iff_ne]; omega
    by_cases h0 : n = 0
    · subst h0
      rw [wl_zero] at *
      unfold DivW
      rw [Nat.zero_div, Nat.zero_mod, words_zero]
      go_enter Tryz.func167, Tryz.ntmps167
      go_wp2_with fail
      go_ret2
      exact ⟨_, rfl, .inl ⟨rfl, rfl⟩, Below.refl _ _, fun g n c e => by cases e⟩
    · obtain ⟨g2, rfl, hrow⟩ := isw_row h h0
      have MC := make_call (wl n) (by omega) w
      have hp := wl_pos h0
      have z0 : ((wl n : Int) == 0) = false := by rw [beq_eq_false_iff_ne]; omega
      have hg2 := hrow.lt
      have DC := fun (g c' : Nat) (w' : World) (hx : Row w' g2 c (words n)) (hr : Row w' g c' (List.replicate (wl n) 0)) (hne : g ≠ g2) => divwvw_call n y g g2 c' c hy hy1 h0 hl w' hx _ (List.length_replicate) hr hne
      have NC := fun (g c' : Nat) (w' : World) (h : Row w' g c' (wds (n / y) (wl n))) => norm_row g c' (wds (n / y) (wl n)) (by rw [wds_length]; omega) w' h
      have hwv : wv (wds (n / y) (wl n)) = n / y := by rw [wds_wv, Nat.mod_eq_of_lt (Nat.lt_of_le_of_lt (Nat.div_le_self _ _) (lt_wl n))]
      have HW := Lib.hid hwv
      rw [wds_length] at NC
      clear hwv hy1
      unfold DivW
      generalize wl n = L at *
      generalize hWW : wds (n / y) L = W at *
      have HWW := Lib.hid hWW
      clear hWW
      go_enter Tryz.func167, Tryz.ntmps167
      go_wp2_with fail
      refine MC.mono ?_
      rintro _ w1 ⟨v1, rfl, hv1, hb1, (⟨_, hn, _⟩ | ⟨c1, rfl, hn, hsz, hr1⟩)⟩
      · omega
      go_wp2_with (go_at_call 177; ((with_reducible refine (DC _ _ _ (hrow.below hb1) hr1 (by omega)).mono ?_); (rintro _ w2 ⟨rfl, hr2, ho2⟩)))
      refine (NC _ _ _ hr2).mono ?_
      rintro _ w3 ⟨j, rfl, rfl, hj, hz, hlast⟩
      have hB : Below w.heap.size w w3 := hb1.trans (ho2.below (by omega) (fun k hk => by omega))
      have hiw := norm_is hr2 (by rw [← HWW.out]; exact wds_words _ _) (by rw [← HWW.out, wds_length]; exact hj) hz hlast
      rw [HW.out] at hiw
      go_wp2_with fail
      go_ret2
      exact ⟨_, rfl, hiw, hB, fun g n c e => by injection e with e1; injection e1 with e2; injection e2 with e3; omega⟩
end Go.Proofs.YtodipcgilgigbaaGreatDoor.V
