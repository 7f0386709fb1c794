/- nat's cmp; Int's Abs; natOne, intOne, NewInt. -/
import Derived.Test.YtodipcgilgigbaaGreatDoorX5
set_option linter.unusedVariables false
namespace Go.Proofs.YtodipcgilgigbaaGreatDoor.V
open Go Go.RowKit Go.Proofs.YtodipcgilgigbaaGreatDoor.I
attribute [local go_sem ↓] Go.wp_at_zero Go.wp_at_succ
/-- The order of two numbers. -/
def cmpn (a b : Nat) : Int := if a < b then -1 else if b < a then 1 else 0
theorem cmpn_len {a b : Nat} (h : wl a < wl b) : a < b := by
  have h1 := lt_wl a
  have hb : b ≠ 0 := by rintro rfl; rw [wl_zero] at h; omega
  have h2 := le_wl hb
  exact Nat.lt_of_lt_of_le h1 (Nat.le_trans (Nat.pow_le_pow_right (by omega) (by omega)) h2)
theorem top_same {a b k : Nat} (ha : wl a = k + 1) (hb : wl b = k + 1) : a / 18446744073709551616 ^ (k + 1) = b / 18446744073709551616 ^ (k + 1) := by
  have h1 := lt_wl a
  have h2 := lt_wl b
  rw [ha] at h1
  rw [hb] at h2
  rw [Nat.div_eq_of_lt h1, Nat.div_eq_of_lt h2]
theorem wd_split (a i : Nat) : a / 18446744073709551616 ^ i = a / 18446744073709551616 ^ (i + 1) * 18446744073709551616 + wd a i := by
  unfold wd
  rw [Nat.pow_succ, ← Nat.div_div_eq_div_mul]
  have := Nat.div_add_mod (a / 18446744073709551616 ^ i) 18446744073709551616
  omega
theorem next_same {a b i : Nat} (h : a / 18446744073709551616 ^ (i + 1) = b / 18446744073709551616 ^ (i + 1)) (he : wd a i = wd b i) : a / 18446744073709551616 ^ i = b / 18446744073709551616 ^ i := by
  rw [wd_split a, wd_split b, h, he]
theorem wd_less {a b i : Nat} (h : a / 18446744073709551616 ^ (i + 1) = b / 18446744073709551616 ^ (i + 1)) (hl : wd a i < wd b i) : a < b := by
  have h1 := wd_split a i
  have h2 := wd_split b i
  have h3 : a / 18446744073709551616 ^ i < b / 18446744073709551616 ^ i := by omega
  have hp : 0 < 18446744073709551616 ^ i := Nat.pow_pos (by omega)
  have := (Nat.div_lt_iff_lt_mul hp).1 (Nat.lt_of_lt_of_le h3 (Nat.le_refl _))
  exact Nat.lt_of_lt_of_le this (Nat.div_mul_le_self _ _)
set_option maxRecDepth 100000 in
theorem cmp_short (m n : Nat) (A B : Option Addr) (c d : Nat) (hne : m ≠ n ∨ m = 0) (w : World) : Calls Tryz.prog 130 #[.slice A m c, .slice B n d] w fun e w' => e = .returned (.int .i64 (if m < n then -1 else if n < m then 1 else 0)) ∧ w = w' := by
  rcases Nat.lt_trichotomy m n with h | h | h
  · have e1 : ((m : Int) != n) = true := by simp; omega
    rw [if_pos h]
    go_enter Tryz.func130, Tryz.ntmps130
    go_wp2_with fail
    go_ret
    exact ⟨rfl, rfl⟩
  · subst h
    obtain rfl : m = 0 := by omega
    go_enter Tryz.func130, Tryz.ntmps130
    go_wp2_with fail
    go_ret
    exact ⟨rfl, rfl⟩
  · have e1 : ((m : Int) != n) = true := by simp; omega
    have e2 : ¬ m < n := by omega
    rw [if_neg e2, if_pos h]
    go_enter Tryz.func130, Tryz.ntmps130
    go_wp2_with fail
    go_ret
    exact ⟨rfl, rfl⟩
theorem below_drewN {B : Nat} {w w' : World} {m : Nat} : Below B w (w'.drewN m) ↔ Below B w w' := by
  have e : ∀ (x : World) (k : Nat), (x.drewN k).heap = x.heap ∧ (x.drewN k).os = x.os ∧ (x.drewN k).tape = x.tape ∧ (x.drewN k).output = x.output := by
    intro x k
    exact ⟨rfl, rfl, rfl, rfl⟩
  obtain ⟨h1, h2, h3, h4⟩ := e w' m
  constructor
  · rintro ⟨a, b, c, d, e⟩
    exact ⟨h2 ▸ a, h3 ▸ b, h4 ▸ c, h1 ▸ d, fun k hk => by rw [← h1]; exact e k hk⟩
  · rintro ⟨a, b, c, d, e⟩
    exact ⟨h2 ▸ a, h3 ▸ b, h4 ▸ c, h1 ▸ d, fun k hk => by rw [h1]; exact e k hk⟩
def CmpAt (a b k : Nat) (s7 : Value) (w0 wr : World) : Prop := ∃ i : Nat, i ≤ k ∧ s7 = .int .i64 i ∧ a / 18446744073709551616 ^ (i + 1) = b / 18446744073709551616 ^ (i + 1) ∧ Below w0.heap.size w0 wr
set_option maxRecDepth 100000 in
set_option maxHeartbeats 1000000 in
theorem cmp_long (a b k g c g2 d : Nat) (ha : wl a = k + 1) (hb : wl b = k + 1) (hk : k ≤ 1000) (w : World) (hx : Row w g c (words a)) (hy : Row w g2 d (words b)) : Calls Tryz.prog 130 #[.slice (some ⟨g, 0, none⟩) (k + 1) c, .slice (some ⟨g2, 0, none⟩) (k + 1) d] w fun e w' => e = .returned (.int .i64 (cmpn a b)) ∧ Below w.heap.size w w' := by
  have e1 : ((k : Int) + 1 != (k : Int) + 1) = false := by simp
  have e0 : ((k : Int) + 1 == 0) = false := by rw [beq_eq_false_iff_ne]; omega
  have kk : (k : Int) ≤ 1000 := by omega
  have k0 : (0 : Int) ≤ k := by omega
  have hT := top_same ha hb
  have HX := Lib.hid (And.intro hx (And.intro hy (And.intro ha (And.intro hb hT))))
  clear hx hy ha hb hT
  go_enter Tryz.func130, Tryz.ntmps130
  go_wp2_with fail
  go_loopw [7] (fun s7 wr => CmpAt a b k s7 w wr) (fun s7 _ => (intOf s7).toNat)
  case atStart => exact ⟨k, Nat.le_refl _, rfl, HX.out.2.2.2.2, Below.refl _ _⟩
  case round =>
    obtain ⟨i, hi, rfl, hT, hB⟩ := hrel
    obtain ⟨hx, hy, ha, hb, _⟩ := HX.out
    have hx := (hx.below hB).cell (words_wd (n := a) (i := i) (by omega))
    have hy := (hy.below hB).cell (words_wd (n := b) (i := i) (by omega))
    have HT := Lib.hid (And.intro hT hB)
    clear hT hB ha hb
    have u0 : (0 : Int) ≤ i := by omega
    have u1 : (i : Int) < (k : Int) + 1 := by omega
    generalize hp : wd a i = p at *
    generalize hq : wd b i = q at *
    have HP := Lib.hid (And.intro hp hq)
    clear hp hq
    rcases Nat.eq_zero_or_pos i with rfl | hi0
    · have d0 : decide ((0 : Int) < ((0 : Nat) : Int)) = false := by decide
      rcases Nat.lt_trichotomy p q with h | h | h
      · go_wp2_with fail
        go_quiet (fail)
        go_wp2_with fail
        go_quiet (fail)
        go_wp2_with fail
        go_ret
        obtain ⟨hp, hq⟩ := HP.out
        exact ⟨ret_int (by unfold cmpn; rw [if_pos (wd_less HT.out.1 (by rw [hp, hq]; exact h))]), (by simpa only [below_drewN] using HT.out.2)⟩
      · subst h
        go_wp2_with fail
        go_quiet (fail)
        go_wp2_with fail
        go_quiet (fail)
        go_wp2_with fail
        go_quiet (fail)
        go_wp2_with fail
        go_ret
        obtain ⟨hp, hq⟩ := HP.out
        have he := next_same HT.out.1 (by rw [hp, hq])
        rw [Nat.pow_zero, Nat.div_one, Nat.div_one] at he
        exact ⟨ret_int (by unfold cmpn; rw [if_neg (by omega), if_neg (by omega)]), (by simpa only [below_drewN] using HT.out.2)⟩
      · have h' : decide (p < q) = false := decide_eq_false (by omega)
        go_wp2_with fail
        go_quiet (fail)
        go_wp2_with fail
        go_quiet (fail)
        go_wp2_with fail
        go_quiet (fail)
        go_wp2_with fail
        go_ret
        obtain ⟨hp, hq⟩ := HP.out
        have hl := wd_less HT.out.1.symm (by rw [hp, hq]; exact h)
        exact ⟨ret_int (by unfold cmpn; rw [if_neg (by omega), if_pos hl]), (by simpa only [below_drewN] using HT.out.2)⟩
    · have d0 : (0 : Int) < i := by omega
      rcases Nat.lt_trichotomy p q with h | h | h
      · have hne : ((p : Int) == q) = false := by rw [beq_eq_false_iff_ne]; omega
        go_wp2_with fail
        go_quiet (fail)
        go_wp2_with fail
        go_quiet (fail)
        go_wp2_with fail
        go_ret
        obtain ⟨hp, hq⟩ := HP.out
        exact ⟨ret_int (by unfold cmpn; rw [if_pos (wd_less HT.out.1 (by rw [hp, hq]; exact h))]), (by simpa only [below_drewN] using HT.out.2)⟩
      · subst h
        go_wp2_with fail
        go_quiet (fail)
        go_wp2_with fail
        go_roundw
        case rel =>
          obtain ⟨hp, hq⟩ := HP.out
          have he := next_same HT.out.1 (by rw [hp, hq])
          exact ⟨i - 1, by omega, by go_num, by rw [show i - 1 + 1 = i by omega]; exact he, (by simpa only [below_drewN] using HT.out.2)⟩
        case measure => simp [intOf]; omega
      · have hne : ((p : Int) == q) = false := by rw [beq_eq_false_iff_ne]; omega
        have h' : decide (p < q) = false := decide_eq_false (by omega)
        go_wp2_with fail
        go_quiet (fail)
        go_wp2_with fail
        go_quiet (fail)
        go_wp2_with fail
        go_quiet (fail)
        go_wp2_with fail
        go_ret
        obtain ⟨hp, hq⟩ := HP.out
        have hl := wd_less HT.out.1.symm (by rw [hp, hq]; exact h)
        exact ⟨ret_int (by unfold cmpn; rw [if_neg (by omega), if_pos hl]), (by simpa only [below_drewN] using HT.out.2)⟩
theorem cmp_call (a b : Nat) (ha : wl a ≤ 900) (A B : Option Addr) (c d : Nat) (w : World) (hx : IsW w (.slice A (wl a) c) (words a)) (hy : IsW w (.slice B (wl b) d) (words b)) : Calls Tryz.prog 130 #[.slice A (wl a) c, .slice B (wl b) d] w fun e w' => e = .returned (.int .i64 (cmpn a b)) ∧ Below w.heap.size w w' := by
  by_cases hne : wl a ≠ wl b ∨ wl a = 0
  · refine (cmp_short (wl a) (wl b) A B c d hne w).mono ?_
    rintro _ _ ⟨rfl, rfl⟩
    refine ⟨ret_int ?_, Below.refl _ _⟩
    unfold cmpn
    rcases Nat.lt_trichotomy (wl a) (wl b) with h | h | h
    · rw [if_pos h, if_pos (cmpn_len h)]
    · have ha0 := wl_zero_iff.1 (show wl a = 0 by omega)
      have hb0 := wl_zero_iff.1 (show wl b = 0 by omega)
      subst ha0 hb0
      simp
    · have := cmpn_len h
      rw [if_neg (by omega), if_pos h, if_neg (by omega), if_pos this]
  · have ha0 : a ≠ 0 := by rintro rfl; rw [wl_zero] at hne; omega
    have hb0 : b ≠ 0 := by rintro rfl; rw [wl_zero] at hne; omega
    obtain ⟨g, rfl, hr⟩ := isw_row hx ha0
    obtain ⟨g2, rfl, hr2⟩ := isw_row hy hb0
    obtain ⟨k, hk⟩ : ∃ k, wl a = k + 1 := ⟨wl a - 1, by omega⟩
    have hkb : wl b = k + 1 := by omega
    rw [hkb]
    rw [hk] at ha ⊢
    exact cmp_long a b k g c g2 d hk hkb (by omega) w hr hr2
theorem ZAt.setNeg {w : World} {g n : Nat} {neg : Bool} (h : ZAt w g 0 neg n) (b : Bool) : ZAt (w.setCell ⟨g, 0, none⟩ (.bool b)) g 0 b n := by
  obtain ⟨cs, T, v, hg, hT, h0, h1, hw'⟩ := h
  have hs : 0 < cs.size := (Array.getElem?_eq_some_iff.1 h0).1
  exact ⟨_, T, v, heap_put hg 0 (.bool b), hT, by simp [hs], by simpa using h1, hw'.setOther hg hT 0 _⟩
set_option maxRecDepth 100000 in
set_option maxHeartbeats 1000000 in
/-- z.Set(x), z being new, another than x. -/
theorem intSet2_call (g g2 o n : Nat) (neg : Bool) (hl : wl n ≤ 1000) (w : World) (h : ZAt w g2 o neg n) (hne : g ≠ g2) (hg : w.heap[g]? = some (.cells #[.bool false, .slice none 0 0] 147 (0, 0))) : Calls Tryz.prog 79 #[.pointer (some ⟨g, 0, none⟩), .pointer (some ⟨g2, o, none⟩)] w fun e w' => e = .returned (.pointer (some ⟨g, 0, none⟩)) ∧ (∃ v, IntAt w' g neg v n ∧ From w.heap.size v) ∧ Off (· = g) w w' := by
  have c0 := (Lib.cell_of_heap hg 0).trans (rfl : _ = some (Value.bool false))
  have c1 := (Lib.cell_of_heap hg 1).trans (rfl : _ = some (Value.slice none 0 0))
  have hgl := (Array.getElem?_eq_some_iff.1 hg).1
  obtain ⟨A, c, hw, x0, x1, y0, y1, hgl2⟩ := h.cells
  have SC := fun w' (hw' : IsW w' (.slice A (wl n) c) (words n)) => set_call (.slice A (wl n) c) (words n) hl w' hw'
  obtain ⟨cs2, T2, v2, hg2, _⟩ := id h
  have hnq := run_neq_ptr_other (P := Tryz.prog) w (a := ⟨g, 0, none⟩) (b := ⟨g2, o, none⟩) Tryz.underlying95 sizeZ (fun e => hne (by injection e)) hg hg2
  have hT : 147 ≠ 166 := by decide
  go_enter Tryz.func79, Tryz.ntmps79
  go_wp2_with fail
  go_region_with (go_at_call 72; refine (SC _ (hw.below (Below.refl _ _).drew)).mono ?_; rintro _ w1 ⟨v1, rfl, hv1, hb1, hf1⟩; obtain ⟨A1, k1, rfl, _⟩ := hv1.form; have hg1 := (hb1.block g hgl).trans hg; have d0 := (Lib.cell_of_heap hg1 0).trans (rfl : _ = some (Value.bool false)); have d1 := (Lib.cell_of_heap hg1 1).trans (rfl : _ = some (Value.slice none 0 0)); have z0 := Lib.frozen_of_heap hg1 0; have z1 := Lib.frozen_of_heap hg1 1; have e0 := (hb1.cell (p := ⟨g2, o, none⟩) hgl2).trans x0)
  all_goals
    have p1 := heap_put hg1 1 (.slice A1 (words n).length k1)
    have q0 := (Lib.cell_of_heap p1 0).trans (rfl : _ = some (Value.bool false))
    have q1 := Lib.frozen_of_heap p1 0
    have r0 : (w1.setCell ⟨g, 1, none⟩ (.slice A1 (words n).length k1)).cell? ⟨g2, o, none⟩ = some (.bool neg) := by
      rw [World.cell?_of_block (Below.heap_setCell w1 ⟨g, 1, none⟩ _ g2 (Ne.symm hne))]
      exact e0
    go_wp2_with fail
    go_ret
    have p2 := heap_put p1 0 (.bool neg)
    refine ⟨rfl, ⟨_, ⟨p2, (hv1.setOther hg1 hT 1 _).setOther p1 hT 0 _⟩, hf1⟩, ?_⟩
    exact ((Off.of (S := (· = g)) (bt (Below.refl _ w).drew hb1 (Nat.le_refl _))).setCell (p := ⟨g, 1, none⟩) (.inl rfl) _).setCell (p := ⟨g, 0, none⟩) (.inl rfl) _
set_option maxRecDepth 100000 in
/-- z.Abs(x), z being new. -/
theorem abs_call (g g2 o n : Nat) (neg : Bool) (hl : wl n ≤ 1000) (w : World) (h : ZAt w g2 o neg n) (hne : g ≠ g2) (hg : Fresh w g) : Calls Tryz.prog 160 #[.pointer (some ⟨g, 0, none⟩), .pointer (some ⟨g2, o, none⟩)] w fun e w' => e = .returned (.pointer (some ⟨g, 0, none⟩)) ∧ (∃ v, IntAt w' g false v n ∧ From w.heap.size v) ∧ Off (· = g) w w' := by
  have SC := intSet2_call g g2 o n neg hl w h hne hg
  clear h hg
  go_enter Tryz.func160, Tryz.ntmps160
  go_wp2_with (go_at_call 79; ((with_reducible refine SC.mono ?_); (rintro _ w1 ⟨rfl, ⟨v1, hz1, hf1⟩, ho1⟩; obtain ⟨A1, c1, hw1, x0, x1, f0, f1, hlt⟩ := hz1.z.cells)))
  go_ret
  exact ⟨rfl, ⟨v1, hz1.setNeg false, hf1⟩, ho1.setCell (p := ⟨g, 0, none⟩) (.inl rfl) _⟩
theorem Row.one (w : World) (x : Int) : Row (w.alloc (.cells #[.int .u64 x] 166)) w.heap.size 1 [x] := by
  refine ⟨_, heap_alloc_new w _, rfl, by simp, fun i y hy => ?_⟩
  have hi : i = 0 := by have := (List.getElem?_eq_some_iff.1 hy).1; simp at this; omega
  subst hi
  simpa using hy
theorem words_1 : words 1 = [((1 : Nat) : Int)] := words_one (by omega) (by omega)
theorem wl_1 : wl 1 = 1 := by unfold wl; rw [words_1]; rfl
theorem isw_one {w : World} {g : Nat} (h : Row w g 1 [(1 : Int)]) : IsW w (.slice (some ⟨g, 0, none⟩) 1 1) (words 1) := by rw [words_1]; exact .inr ⟨g, 1, rfl, h⟩
set_option maxRecDepth 100000 in
theorem natOne_call (w : World) : Calls Tryz.prog 144 #[] w fun e w' => e = .returned (.slice (some ⟨w.heap.size, 0, none⟩) 1 1) ∧ w' = w.alloc (.cells #[.int .u64 1] 166) := by
  go_enter Tryz.func144, Tryz.ntmps144
  go_wp2_with fail
  go_ret
  exact ⟨rfl, rfl⟩
/-- A new Int. -/
def NewZ (w : World) (neg : Bool) (n : Nat) (e : Ending) (w' : World) : Prop := ∃ g v, e = .returned (.pointer (some ⟨g, 0, none⟩)) ∧ w.heap.size ≤ g ∧ IntAt w' g neg v n ∧ Below w.heap.size w w'
set_option maxRecDepth 100000 in
theorem intOne_call (w : World) : Calls Tryz.prog 132 #[] w (NewZ w false 1) := by
  go_enter Tryz.func132, Tryz.ntmps132
  go_wp2_with (go_at_call 144; ((with_reducible refine (natOne_call _).mono ?_); (rintro _ w1 ⟨rfl, rfl⟩)))
  go_ret
  have h1 := isw_one (Row.one w 1)
  have k := heap_alloc_new (w.alloc (.cells #[.int .u64 1] 166)) (.cells #[.bool false, .slice (some ⟨w.heap.size, 0, none⟩) 1 1] 147)
  refine ⟨_, _, rfl, ?_, ⟨by simpa using k, h1.below ((Below.refl _ _).alloc (Nat.le_refl _) _)⟩, ((Below.refl _ _).alloc (Nat.le_refl _) _).alloc (by simp) _⟩
  simp
set_option maxRecDepth 100000 in
theorem newInt_call (w : World) : Calls Tryz.prog 146 #[.int .i64 0] w fun e w' => e = .returned (.pointer (some ⟨w.heap.size, 0, none⟩)) ∧ w' = w.alloc (.cells #[.bool false, .slice none 0 0] 147) := by
  go_enter Tryz.func146, Tryz.ntmps146
  go_wp2_with fail
  go_ret
  exact ⟨rfl, rfl⟩
end Go.Proofs.YtodipcgilgigbaaGreatDoor.V
