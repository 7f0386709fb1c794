/- the law: FnMathFabs -/
import Derived.Test.YthabnggoidhfeaaGreatDoorW2
namespace Go.Proofs.YthabnggoidhfeaaGreatDoor
open Go Go.RowKit

theorem read_nan (x : Nat) (h : 9218868437227405312 < x % 9223372036854775808) : ∃ s k, FloatKind.f64.format.read x = .nan s k := by
  have e1 : (Ieee.Format.signWeight FloatKind.f64.format) = 9223372036854775808 := by decide +kernel
  have e2 : (Ieee.Format.binade FloatKind.f64.format) = 4503599627370496 := by decide +kernel
  have e3 : (Ieee.Format.infRung FloatKind.f64.format) = 9218868437227405312 := by decide +kernel
  refine ⟨x / 9223372036854775808 % 2 == 1, x % 9223372036854775808 - 9218868437227405312, ?_⟩
  unfold Ieee.Format.read
  simp only [e1, e2, e3]
  rw [if_neg (by omega), if_neg (by omega), if_neg (by omega)]
theorem cut_nan (a c t : Nat) : 9218868437227405312 < (Question.nanBits .f64 a c).cut t % 9223372036854775808 := by
  simp only [Question.cut, Nat.reducePow, Nat.reduceSub]
  have hk : t / 2 % 4503599627370495 < 4503599627370495 := Nat.mod_lt _ (by omega)
  generalize t / 2 % 4503599627370495 = k at hk
  rcases Nat.mod_two_eq_zero_or_one t with h | h <;> rw [h] <;> omega
theorem order_nan (a c t : Nat) : FloatKind.f64.format.order ((Question.nanBits .f64 a c).cut t) ((Question.nanBits .f64 a c).cut t) = none := by
  obtain ⟨s, k, hk⟩ := read_nan _ (cut_nan a c t)
  unfold Ieee.Format.order
  rw [hk]
  rfl

/-- isFloat answers true here: the answer is the number itself, or there is none asked for. -/
def Fine (v f : Nat) : Prop := v = f ∨ (FloatKind.f64.format.order f f != some .eq) = true

set_option maxRecDepth 100000 in
theorem isFloat_nan (v : Nat) (f : Nat) (w : World) (h : (FloatKind.f64.format.order f f != some .eq) = true) : Calls Tryz.prog 6 #[floatVal v, .bool true, .float .f64 f] w fun e w' => e = .returned (.bool true) ∧ Below w.heap.size w w' := by
  unfold floatVal
  go_enter Tryz.func6, Tryz.ntmps6
  go_wp2
  go_ret
  exact ⟨rfl, (Below.refl _ _).alloc (Nat.le_refl _) _⟩
set_option maxRecDepth 100000 in
theorem isFloat_same (f : Nat) (w : World) (h : (FloatKind.f64.format.order f f != some .eq) = false) : Calls Tryz.prog 6 #[floatVal f, .bool true, .float .f64 f] w fun e w' => e = .returned (.bool true) ∧ Below w.heap.size w w' := by
  have hb := run_bits
  unfold floatVal
  go_enter Tryz.func6, Tryz.ntmps6
  go_wp2
  go_quiet (fail)
  go_wp2
  go_ret
  exact ⟨rfl, below_drewN ((Below.refl _ _).alloc (Nat.le_refl _) _) _⟩
theorem isFloat_fine (v f : Nat) (w : World) (h : Fine v f) : Calls Tryz.prog 6 #[floatVal v, .bool true, .float .f64 f] w fun e w' => e = .returned (.bool true) ∧ Below w.heap.size w w' := by
  cases hn : (FloatKind.f64.format.order f f != some .eq) with
  | true => exact isFloat_nan v f w hn
  | false =>
    rcases h with rfl | h
    · exact isFloat_same v w hn
    · rw [hn] at h; cases h

theorem abs_any (n : Nat) (w : World) : Calls Tryz.prog 7 #[.float .f64 n] w fun e w' => e = .returned (.float .f64 (absBits n)) ∧ w = w' := by
  have h := run_bits
  have h' := run_frombits
  unfold absBits
  go_enter Tryz.func7, Tryz.ntmps7
  go_wp2
  go_ret
  exact ⟨rfl, rfl⟩
theorem sqrt_some (n r : Nat) (w : World) (hr : FloatKind.f64.format.sqrt n = some r) : Calls Tryz.prog 8 #[.float .f64 n] w fun e w' => e = .returned (.float .f64 r) ∧ w = w' := by
  have h' := run_sqrt_some n r hr
  clear hr
  go_enter Tryz.func8, Tryz.ntmps8
  go_wp2
  go_ret
  exact ⟨rfl, rfl⟩
theorem sqrt_none (n : Nat) (w : World) (hr : FloatKind.f64.format.sqrt n = none) : Calls Tryz.prog 8 #[.float .f64 n] w fun e w' => e = .returned (.float .f64 ((Question.nanBits .f64 n n).cut (w.tape w.drawn (.nanBits .f64 n n)))) ∧ w.drew = w' := by
  have h' := run_sqrt_none n hr
  clear hr
  go_enter Tryz.func8, Tryz.ntmps8
  go_wp2
  go_ret
  exact ⟨rfl, rfl⟩
/-- The square root that the law takes is fine beside any that is the square root. -/
theorem sqrt_fine (n v : Nat) (hv : SqrtIs n v) (w : World) : Calls Tryz.prog 8 #[.float .f64 n] w fun e w' => ∃ f, e = .returned (.float .f64 f) ∧ Fine v f ∧ Below w.heap.size w w' := by
  cases h : FloatKind.f64.format.sqrt n with
  | some r => exact (sqrt_some n r w h).mono fun e w' ⟨he, hw⟩ => ⟨r, he, Or.inl (hv r h), hw ▸ Below.refl _ _⟩
  | none => exact (sqrt_none n w h).mono fun e w' ⟨he, hw⟩ => ⟨_, he, Or.inr (by rw [order_nan]; rfl), hw ▸ (Below.refl _ _).drew⟩

set_option maxHeartbeats 2000000 in
set_option maxRecDepth 100000 in
theorem law (n : Nat) (w : World) : Calls Tryz.prog 3 #[.int .u64 n] w fun e w' => e = .returned (.bool true) ∧ Below w.heap.size w w' := by
  have h' := run_frombits
  go_enter Tryz.func3, Tryz.ntmps3
  go_wp2_with fail
  refine (mathOne_fabs _ _).mono ?_
  rintro e w1 ⟨rfl, hb1⟩
  unfold floatVal
  obtain ⟨hc1, hf1⟩ := bcell hb1
  have v0 : w1.cell? ⟨w.heap.size, 0, none⟩ = some (.int .i64 3) := (hc1 _ 0 (by simp)).trans (World.cell?_alloc_new ..)
  have v1 : w1.cell? ⟨w.heap.size, 1, none⟩ = some (.bool false) := (hc1 _ 1 (by simp)).trans (World.cell?_alloc_new ..)
  have v2 : w1.cell? ⟨w.heap.size, 2, none⟩ = some (.slice none 0 0) := (hc1 _ 2 (by simp)).trans (World.cell?_alloc_new ..)
  have v3 : w1.cell? ⟨w.heap.size, 3, none⟩ = some (.int .u64 n) := (hc1 _ 3 (by simp)).trans (World.cell?_alloc_new ..)
  have v4 : w1.cell? ⟨w.heap.size, 4, none⟩ = some (.string ⟨#[]⟩) := (hc1 _ 4 (by simp)).trans (World.cell?_alloc_new ..)
  have v5 : w1.cell? ⟨w.heap.size, 5, none⟩ = some (.slice none 0 0) := (hc1 _ 5 (by simp)).trans (World.cell?_alloc_new ..)
  have hz1 : w.heap.size < w1.heap.size := by have := hb1.size; simp at this; omega
  clear hc1 hf1
  go_wp2_with fail
  refine (mathOne_sqrt _ _).mono ?_
  rintro e w2 ⟨r, rfl, hr, hb2⟩
  unfold floatVal
  obtain ⟨hc2, hf2⟩ := bcell hb2
  have u0 : w2.cell? ⟨w1.heap.size, 0, none⟩ = some (.int .i64 3) := (hc2 _ 0 (by simp)).trans (World.cell?_alloc_new ..)
  have u1 : w2.cell? ⟨w1.heap.size, 1, none⟩ = some (.bool false) := (hc2 _ 1 (by simp)).trans (World.cell?_alloc_new ..)
  have u2 : w2.cell? ⟨w1.heap.size, 2, none⟩ = some (.slice none 0 0) := (hc2 _ 2 (by simp)).trans (World.cell?_alloc_new ..)
  have u3 : w2.cell? ⟨w1.heap.size, 3, none⟩ = some (.int .u64 (absBits n)) := (hc2 _ 3 (by simp)).trans (World.cell?_alloc_new ..)
  have u4 : w2.cell? ⟨w1.heap.size, 4, none⟩ = some (.string ⟨#[]⟩) := (hc2 _ 4 (by simp)).trans (World.cell?_alloc_new ..)
  have u5 : w2.cell? ⟨w1.heap.size, 5, none⟩ = some (.slice none 0 0) := (hc2 _ 5 (by simp)).trans (World.cell?_alloc_new ..)
  have hz2 : w1.heap.size < w2.heap.size := by have := hb2.size; simp at this; omega
  have hB2 : Below w.heap.size w w2 := (((Below.refl _ _).alloc (Nat.le_refl _) _).trans (hb1.mono (by simp))).alloc (by omega) _ |>.trans (hb2.mono (by simp; omega))
  clear hc2 hf2 v0 v1 v2 v3 v4 v5 hb1 hb2 h'
  go_wp2_with fail
  go_region_with (first
    | (go_at_call 7; refine (abs_any _ _).mono ?_; rintro e w3 ⟨rfl, rfl⟩)
    | (go_at_call 8; refine (sqrt_fine _ _ hr _).mono ?_; rintro e w3 ⟨f, rfl, hfine, hb3⟩; obtain ⟨hc3, hf3⟩ := bcell hb3; have hz3 : w2.heap.size < w3.heap.size := (by have := hb3.size; (try simp at this); omega); have hB3 : Below w.heap.size w w3 := (by first | exact hB3.trans (hb3.mono (by omega)) | exact ((hB2.alloc (by omega) _).drew).trans (hb3.mono (by simp; omega))); clear hb3)
    | (go_at_call 6; refine (isFloat_fine _ _ _ (by first | exact Or.inl rfl | assumption)).mono ?_; rintro e w3 ⟨rfl, hb3⟩; obtain ⟨hc3, hf3⟩ := bcell hb3; have hz3 : w2.heap.size < w3.heap.size := (by have := hb3.size; (try simp at this); omega); have hB3 : Below w.heap.size w w3 := (by first | exact hB3.trans (hb3.mono (by omega)) | exact ((hB2.alloc (by omega) _).drew).trans (hb3.mono (by simp; omega))); clear hb3))
  all_goals
    go_wp2
    go_ret
    exact ⟨rfl, hB3⟩
end Go.Proofs.YthabnggoidhfeaaGreatDoor
