/- The walk of fixedWidthFloat. -/
import Derived.Test.YtgjfjbghdpcllaaGreatDoorW2
namespace Go.Proofs.YtgjfjbghdpcllaaGreatDoor
open Go Go.RowKit U

theorem and1 (u : Nat) (h : u < 18446744073709551616) : bits .and .u64 (u : Int) 1 = ((u % 2 : Nat) : Int) := by
  have e := u64_and_nat u 1 h (by decide)
  rw [show ((1 : Nat) : Int) = 1 from rfl, Nat.and_one_is_mod] at e
  exact e
theorem log10_any (e : Int) (w : World) (he0 : -2000 ≤ e) (he1 : e ≤ 2000) : Calls Tryz.prog 64 #[.int .i64 e] w fun r w' => r = .returned (.int .i64 (lg e)) ∧ w = w' := by
  go_enter Tryz.func64, Tryz.ntmps64
  go_wp2
  go_ret
  exact ⟨rfl, rfl⟩
theorem log2_any (e : Int) (w : World) (he0 : -2000 ≤ e) (he1 : e ≤ 2000) : Calls Tryz.prog 75 #[.int .i64 e] w fun r w' => r = .returned (.int .i64 (lp e)) ∧ w = w' := by
  go_enter Tryz.func75, Tryz.ntmps75
  go_wp2
  go_ret
  exact ⟨rfl, rfl⟩
theorem unmin_any (w : World) : Calls Tryz.prog 83 #[.int .u64 10000000] w fun r w' => r = .returned (.int .u64 39999998) ∧ w = w' := by
  go_enter Tryz.func83, Tryz.ntmps83
  go_wp2
  go_ret
  exact ⟨rfl, rfl⟩
theorem round_walk (u b R : Int) (w : World) (h1 : bits .and .u64 (u / 4) 1 = b) (h2 : IntKind.u64.wrap (IntKind.u64.wrap (u + 1) + b) / 4 = R) : Calls Tryz.prog 80 #[.int .u64 u] w fun r w' => r = .returned (.int .u64 R) ∧ w = w' := by
  go_enter Tryz.func80, Tryz.ntmps80
  go_wp2
  go_ret
  exact ⟨rfl, rfl⟩
theorem round_any (u : Nat) (h : u < 9223372036854775808) (w : World) : Calls Tryz.prog 80 #[.int .u64 u] w fun r w' => r = .returned (.int .u64 (rnd u : Nat)) ∧ w = w' := by
  refine round_walk u ((u / 4 % 2 : Nat) : Int) _ w (and1 (u / 4) (by omega)) ?_
  unfold rnd
  rw [u64_wrap, u64_wrap]
  omega
set_option maxRecDepth 100000 in
theorem div_walk (u q a o b R : Int) (w : World) (h1 : IntKind.u64.wrap (u.tdiv 10) = q) (h2 : bits .and .u64 u 1 = a) (h3 : bits .or .u64 q a = o) (h4 : (if (u.tmod 10 != 0) = true then (1 : Int) else 0) = b) (h5 : bits .or .u64 o b = R) :
    Calls Tryz.prog 84 #[.int .u64 u, .int .u64 10] w fun e w' => e = .returned (.int .u64 R) ∧ ∃ n, w' = w.drewN n := by
  have B := bool2_un (u.tmod 10 != 0)
  rw [h4] at B
  clear h4
  go_enter Tryz.func84, Tryz.ntmps84
  go_wp2_with fail
  go_quiet ((go_at_call 95; refine Calls.quiet_of_same ((B _).mono (fun _ _ h => ⟨h.1, h.2.symm⟩))))
  go_wp2
  go_ret
  exact ⟨rfl, _, rfl⟩
/-- (unrounded).div by ten. -/
theorem div_any (u : Nat) (hu : u < 18446744073709551616) (w : World) : Calls Tryz.prog 84 #[.int .u64 u, .int .u64 10] w fun e w' => e = .returned (.int .u64 (dv u : Nat)) ∧ ∃ n, w' = w.drewN n := by
  have h10 : u / 10 < 18446744073709551616 := by omega
  have hor : u / 10 ||| u % 2 < 18446744073709551616 := Nat.or_lt_two_pow (n := 64) h10 (by omega)
  refine div_walk u ((u / 10 : Nat) : Int) ((u % 2 : Nat) : Int) ((u / 10 ||| u % 2 : Nat) : Int) ((if u % 10 = 0 then 0 else 1 : Nat) : Int) _ w ?_ (and1 u hu) (or_nat (u / 10) (u % 2) h10 (by omega)) ?_ (or_nat (u / 10 ||| u % 2) (if u % 10 = 0 then 0 else 1) hor (by split <;> decide))
  · rw [Int.tdiv_eq_ediv_of_nonneg (by omega), u64_wrap]; omega
  · rw [Int.tmod_eq_emod_of_nonneg (by omega)]
    by_cases h : u % 10 = 0
    · rw [if_pos h, if_neg (by simp; omega)]; rfl
    · rw [if_neg h, if_pos (by simp; omega)]; rfl
set_option maxRecDepth 100000 in
theorem prescale_any (e P l : Int) (hi lo s : Int) (w : World) (hz : 4 < w.heap.size) (he0 : -2000 ≤ e) (he1 : e ≤ 2000) (hP0 : -348 ≤ P) (hP1 : P < 348) (hl0 : -2000 ≤ l) (hl1 : l ≤ 2000)
    (t0 : w.cell? ⟨4, (P + 348).toNat * 2, none⟩ = some (.int .u64 hi)) (t1 : w.cell? ⟨4, (P + 348).toNat * 2 + 1, none⟩ = some (.int .u64 lo)) (hs : -(e + l + 3) = s) :
    Calls Tryz.prog 74 #[.pointer (some ⟨w.heap.size, 0, none⟩), .int .i64 e, .int .i64 P, .int .i64 l] (w.alloc (.cells #[.int .u64 0, .int .u64 0, .int .i64 0] 105)) fun r w' => r = .returned (.tuple #[]) ∧ w.alloc (.cells #[.int .u64 hi, .int .u64 lo, .int .i64 s] 105) = w' := by
  have hz4 : 4 < w.heap.size := by omega
  have hne : ¬ (4 = w.heap.size) := by omega
  have hne' : ¬ (w.heap.size = 4) := by omega
  clear hz
  go_enter Tryz.func74, Tryz.ntmps74
  go_wp2
  go_end0
  exact ⟨rfl, rfl⟩
set_option maxRecDepth 100000 in
theorem fwf_lo (x hi lo s u : Nat) (e P c : Int) (w : World) (he0 : -2000 ≤ e) (he1 : e ≤ 1900) (hc : (c == 102) = false) (hz : 4 < w.heap.size)
    (t7 : w.cell? ⟨3, 7, none⟩ = some (.int .u64 10000000))
    (hP0 : -348 ≤ P) (hP1 : P < 348) (hP : lg (e + 63) = 6 - P)
    (t0 : w.cell? ⟨4, (P + 348).toNat * 2, none⟩ = some (.int .u64 hi)) (t1 : w.cell? ⟨4, (P + 348).toNat * 2 + 1, none⟩ = some (.int .u64 lo))
    (hl0 : -2000 ≤ lp P) (hl1 : lp P ≤ 2000) (hs : -(e + lp P + 3) = s)
    (U : ∀ (g : Nat) (w : World), w.cell? ⟨g, 0, none⟩ = some (.int .u64 hi) → w.cell? ⟨g, 1, none⟩ = some (.int .u64 lo) → w.cell? ⟨g, 2, none⟩ = some (.int .i64 s) →
      Calls Tryz.prog 76 #[.int .u64 x, .pointer (some ⟨g, 0, none⟩)] w fun e w' => e = .returned (.int .u64 u) ∧ ∃ n, w' = w.drewN n)
    (hu : u < 39999998) :
    Calls Tryz.prog 65 #[.int .u64 x, .int .i64 e, .int .i64 7, .int .i64 6, .int .u8 c] w fun e w' => e = .returned (.tuple #[.int .u64 (rnd u : Nat), .int .i64 (-P)]) ∧ Below w.heap.size w w' := by
  have L1 := fun w => log10_any (e + 63) w (by omega) (by omega)
  have L2 := fun w => log2_any P w (by omega) (by omega)
  rw [hP] at L1
  have P1 := prescale_any e P (lp P) hi lo s w hz he0 (by omega) hP0 hP1 hl0 hl1 t0 t1 hs
  have R1 := round_any u (by omega)
  have hk : 6 - (6 - P) = P := by omega
  have hz3 : 3 < w.heap.size := by omega
  have HU := Lib.hid hu
  clear hP hs hl0 hl1 t0 t1 hz hu
  go_enter Tryz.func65, Tryz.ntmps65
  go_wp2_with fail
  refine (L1 _).mono ?_; rintro _ w1 ⟨rfl, rfl⟩
  go_wp2_with fail
  refine (L2 _).mono ?_; rintro _ w1 ⟨rfl, rfl⟩
  go_wp2_with fail
  refine P1.mono ?_; rintro _ w1 ⟨rfl, rfl⟩
  go_wp2_with fail
  refine (U _ _ (World.cell?_alloc_new ..) (World.cell?_alloc_new ..) (World.cell?_alloc_new ..)).mono ?_; rintro _ w1 ⟨rfl, n1, rfl⟩
  go_wp2_with fail
  refine (unmin_any _).mono ?_; rintro _ w1 ⟨rfl, rfl⟩
  have hd : ((u : Int) ≥ 39999998) = False := by have := HU.out; simp; omega
  go_wp2_with fail
  refine (R1 _).mono ?_; rintro _ w1 ⟨rfl, rfl⟩
  go_wp2_with fail
  go_ret2
  exact ⟨rfl, below_drewN ((Below.refl _ _).alloc (Nat.le_refl _) _) _⟩
set_option maxRecDepth 100000 in
theorem fwf_hi (x hi lo s u : Nat) (e P c : Int) (w : World) (he0 : -2000 ≤ e) (he1 : e ≤ 1900) (hc : (c == 102) = false) (hz : 4 < w.heap.size)
    (t7 : w.cell? ⟨3, 7, none⟩ = some (.int .u64 10000000))
    (hP0 : -348 ≤ P) (hP1 : P < 348) (hP : lg (e + 63) = 6 - P)
    (t0 : w.cell? ⟨4, (P + 348).toNat * 2, none⟩ = some (.int .u64 hi)) (t1 : w.cell? ⟨4, (P + 348).toNat * 2 + 1, none⟩ = some (.int .u64 lo))
    (hl0 : -2000 ≤ lp P) (hl1 : lp P ≤ 2000) (hs : -(e + lp P + 3) = s)
    (U : ∀ (g : Nat) (w : World), w.cell? ⟨g, 0, none⟩ = some (.int .u64 hi) → w.cell? ⟨g, 1, none⟩ = some (.int .u64 lo) → w.cell? ⟨g, 2, none⟩ = some (.int .i64 s) →
      Calls Tryz.prog 76 #[.int .u64 x, .pointer (some ⟨g, 0, none⟩)] w fun e w' => e = .returned (.int .u64 u) ∧ ∃ n, w' = w.drewN n)
    (hu : 39999998 ≤ u) (hu2 : u < 18446744073709551616) :
    Calls Tryz.prog 65 #[.int .u64 x, .int .i64 e, .int .i64 7, .int .i64 6, .int .u8 c] w fun e w' => e = .returned (.tuple #[.int .u64 (rnd (dv u) : Nat), .int .i64 (-(P - 1))]) ∧ Below w.heap.size w w' := by
  have L1 := fun w => log10_any (e + 63) w (by omega) (by omega)
  have L2 := fun w => log2_any P w (by omega) (by omega)
  rw [hP] at L1
  have P1 := prescale_any e P (lp P) hi lo s w hz he0 (by omega) hP0 hP1 hl0 hl1 t0 t1 hs
  have D1 := div_any u hu2
  have hdv : dv u < 9223372036854775808 := by
    unfold dv
    exact Nat.or_lt_two_pow (n := 63) (Nat.or_lt_two_pow (n := 63) (by omega) (by omega)) (by split <;> omega)
  have R1 := round_any (dv u) hdv
  have hk : 6 - (6 - P) = P := by omega
  have hz3 : 3 < w.heap.size := by omega
  have HU := Lib.hid hu
  clear hP hs hl0 hl1 t0 t1 hz hu hu2 hdv
  go_enter Tryz.func65, Tryz.ntmps65
  go_wp2_with fail
  refine (L1 _).mono ?_; rintro _ w1 ⟨rfl, rfl⟩
  go_wp2_with fail
  refine (L2 _).mono ?_; rintro _ w1 ⟨rfl, rfl⟩
  go_wp2_with fail
  refine P1.mono ?_; rintro _ w1 ⟨rfl, rfl⟩
  go_wp2_with fail
  refine (U _ _ (World.cell?_alloc_new ..) (World.cell?_alloc_new ..) (World.cell?_alloc_new ..)).mono ?_; rintro _ w1 ⟨rfl, n1, rfl⟩
  go_wp2_with fail
  refine (unmin_any _).mono ?_; rintro _ w1 ⟨rfl, rfl⟩
  have hd : ((u : Int) ≥ 39999998) = True := by have := HU.out; simp; omega
  go_wp2_with fail
  refine (D1 _).mono ?_; rintro _ w1 ⟨rfl, n2, rfl⟩
  go_wp2_with fail
  refine (R1 _).mono ?_; rintro _ w1 ⟨rfl, rfl⟩
  go_wp2_with fail
  go_ret2
  refine ⟨rfl, ?_⟩
  repeat (first | exact (Below.refl _ _).alloc (Nat.le_refl _) _ | refine below_drewN ?_ _)
end Go.Proofs.YtgjfjbghdpcllaaGreatDoor
