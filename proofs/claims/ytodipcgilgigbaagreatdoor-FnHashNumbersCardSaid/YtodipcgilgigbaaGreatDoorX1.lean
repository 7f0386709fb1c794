/- Words divided by words: bits.Sub, bitsDiv64, reciprocalWord, divWW. -/
import Derived.Test.YtodipcgilgigbaaGreatDoorVX
import Derived.Test.YtodipcgilgigbaaGreatDoorN6
import Derived.Shelf.Spec.BitsCarry
import Derived.Outline
set_option linter.unusedVariables false
namespace Go.Proofs.YtodipcgilgigbaaGreatDoor.V
open Go Go.RowKit Go.Proofs.YtodipcgilgigbaaGreatDoor.I

theorem run_sub (x y b : Nat) (hb : b ≤ 1) (w : World) : (callFunc 198 #[.int .u64 x, .int .u64 y, .int .u64 b]).run Tryz.prog w = .ok (.value (.tuple #[.int .u64 (((x + 18446744073709551616 - y - b) % 18446744073709551616 : Nat) : Int), .int .u64 ((if x < y + b then 1 else 0 : Nat) : Int)])) w := by
  rw [run_callFunc_extern (e := sub64Entry) Tryz.func198 (by kernel_rfl) (by kernel_rfl) (by kernel_rfl) (by kernel_rfl), run_sub64 x y b hb]
  rfl
set_option maxRecDepth 100000 in
theorem bsub_call (x y b s c : Nat) (hb : b ≤ 1) (hs : s = (x + 18446744073709551616 - y - b) % 18446744073709551616) (hc : c = if x < y + b then 1 else 0) (w : World) : Calls Tryz.prog 193 #[.int .u64 x, .int .u64 y, .int .u64 b] w fun e w' => e = .returned (.tuple #[.int .u64 s, .int .u64 c]) ∧ w = w' := by
  have h := run_sub x y b hb
  rw [← hs, ← hc] at h
  clear hs hc
  go_enter Tryz.func193, Tryz.ntmps193
  go_wp2
  go_ret2
  exact ⟨rfl, rfl⟩
set_option maxRecDepth 100000 in
theorem div64_low (lo y : Int) (h0 : 0 ≤ lo) (h1 : lo < 18446744073709551616) (hy : 0 < y) (hy1 : y < 18446744073709551616) (w : World) :
    Calls Tryz.prog 194 #[.int .u64 0, .int .u64 lo, .int .u64 y] w fun e w' => e = .returned (.tuple #[.int .u64 (lo / y), .int .u64 (lo % y)]) ∧ Below w.heap.size w w' := by
  have y0 : (y == 0) = false := by rw [beq_eq_false_iff_ne]; omega
  go_enter Tryz.func194, Tryz.ntmps194
  go_wp2_with fail
  go_quiet (fail)
  go_wp2_with fail
  go_ret2
  exact ⟨rfl, drewn_below _ _⟩
theorem lz_top (y : Int) (h : 9223372036854775808 ≤ y) (h1 : y < 18446744073709551616) (w : World) : Calls Tryz.prog 199 #[.int .u64 y] w fun e w' => e = .returned (.int .i64 0) ∧ w = w' := by
  obtain ⟨x, rfl⟩ := Int.eq_ofNat_of_zero_le (show 0 ≤ y by omega)
  refine (Tryz.bits_LeadingZeros64 _ _ (by omega) (by omega)).mono ?_
  rintro _ w1 ⟨rfl, rfl⟩
  have hb := (Nat.le_log2 (show x ≠ 0 by omega)).2 (show 2 ^ 63 ≤ x by omega)
  have hb2 := bl_le 64 (show x < 2 ^ 64 by omega)
  have hb3 : bl x = 64 := by unfold bl at *; rw [if_neg (by omega)] at *; omega
  rw [Int.toNat_natCast, bitLen_is (by omega), hb3]
  exact ⟨rfl, rfl⟩
theorem wrapu_emod (x : Int) : IntKind.u64.wrap x = x % 18446744073709551616 := by
  rfl
theorem wrapu_in {x : Int} (h0 : 0 ≤ x) (h1 : x < 18446744073709551616) : IntKind.u64.wrap x = x := by
  obtain ⟨n, rfl⟩ := Int.eq_ofNat_of_zero_le h0
  rw [wrapu_nat, Nat.mod_eq_of_lt (by omega)]
theorem mul_lt_u {q b : Int} (h0 : 0 ≤ q) (h1 : q ≤ 4294967297) (b0 : 0 ≤ b) (b1 : b < 4294967296) : 0 ≤ q * b ∧ q * b < 18446744073709551616 := by
  refine ⟨Int.mul_nonneg h0 b0, ?_⟩
  have a : q * b ≤ 4294967297 * b := Int.mul_le_mul_of_nonneg_right h1 b0
  omega
theorem wrap_low (u y a b : Int) (hy : 0 < y) (hy1 : y < 18446744073709551616) (hu : 0 ≤ u) (he : u = a + b) : IntKind.u64.wrap (IntKind.u64.wrap (IntKind.u64.wrap a + b) - IntKind.u64.wrap (u / y * y)) = u % y := by
  have e := Int.mul_ediv_add_emod u y
  have r0 := Int.emod_nonneg u (show y ≠ 0 by omega)
  have r1 := Int.emod_lt_of_pos u hy
  rw [Int.mul_comm] at e
  simp only [wrapu_emod]
  generalize u / y * y = c at *
  generalize u % y = r at *
  omega
theorem quo_low {u y y1 y0 u1 : Int} (d : Dg u y y1 y0 u1) : 0 ≤ (u * 4294967296 + u1) / y ∧ (u * 4294967296 + u1) / y < 4294967296 := by
  obtain ⟨hy, a0, a1, b0, b1, u0, uy, c0, c1⟩ := d
  refine ⟨Int.ediv_nonneg (by omega) (by omega), Int.ediv_lt_of_lt_mul (by omega) ?_⟩
  omega
theorem mul_part {u b : Int} (h0 : 0 ≤ u) (hb : 0 < b) (h1 : u < 18446744073709551616) : IntKind.u64.wrap (u / b * b) = u / b * b ∧ u - u / b * b = u % b ∧ 0 ≤ u / b * b ∧ u / b * b ≤ u := by
  have e := Int.mul_ediv_add_emod u b
  have r0 := Int.emod_nonneg u (show b ≠ 0 by omega)
  have q0 := Int.mul_nonneg (Int.ediv_nonneg h0 (Int.le_of_lt hb)) (Int.le_of_lt hb)
  rw [Int.mul_comm] at e
  generalize u / b * b = c at *
  exact ⟨wrapu_in (by omega) (by omega), by omega, by omega, by omega⟩
theorem and32 {x : Int} (h0 : 0 ≤ x) (h1 : x < 18446744073709551616) : bits .and .u64 x 4294967295 = x % 4294967296 := by
  obtain ⟨n, rfl⟩ := Int.eq_ofNat_of_zero_le h0
  have := u64_and_nat n 4294967295 (by omega) (by omega)
  rw [show ((4294967295 : Nat) : Int) = 4294967295 from rfl] at this
  rw [this, show (4294967295 : Nat) = 2 ^ 32 - 1 from rfl, Nat.and_two_pow_sub_one_eq_mod]
  omega
theorem or_nought {x l : Int} (h0 : 0 ≤ x) (h1 : x < 18446744073709551616) (l0 : 0 ≤ l) (l1 : l < 18446744073709551616) : bits .or .u64 x (l / 18446744073709551616) = x := by
  obtain ⟨n, rfl⟩ := Int.eq_ofNat_of_zero_le h0
  rw [show l / 18446744073709551616 = ((0 : Nat) : Int) by omega, u64_or_nat n 0 (by omega) (by omega), Nat.or_zero]
/-- The rounds of one digit. -/
theorem gs_P {u y y1 y0 u1 q rh : Int} (d : Dg u y y1 y0 u1) (g : Gs u y y1 y0 u1 q rh) : ∃ P, IntKind.u64.wrap (q * y0) = P ∧ 0 ≤ P ∧ P < 18446744073709551616 ∧ q * y0 = P := by
  have h := mul_lt_u g.q0 g.q1 d.a0 d.a1
  exact ⟨_, wrapu_in h.1 h.2, h.1, h.2, rfl⟩
set_option maxRecDepth 100000 in
set_option maxHeartbeats 2000000 in
theorem div64_walk (hi lo y y1 y0 u1 u0 Q r Q2 r2 : Int) (m rh m' rh' : Int) (D1 : Hid (Dg hi y y1 y0 u1 ∧ (hi * 4294967296 + u1) / y = Q ∧ Gs hi y y1 y0 u1 (hi / y1) rh)) (D2 : Hid (Dg r y y1 y0 u0 ∧ (hi * 4294967296 + u1) % y = r ∧ Gs r y y1 y0 u0 (r / y1) rh' ∧ (r * 4294967296 + u0) / y = Q2)) (h0 : 0 ≤ hi) (h1 : hi < y) (l0 : 0 ≤ lo) (l1 : lo < 18446744073709551616) (hy : 9223372036854775808 ≤ y) (hy1 : y < 18446744073709551616) (hp : (hi == 0) = false) (w : World)
    (ey1 : y / 4294967296 = y1) (ey0 : bits .and .u64 y 4294967295 = y0) (eu1 : lo / 4294967296 = u1) (eu0 : bits .and .u64 lo 4294967295 = u0) (eu : bits .or .u64 hi (lo / 18446744073709551616) = hi)
    (b1 : 0 < y1) (em : IntKind.u64.wrap (hi / y1 * y1) = m) (er : hi - m = rh) (b2 : 0 ≤ hi / y1) (b3 : hi / y1 ≤ 4294967297) (b4 : 0 ≤ rh) (b5 : rh < 4294967296) (b6 : 0 ≤ m) (b7 : m ≤ hi)
    (em' : IntKind.u64.wrap (r / y1 * y1) = m') (er' : r - m' = rh') (b2' : 0 ≤ r / y1) (b3' : r / y1 ≤ 4294967297) (b4' : 0 ≤ rh') (b5' : rh' < 4294967296) (b6' : 0 ≤ m') (b7' : m' ≤ r)
    (hr : IntKind.u64.wrap (IntKind.u64.wrap (IntKind.u64.wrap (hi * 4294967296) + u1) - IntKind.u64.wrap (Q * y)) = r) (hr2 : IntKind.u64.wrap (IntKind.u64.wrap (IntKind.u64.wrap (r * 4294967296) + u0) - IntKind.u64.wrap (Q2 * y)) = r2) (r20 : 0 ≤ r2) (r21 : r2 < y) (Q20 : 0 ≤ Q2) (Q21 : Q2 < 4294967296) (r0 : 0 ≤ r) (r1 : r < y) (Q0 : 0 ≤ Q) (Q1 : Q < 4294967296) (a0 : 0 ≤ y0) (a1 : y0 < 4294967296) (a3 : y1 < 4294967296) (c0 : 0 ≤ u1) (c1 : u1 < 4294967296) (c2 : 0 ≤ u0) (c3 : u0 < 4294967296) :
    Calls Tryz.prog 194 #[.int .u64 hi, .int .u64 lo, .int .u64 y] w fun e w' => e = .returned (.tuple #[.int .u64 (Q * 4294967296 + Q2), .int .u64 r2]) ∧ Below w.heap.size w w' := by
  have y0' : (y == 0) = false := by rw [beq_eq_false_iff_ne]; omega
  have hle : decide (y ≤ hi) = false := decide_eq_false (by omega)
  go_enter Tryz.func194, Tryz.ntmps194
  go_upto_block 0 with (go_at_call 199; refine (lz_top _ (by omega) (by omega) _).mono ?_; rintro _ w1 ⟨rfl, rfl⟩)
  go_cut [15, 16] (fun s15 s16 wx => s15 = .int .u64 Q ∧ wx = w)
  case first =>
    go_wp2_with fail
    go_loop [15, 16] (fun s15 s16 => ∃ q rh : Int, s15 = .int .u64 q ∧ s16 = .int .u64 rh ∧ Gs hi y y1 y0 u1 q rh) (fun s15 _ => (intOf s15).toNat)
    case atStart => exact ⟨_, _, rfl, rfl, D1.out.2.2⟩
    case round =>
      obtain ⟨q, rh, rfl, rfl, g⟩ := hrel
      obtain ⟨P, eP, P0, P1, eP'⟩ := gs_P D1.out.1 g
      have q0 := g.q0
      have q1 := g.q1
      have r0 := g.r0
      have r1 := g.r1
      have HG := Lib.hid g
      have HP := Lib.hid eP'
      clear g eP'
      have key : (4294967296 ≤ q ∨ 4294967296 * rh + u1 < P) ∨ (q < 4294967296 ∧ P ≤ 4294967296 * rh + u1) := by omega
      rcases key with hc | ⟨hc1, hc2⟩
      · obtain ⟨k1, k2, k3⟩ := gs_next D1.out.1 HG.out (by rw [HP.out]; exact hc)
        have K2 := Lib.hid k2
        have K3 := Lib.hid k3
        clear k2 k3
        rcases Int.lt_or_le (rh + y1) 4294967296 with hlt | hge
        · rcases Int.lt_or_le q 4294967296 with hq | hq
          · have hc2 : 4294967296 * rh + u1 < P := by omega
            go_wp2_with fail
            go_round
            case rel => exact ⟨_, _, rfl, rfl, K2.out hlt⟩
            case measure => simp [intOf]; omega
          · go_wp2_with fail
            go_round
            case rel => exact ⟨_, _, rfl, rfl, K2.out hlt⟩
            case measure => simp [intOf]; omega
        · rcases Int.lt_or_le q 4294967296 with hq | hq
          · have hc2 : 4294967296 * rh + u1 < P := by omega
            go_wp2_with fail
            go_meet
            case rel => exact ⟨by rw [K3.out hge, D1.out.2.1], rfl⟩
          · go_wp2_with fail
            go_meet
            case rel => exact ⟨by rw [K3.out hge, D1.out.2.1], rfl⟩
      · have k := gs_end D1.out.1 HG.out (by rw [HP.out]; exact hc2)
        have K := Lib.hid k
        clear k
        go_wp2_with fail
        go_meet
        case rel => exact ⟨by rw [K.out, D1.out.2.1], rfl⟩
  case rest =>
    obtain ⟨rfl, rfl⟩ := hcut
    go_upto_block 2 with (fail)
    go_cut [18, 16] (fun s18 s16 wx => s18 = .int .u64 Q2 ∧ wx = wc)
    case first =>
      go_wp2_with fail
      go_loop [18, 16] (fun s18 s16 => ∃ q rh : Int, s18 = .int .u64 q ∧ s16 = .int .u64 rh ∧ Gs r y y1 y0 u0 q rh) (fun s18 _ => (intOf s18).toNat)
      case atStart => exact ⟨_, _, rfl, rfl, D2.out.2.2.1⟩
      case round =>
        obtain ⟨q, rh, rfl, rfl, g⟩ := hrel
        obtain ⟨P, eP, P0, P1, eP'⟩ := gs_P D2.out.1 g
        have q0 := g.q0
        have q1 := g.q1
        have r0 := g.r0
        have r1 := g.r1
        have HG := Lib.hid g
        have HP := Lib.hid eP'
        clear g eP'
        have key : (4294967296 ≤ q ∨ 4294967296 * rh + u0 < P) ∨ (q < 4294967296 ∧ P ≤ 4294967296 * rh + u0) := by omega
        rcases key with hc | ⟨hc1, hc2⟩
        · obtain ⟨k1, k2, k3⟩ := gs_next D2.out.1 HG.out (by rw [HP.out]; exact hc)
          have K2 := Lib.hid k2
          have K3 := Lib.hid k3
          clear k2 k3
          rcases Int.lt_or_le (rh + y1) 4294967296 with hlt | hge
          · rcases Int.lt_or_le q 4294967296 with hq | hq
            · have hc2 : 4294967296 * rh + u0 < P := by omega
              go_wp2_with fail
              go_round
              case rel => exact ⟨_, _, rfl, rfl, K2.out hlt⟩
              case measure => simp [intOf]; omega
            · go_wp2_with fail
              go_round
              case rel => exact ⟨_, _, rfl, rfl, K2.out hlt⟩
              case measure => simp [intOf]; omega
          · rcases Int.lt_or_le q 4294967296 with hq | hq
            · have hc2 : 4294967296 * rh + u0 < P := by omega
              go_wp2_with fail
              go_meet
              case rel => exact ⟨by rw [K3.out hge, D2.out.2.2.2], rfl⟩
            · go_wp2_with fail
              go_meet
              case rel => exact ⟨by rw [K3.out hge, D2.out.2.2.2], rfl⟩
        · have k := gs_end D2.out.1 HG.out (by rw [HP.out]; exact hc2)
          have K := Lib.hid k
          clear k
          go_wp2_with fail
          go_meet
          case rel => exact ⟨by rw [K.out, D2.out.2.2.2], rfl⟩
    case rest =>
      obtain ⟨rfl, rfl⟩ := hcut
      go_wp2_with fail
      go_ret2
      exact ⟨rfl, Below.refl _ _⟩
theorem div64_top (hi lo y : Int) (h0 : 0 ≤ hi) (h1 : hi < y) (l0 : 0 ≤ lo) (l1 : lo < 18446744073709551616) (hy : 9223372036854775808 ≤ y) (hy1 : y < 18446744073709551616) (hp : (hi == 0) = false) (w : World) :
    Calls Tryz.prog 194 #[.int .u64 hi, .int .u64 lo, .int .u64 y] w fun e w' => e = .returned (.tuple #[.int .u64 ((hi * 18446744073709551616 + lo) / y), .int .u64 ((hi * 18446744073709551616 + lo) % y)]) ∧ Below w.heap.size w w' := by
  have d1 : Dg hi y (y / 4294967296) (y % 4294967296) (lo / 4294967296) := ⟨by omega, by omega, by omega, by omega, by omega, h0, h1, by omega, by omega⟩
  have hr0 := Int.emod_nonneg (hi * 4294967296 + lo / 4294967296) (show y ≠ 0 by omega)
  have hr1 := Int.emod_lt_of_pos (hi * 4294967296 + lo / 4294967296) (show 0 < y by omega)
  have hQe := Int.mul_ediv_add_emod (hi * 4294967296 + lo / 4294967296) y
  have d2 : Dg ((hi * 4294967296 + lo / 4294967296) % y) y (y / 4294967296) (y % 4294967296) (lo % 4294967296) := ⟨by omega, by omega, by omega, by omega, by omega, hr0, hr1, by omega, by omega⟩
  obtain ⟨t1, t2⟩ := two_digits (hi := hi) (y := y) (u1 := lo / 4294967296) (u0 := lo % 4294967296) (by omega)
  have elo : lo / 4294967296 * 4294967296 + lo % 4294967296 = lo := by omega
  rw [elo] at t1 t2
  rw [t1, t2]
  have g1 := gs_first d1
  have g2 := gs_first d2
  have w1 := wrap_low (hi * 4294967296 + lo / 4294967296) y (hi * 4294967296) (lo / 4294967296) (by omega) (by omega) (by omega) rfl
  have w2 := wrap_low ((hi * 4294967296 + lo / 4294967296) % y * 4294967296 + lo % 4294967296) y ((hi * 4294967296 + lo / 4294967296) % y * 4294967296) (lo % 4294967296) (by omega) (by omega) (by omega) rfl
  have q1 := quo_low d1
  have q2 := quo_low d2
  obtain ⟨m1, m2, m3, m4⟩ := mul_part (u := hi) (b := y / 4294967296) h0 (by omega) (by omega)
  obtain ⟨n1, n2, n3, n4⟩ := mul_part (u := (hi * 4294967296 + lo / 4294967296) % y) (b := y / 4294967296) hr0 (by omega) (by omega)
  have hr3 := Int.emod_nonneg ((hi * 4294967296 + lo / 4294967296) % y * 4294967296 + lo % 4294967296) (show y ≠ 0 by omega)
  have hr4 := Int.emod_lt_of_pos ((hi * 4294967296 + lo / 4294967296) % y * 4294967296 + lo % 4294967296) (show 0 < y by omega)
  exact div64_walk hi lo y (y / 4294967296) (y % 4294967296) (lo / 4294967296) (lo % 4294967296) _ _ _ _ _ _ _ _ (Lib.hid ⟨d1, rfl, g1⟩) (Lib.hid ⟨d2, rfl, g2, rfl⟩) h0 h1 l0 l1 hy hy1 hp w rfl (and32 (by omega) (by omega)) rfl (and32 l0 l1) (or_nought h0 (by omega) l0 l1) (by omega)
    m1 m2 g1.q0 g1.q1 g1.r0 g1.r1 m3 m4 n1 n2 g2.q0 g2.q1 g2.r0 g2.r1 n3 n4 w1 w2 hr3 hr4 q2.1 q2.2 hr0 hr1 q1.1 q1.2 (by omega) (by omega) (by omega) (by omega) (by omega) (by omega) (by omega)
end Go.Proofs.YtodipcgilgigbaaGreatDoor.V
