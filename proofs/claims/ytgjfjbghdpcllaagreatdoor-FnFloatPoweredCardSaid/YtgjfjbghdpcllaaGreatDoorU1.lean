/- The table of powers of ten, and how near a float's multiples of them come to whole numbers: checked by the kernel, power by power. Plain: no program in sight. -/
import GoSem.PinnedTables
namespace Go.Proofs.YtgjfjbghdpcllaaGreatDoor.U

/-- The convergent of a quotient whose denominator is the first that is 2^53 at least. -/
def conv : Nat → Nat → Nat → Nat → Nat → Nat → Nat → Nat × Nat
  | 0, _, _, _, h1, _, k1 => (h1, k1)
  | f + 1, a, b, h0, h1, k0, k1 => if 2 ^ 53 ≤ k1 ∨ b = 0 then (h1, k1) else conv f b (a % b) h1 (a / b * h1 + h0) k1 (a / b * k1 + k0)
/-- The floors of E·log10 2 and of p·log2 10, as strconv reckons them. -/
def lg (E : Int) : Int := E * 78913 / 262144
def lp (p : Int) : Int := p * 108853 / 32768
def pw (E : Int) : Int := 6 - lg E
def sh (E : Int) : Int := -(E - 63 + lp (pw E) + 3)
/-- The quotient al E / be E is 4 · 2^11 · 2^(E-63) · 10^p. -/
def al (E : Int) : Nat := 2 ^ (E - 50).toNat * 10 ^ (pw E).toNat
def be (E : Int) : Nat := 2 ^ (50 - E).toNat * 10 ^ (-(pw E)).toNat
def dist (a b : Nat) : Nat := (a - b) + (b - a)
/-- The table's row of a power. -/
def row (p : Int) : Nat × Nat := Go.Pinned.pow10Rows.getD (p + 348).toNat (0, 0)
/-- The row, as a number. -/
def pm (p : Int) : Nat := (row p).1 * 18446744073709551616 - (row p).2
def chkTab (p : Int) : Bool :=
  let m := 127 - lp p
  let n := 10 ^ p.toNat * 2 ^ m.toNat
  let d := 10 ^ (-p).toNat * 2 ^ (-m).toNat
  decide ((row p).1 < 18446744073709551616 ∧ (row p).2 < 18446744073709551616 ∧ (row p).2 ≤ (row p).1 * 18446744073709551616 ∧ n ≤ pm p * d ∧ pm p * d < n + d)
def chkNear (E : Int) : Bool :=
  let s := (sh E).toNat
  let A := al E
  let B := be E
  decide (B ≤ 2 ^ (63 + s)) ||
    (let c := conv 400 A B 0 1 1 0
     let t := dist (A * c.2) (c.1 * B)
     decide (Nat.gcd c.1 c.2 = 1 ∧ 2 ^ 53 ≤ c.2 ∧ c.2 * B + 2 ^ 53 * t * 2 ^ (63 + s) ≤ B * 2 ^ (63 + s)))
def chkLg (E : Int) : Bool :=
  let L := lg E
  decide (10 ^ L.toNat * 2 ^ (-E).toNat ≤ 2 ^ E.toNat * 10 ^ (-L).toNat ∧ 2 ^ E.toNat * 10 ^ (-(L + 1)).toNat < 10 ^ (L + 1).toNat * 2 ^ (-E).toNat)
def chk (E : Int) : Bool := chkTab (pw E) && chkNear E && chkLg E && decide (36 ≤ sh E ∧ sh E ≤ 42)
def chkAll : Nat → Bool
  | 0 => true
  | n + 1 => chk ((n : Int) - 1074) && chkAll n
set_option maxRecDepth 100000 in
theorem chk_all : chkAll 2098 = true := by decide +kernel
theorem chkAll_at : ∀ n, chkAll n = true → ∀ i, i < n → chk ((i : Int) - 1074) = true
  | 0, _, i, h => absurd h (Nat.not_lt_zero i)
  | n + 1, h, i, hi => by
    rw [chkAll, Bool.and_eq_true] at h
    rcases Nat.lt_or_ge i n with h1 | h1
    · exact chkAll_at n h.2 i h1
    · have : i = n := by omega
      subst this; exact h.1
theorem chk_at (E : Int) (h0 : -1074 ≤ E) (h1 : E < 1024) : chk E = true := by
  have := chkAll_at 2098 chk_all (E + 1074).toNat (by omega)
  have e : (((E + 1074).toNat : Nat) : Int) - 1074 = E := by omega
  rwa [e] at this
end Go.Proofs.YtgjfjbghdpcllaaGreatDoor.U
