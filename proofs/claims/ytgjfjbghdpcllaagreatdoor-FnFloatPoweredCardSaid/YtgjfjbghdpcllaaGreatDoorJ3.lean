/- A finite float's text by strconv, and what floatParts tells of it. -/
import Derived.Test.YtgjfjbghdpcllaaGreatDoorJ2
import Derived.Test.YtgjfjbghdpcllaaGreatDoorW10
namespace Go.Proofs.YtgjfjbghdpcllaaGreatDoor
open Go Go.RowKit U I

def ex (b : Nat) : Nat := b / 4503599627370496 % 2048
def fr (b : Nat) : Nat := b % 4503599627370496
def ng (b : Nat) : Bool := decide (b / 9223372036854775808 = 1)
def mm (b : Nat) : Nat := if ex b = 0 then fr b else fr b + 4503599627370496
def qq (b : Nat) : Int := if ex b = 0 then -1074 else (ex b : Int) - 1075
theorem ex_lt (b : Nat) (hf : Finite b) : ex b < 2047 := by
  unfold Finite at hf
  unfold ex
  omega
theorem cast52 (b : Nat) : (b : Int) / 4503599627370496 = ((b / 4503599627370496 : Nat) : Int) := by omega
theorem cast63 (b : Nat) : (b : Int) / 9223372036854775808 = ((b / 9223372036854775808 : Nat) : Int) := by omega
theorem ex_u64 (b : Nat) (hb : b < 18446744073709551616) : bits .and .u64 ((b : Int) / 4503599627370496) 2047 = (ex b : Int) := by
  rw [cast52]
  have h := u64_and_nat (b / 4503599627370496) 2047 (by omega) (by decide)
  rw [show ((2047 : Nat) : Int) = 2047 from rfl] at h
  rw [h]
  exact congrArg Int.ofNat (Nat.and_two_pow_sub_one_eq_mod (b / 4503599627370496) 11)
theorem and2047 (n : Nat) (h : n < 4096) : bits .and .i64 (n : Int) 2047 = ((n % 2048 : Nat) : Int) := by
  have h2 : (BitVec.ofInt 64 2047).toNat = 2 ^ 11 - 1 := by decide
  have key : (BitVec.ofInt 64 (n : Int) &&& BitVec.ofInt 64 2047).toNat = ((n : Int) % ((2 ^ 64 : Nat) : Int)).toNat % 2 ^ 11 := by
    rw [BitVec.toNat_and, BitVec.toNat_ofInt, h2, Nat.and_two_pow_sub_one_eq_mod]
  show IntKind.i64.wrap ((BitVec.ofInt 64 (n : Int) &&& BitVec.ofInt 64 2047).toNat : Nat) = _
  rw [key, IntKind.wrap_i64]
  omega
theorem ex_i64 (b : Nat) (hb : b < 18446744073709551616) : bits .and .i64 (wrap64 ((b : Int) / 4503599627370496)) 2047 = (ex b : Int) := by
  rw [cast52, show wrap64 ((b / 4503599627370496 : Nat) : Int) = ((b / 4503599627370496 : Nat) : Int) by unfold wrap64; omega]
  exact and2047 _ (by omega)
theorem fr_is (b : Nat) (hb : b < 18446744073709551616) : bits .and .u64 (b : Int) 4503599627370495 = (fr b : Int) := by
  have h := u64_and_nat b 4503599627370495 hb (by decide)
  rw [show ((4503599627370495 : Nat) : Int) = 4503599627370495 from rfl] at h
  rw [h]
  exact congrArg Int.ofNat (Nat.and_two_pow_sub_one_eq_mod b 52)
theorem fr_or (b : Nat) : bits .or .u64 (fr b : Int) 4503599627370496 = ((fr b + 4503599627370496 : Nat) : Int) := by
  have hlt : fr b < 4503599627370496 := by unfold fr; omega
  have h := u64_or_nat (fr b) 4503599627370496 (by omega) (by decide)
  rw [show ((4503599627370496 : Nat) : Int) = 4503599627370496 from rfl] at h
  rw [h]
  have e : fr b ||| 4503599627370496 = fr b + 4503599627370496 := by
    have h2 := Nat.two_pow_add_eq_or_of_lt (i := 52) (b := fr b) (by simpa using hlt) 1
    rw [Nat.mul_one] at h2
    have h3 : (2 : Nat) ^ 52 = 4503599627370496 := by decide
    rw [h3] at h2
    rw [Nat.or_comm, ← h2, Nat.add_comm]
  rw [e]
theorem ng_ne (b : Nat) (hb : b < 18446744073709551616) : ((b : Int) / 9223372036854775808 != 0) = ng b := by
  rw [cast63]
  unfold ng
  by_cases h : b / 9223372036854775808 = 1
  · rw [h]; rfl
  · have : b / 9223372036854775808 = 0 := by omega
    rw [this]; rfl
theorem ng_eq (b : Nat) (hb : b < 18446744073709551616) : ((b : Int) / 9223372036854775808 == 1) = ng b := by
  rw [cast63]
  unfold ng
  by_cases h : b / 9223372036854775808 = 1
  · rw [h]; rfl
  · have : b / 9223372036854775808 = 0 := by omega
    rw [this]; rfl
theorem parts (b : Nat) (hb : b < 18446744073709551616) (hf : Finite b) : Parts b (ng b) (mm b) (qq b) := by
  intro w
  have hx := ex_lt b hf
  unfold mm qq
  by_cases h : ex b = 0
  · rw [if_pos h, if_pos h]
    have he := ex_u64 b hb
    rw [h] at he
    exact parts_sub b b (fr b) (ng b) w (run_bits b) (ng_eq b hb) he (fr_is b hb)
  · rw [if_neg h, if_neg h]
    exact parts_norm b b (ex b) (fr b) ((fr b + 4503599627370496 : Nat) : Int) (ng b) w (run_bits b) (ng_eq b hb) (ex_u64 b hb) (fr_is b hb) (fr_or b) (by omega) (by omega)
/-- The library's tables, as the call finds them. -/
structure Tab (w : World) : Prop where
  size : 4 < w.heap.size
  opt : w.cell? ⟨1, 0, none⟩ = some (.bool true)
  ten : Lib.TabIs Tryz.prog w "internal/strconv.uint64pow10" .u64 Lib.pow10Tab
  pow : ∀ i, i < 696 → w.cell? ⟨4, i * 2, none⟩ = some (.int .u64 ((Go.Pinned.pow10Rows.getD i (0, 0)).1 : Nat)) ∧ w.cell? ⟨4, i * 2 + 1, none⟩ = some (.int .u64 ((Go.Pinned.pow10Rows.getD i (0, 0)).2 : Nat))
theorem global3 : Tryz.prog.globalNamed "internal/strconv.uint64pow10" = some 3 := by kernel_rfl
theorem Tab.below {w w' : World} (h : Tab w) (hb : Below w.heap.size w w') : Tab w' := by
  have hz := h.size
  have hs := hb.size
  refine ⟨by omega, (hb.cell (p := ⟨1, 0, none⟩) (by show 1 < w.heap.size; omega)).trans h.opt, var?_below hb global3 (by omega) h.ten, fun i hi => ?_⟩
  exact ⟨(hb.cell (p := ⟨4, i * 2, none⟩) (by show 4 < w.heap.size; omega)).trans (h.pow i hi).1, (hb.cell (p := ⟨4, i * 2 + 1, none⟩) (by show 4 < w.heap.size; omega)).trans (h.pow i hi).2⟩
theorem Tab.ten7 {w : World} (h : Tab w) : w.cell? ⟨3, 7, none⟩ = some (.int .u64 10000000) := by
  have := h.ten.cell global3 7 (by rw [Lib.pow10Tab_length]; decide)
  rw [Lib.pow10Tab_at 7 (by decide)] at this
  exact this
end Go.Proofs.YtgjfjbghdpcllaaGreatDoor
