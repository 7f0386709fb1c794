/- impl.AsFloat of a float and of a number. -/
import Derived.Test.YtodipcgilgigbaaGreatDoorVJ
import Derived.Test.YtodipcgilgigbaaGreatDoorVA
set_option linter.unusedVariables false
namespace Go.Proofs.YtodipcgilgigbaaGreatDoor.V
open Go Go.RowKit Go.Proofs.YtodipcgilgigbaaGreatDoor.I Go.Proofs.YtodipcgilgigbaaGreatDoorW.PrintWords
attribute [local go_sem ↓] Go.wp_at_zero Go.wp_at_succ

set_option maxRecDepth 100000 in
theorem floatOf_call (b : Int) (w : World) : Calls Tryz.prog 52 #[.int .u64 b] w fun e w' => e = .returned (.float .f64 b.toNat) ∧ w = w' := by
  have h' := run_frombits
  go_enter Tryz.func52, Tryz.ntmps52
  go_wp2
  go_ret
  exact ⟨rfl, rfl⟩
set_option maxRecDepth 100000 in
theorem bitsOf_call (b : Nat) (w : World) : Calls Tryz.prog 32 #[.float .f64 b] w fun e w' => e = .returned (.int .u64 b) ∧ w = w' := by
  have h' := run_bits
  go_enter Tryz.func32, Tryz.ntmps32
  go_wp2
  go_ret
  exact ⟨rfl, rfl⟩
theorem asFF (x : Nat) (w : World) : (Instr.typeAssert (Value.iface 69 (.float .f64 x)) 61 69 true).run Tryz.prog w = .ok (.tuple #[.float .f64 x, .bool true]) w := by kernel_rfl
theorem asIF (v : Value) (w : World) : (Instr.typeAssert (Value.iface 99 v) 61 69 true).run Tryz.prog w = .ok (.tuple #[.float .f64 0, .bool false]) w := by kernel_rfl
theorem asII (v : Value) (w : World) : (Instr.typeAssert (Value.iface 99 v) 61 99 true).run Tryz.prog w = .ok (.tuple #[v, .bool true]) w := by kernel_rfl
set_option maxRecDepth 100000 in
set_option maxHeartbeats 1000000 in
theorem sAsFloat_float (b : Nat) (w : World) : Calls Tryz.prog 31 #[.iface 69 (.float .f64 b)] w fun e w' => e = .returned (.tuple #[.float .f64 b, .bool true]) ∧ w = w' := by
  have R := asFF b
  go_enter Tryz.func31, Tryz.ntmps31
  go_wp2
  go_ret2
  exact ⟨rfl, rfl⟩
set_option maxRecDepth 100000 in
set_option maxHeartbeats 1000000 in
theorem sAsFloat_int (B : Nat) (v : Value) (z : Int) (hl : wl z.natAbs ≤ 1000) (w : World) (h : IsS w B v z) : Calls Tryz.prog 31 #[.iface 99 v] w fun e w' => e = .returned (.tuple #[.float .f64 (nb (decide (z < 0)) z.natAbs), .bool true]) ∧ Below w.heap.size w w' := by
  obtain ⟨i, p, rfl⟩ := h.form
  have R1 := asIF (.agg #[.int .i64 i, .pointer p])
  have R2 := asII (.agg #[.int .i64 i, .pointer p])
  have hA : Below w.heap.size w (w.alloc (.cells #[.int .i64 i, .pointer p] 99)) := (Below.refl _ w).alloc (Nat.le_refl _) _
  go_enter Tryz.func31, Tryz.ntmps31
  go_wp2_with (go_at_call 49; refine (intFloat_call B (.agg #[.int .i64 i, .pointer p]) z hl _ (h.below hA)).mono ?_; rintro _ w1 ⟨rfl, hb1⟩)
  go_ret2
  exact ⟨rfl, bt hA hb1 (Nat.le_refl _)⟩
end Go.Proofs.YtodipcgilgigbaaGreatDoor.V
