/- walks of the float part -/
import Derived.Test.YthabnggoidhfeaaGreatDoorRows
import Derived.WalkKit
import Derived.WalkLawsBesides
import Derived.WalkSpells
import Derived.Deep.QuietTactic
import Derived.BigQuiet
import Derived.Deep.RegionWith
import Derived.Lib.Hide
import Derived.Deep.DeepFit
import Derived.Deep.DeepMust
import Derived.Laws.EntriesVeiled
namespace Go.Proofs.YthabnggoidhfeaaGreatDoor
open Go Go.RowKit

theorem run_bits (b : Nat) (w : World) : (callFunc 17 #[.float .f64 b]).run Tryz.prog w = .ok (.value (.int .u64 b)) w := by
  rw [run_callFunc_extern (e := Extern.MathFloatBits.float64bits) Tryz.func17 (by kernel_rfl) (by kernel_rfl) (by kernel_rfl) (by kernel_rfl)]
  rfl
theorem run_frombits (n : Int) (w : World) : (callFunc 4 #[.int .u64 n]).run Tryz.prog w = .ok (.value (.float .f64 n.toNat)) w := by
  rw [run_callFunc_extern (e := Extern.MathFloatBits.float64frombits) Tryz.func4 (by kernel_rfl) (by kernel_rfl) (by kernel_rfl) (by kernel_rfl)]
  rfl
theorem run_sqrt_some (b r : Nat) (h : FloatKind.f64.format.sqrt b = some r) (w : World) : (callFunc 18 #[.float .f64 b]).run Tryz.prog w = .ok (.value (.float .f64 r)) w := by
  rw [run_callFunc_extern (e := Extern.MathSqrt.sqrt) Tryz.func18 (by kernel_rfl) (by kernel_rfl) (by kernel_rfl) (by kernel_rfl)]
  change (Sem.run Tryz.prog (match FloatKind.f64.format.sqrt b with | some r => (pure (Value.float .f64 r) : Sem Value) | none => do pure (Value.float .f64 (← choose (.nanBits .f64 b b)))) w).andThen _ = _
  rw [h]
  rfl
theorem run_sqrt_none (b : Nat) (h : FloatKind.f64.format.sqrt b = none) (w : World) : (callFunc 18 #[.float .f64 b]).run Tryz.prog w = .ok (.value (.float .f64 ((Question.nanBits .f64 b b).cut (w.tape w.drawn (.nanBits .f64 b b))))) w.drew := by
  rw [run_callFunc_extern (e := Extern.MathSqrt.sqrt) Tryz.func18 (by kernel_rfl) (by kernel_rfl) (by kernel_rfl) (by kernel_rfl)]
  change (Sem.run Tryz.prog (match FloatKind.f64.format.sqrt b with | some r => (pure (Value.float .f64 r) : Sem Value) | none => do pure (Value.float .f64 (← choose (.nanBits .f64 b b)))) w).andThen _ = _
  rw [h]
  rfl

theorem floatOf_any (n : Int) (w : World) : Calls Tryz.prog 20 #[.int .u64 n] w fun e w' => e = .returned (.float .f64 n.toNat) ∧ w = w' := by
  have h := run_frombits
  go_enter Tryz.func20, Tryz.ntmps20
  go_wp2
  go_ret
  exact ⟨rfl, rfl⟩
theorem bitsOf_any (n : Nat) (w : World) : Calls Tryz.prog 31 #[.float .f64 n] w fun e w' => e = .returned (.int .u64 n) ∧ w = w' := by
  have h := run_bits
  go_enter Tryz.func31, Tryz.ntmps31
  go_wp2
  go_ret
  exact ⟨rfl, rfl⟩

theorem unpacker (a : Option Addr) (w : World) : (Instr.typeAssert (Value.iface 82 (.pointer a)) 20 113 true).run Tryz.prog w = .ok (.tuple #[.iface 82 (.pointer a), .bool true]) w := by kernel_rfl
theorem unpack_nil (a : Addr) (w : World) : (nilAhead 413 82 (.pointer (some a)) "Unpack").run Tryz.prog w = .ok (some false) w := by kernel_rfl
theorem unpack_method (a : Addr) (w : World) : (method 413 82 (.pointer (some a)) "Unpack").run Tryz.prog w = .ok (236, .pointer (some a)) w := by kernel_rfl
theorem as51 (x : Nat) (w : World) : (Instr.typeAssert (Value.iface 53 (.float .f64 x)) 35 51 true).run Tryz.prog w = .ok (.tuple #[.agg #[.int .i64 0, .pointer none], .bool false]) w := by kernel_rfl
theorem as53 (x : Nat) (w : World) : (Instr.typeAssert (Value.iface 53 (.float .f64 x)) 35 53 true).run Tryz.prog w = .ok (.tuple #[.float .f64 x, .bool true]) w := by kernel_rfl
theorem as45 (x : Nat) (w : World) : (Instr.typeAssert (Value.iface 53 (.float .f64 x)) 35 45 true).run Tryz.prog w = .ok (.tuple #[.int .u8 0, .bool false]) w := by kernel_rfl
theorem as46 (x : Nat) (w : World) : (Instr.typeAssert (Value.iface 53 (.float .f64 x)) 35 46 true).run Tryz.prog w = .ok (.tuple #[.bool false, .bool false]) w := by kernel_rfl
theorem store_float (a : Addr) (k : FloatKind) (b : Nat) (m : Mode) (w : World) : (store a (.float k b) m).run Tryz.prog w = stored Tryz.prog w a (.float k b) m := run_store Tryz.prog w a _ m rfl

def absBits (n : Nat) : Nat := (bits BinOp.andNot IntKind.u64 (n : Int) 9223372036854775808).toNat
def floatVal (n : Nat) : Value := .agg #[.int .i64 3, .bool false, .slice none 0 0, .int .u64 n, .string ⟨#[]⟩, .slice none 0 0]

set_option maxRecDepth 100000 in
theorem zzfabs (n : Nat) (w : World) : Calls Tryz.prog 14 #[.iface 53 (.float .f64 n)] w fun e w' => e = .returned (.tuple #[.iface 53 (.float .f64 (absBits n)), .nilIface]) ∧ Below w.heap.size w w' := by
  have h := run_bits
  have h' := run_frombits
  have t1 := unpacker
  have t2 := unpack_nil
  have t3 := unpack_method
  have a51 := as51
  have a53 := as53
  have sf := store_float
  go_enter Tryz.func14, Tryz.ntmps14
  go_wp2
  refine wp_loop_rounds 2 ?_
  rw [rounds_succ]
  go_wp2
  rw [rounds_succ]
  go_wp2
  refine bodyPost_ret (v := .tuple #[.iface 53 (.float .f64 (absBits n)), .nilIface]) (by simp [results, Tryz.results14, go_sem, absBits]) rfl ⟨rfl, ?_⟩
  repeat (first | exact Below.refl _ _ | refine Below.alloc ?_ (by simp; try omega) _)

set_option maxRecDepth 100000 in
theorem zzsqrt_some (n : Nat) (r : Nat) (hr : FloatKind.f64.format.sqrt n = some r) (w : World) : Calls Tryz.prog 15 #[.iface 53 (.float .f64 n)] w fun e w' => e = .returned (.tuple #[.iface 53 (.float .f64 r), .nilIface]) ∧ Below w.heap.size w w' := by
  have h' := run_sqrt_some n r hr
  have t1 := unpacker
  have t2 := unpack_nil
  have t3 := unpack_method
  have a51 := as51
  have a53 := as53
  have sf := store_float
  clear hr
  go_enter Tryz.func15, Tryz.ntmps15
  go_wp2
  refine wp_loop_rounds 2 ?_
  rw [rounds_succ]
  go_wp2
  rw [rounds_succ]
  go_wp2
  refine bodyPost_ret (v := .tuple #[.iface 53 (.float .f64 r), .nilIface]) (by simp [results, Tryz.results15, go_sem]) rfl ⟨rfl, ?_⟩
  repeat (first | exact Below.refl _ _ | refine Below.alloc ?_ (by simp; try omega) _)

set_option maxRecDepth 100000 in
theorem zzsqrt_none (n : Nat) (hr : FloatKind.f64.format.sqrt n = none) (w : World) : Calls Tryz.prog 15 #[.iface 53 (.float .f64 n)] w fun e w' => ∃ r, e = .returned (.tuple #[.iface 53 (.float .f64 r), .nilIface]) ∧ Below w.heap.size w w' := by
  have h' := run_sqrt_none n hr
  have t1 := unpacker
  have t2 := unpack_nil
  have t3 := unpack_method
  have a51 := as51
  have a53 := as53
  have sf := store_float
  clear hr
  go_enter Tryz.func15, Tryz.ntmps15
  go_wp2
  refine wp_loop_rounds 2 ?_
  rw [rounds_succ]
  go_wp2
  rw [rounds_succ]
  go_wp2
  refine bodyPost_ret (v := .tuple #[.iface 53 (.float .f64 _), .nilIface]) (by simp [results, Tryz.results15, go_sem]; rfl) rfl ⟨_, rfl, ?_⟩
  repeat (first | exact Below.refl _ _ | exact (Below.refl _ _).drew | refine Below.drew ?_ | refine Below.alloc ?_ (by simp; try omega) _)


end Go.Proofs.YthabnggoidhfeaaGreatDoor
