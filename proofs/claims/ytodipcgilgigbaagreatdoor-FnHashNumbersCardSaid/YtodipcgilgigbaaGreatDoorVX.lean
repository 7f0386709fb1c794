/- Small laws of words, taken of FnAsFloat's texts. -/
import Derived.Test.YtodipcgilgigbaaGreatDoorVB
import Derived.Laws.Externs
import Derived.WalkLawsBesides
import Derived.Outline
import Derived.Deep.CutBlock
import Derived.Deep.DeepCutAuto
import Derived.Deep.RegionHeld3
import Derived.Deep.DrawnRows
set_option linter.unusedVariables false
namespace Go.Proofs.YtodipcgilgigbaaGreatDoor.V
open Go Go.RowKit Go.Proofs.YtodipcgilgigbaaGreatDoor.I
theorem mod_next (n m : Nat) : n % 18446744073709551616 ^ (m + 1) = n % 18446744073709551616 ^ m + 18446744073709551616 ^ m * wd n m := by
  unfold wd
  rw [Nat.pow_succ, Nat.mod_mul]
theorem run_add (x y c : Nat) (hx : x < 18446744073709551616) (hy : y < 18446744073709551616) (hc : c ≤ 1) (w : World) : (callFunc 117 #[.int .u64 x, .int .u64 y, .int .u64 c]).run Tryz.prog w = .ok (.value (.tuple #[.int .u64 (((x + y + c) % 18446744073709551616 : Nat) : Int), .int .u64 (((x + y + c) / 18446744073709551616 : Nat) : Int)])) w := by
  rw [run_callFunc_extern (e := add64Entry) Tryz.func117 (by kernel_rfl) (by kernel_rfl) (by kernel_rfl) (by kernel_rfl), run_add64 x y c (by omega) (by omega) (by omega) (by omega)]
  simp only [Result.andThen]
  congr 5 <;> omega
set_option maxRecDepth 100000 in
theorem add_call (x y c : Nat) (hx : x < 18446744073709551616) (hy : y < 18446744073709551616) (hc : c ≤ 1) (w : World) : Calls Tryz.prog 108 #[.int .u64 x, .int .u64 y, .int .u64 c] w fun e w' => e = .returned (.tuple #[.int .u64 (((x + y + c) % 18446744073709551616 : Nat) : Int), .int .u64 (((x + y + c) / 18446744073709551616 : Nat) : Int)]) ∧ w = w' := by
  have h := run_add x y c hx hy hc
  generalize (x + y + c) % 18446744073709551616 = s at *
  generalize (x + y + c) / 18446744073709551616 = q at *
  go_enter Tryz.func108, Tryz.ntmps108
  go_wp2
  go_ret2
  exact ⟨rfl, rfl⟩
set_option maxRecDepth 100000 in
theorem makeAcc_call (b : Bool) (w : World) : Calls Tryz.prog 92 #[.bool b] w fun e w' => e = .returned (.int .i8 (if b then 1 else -1)) ∧ w = w' := by
  cases b
  all_goals
    go_enter Tryz.func92, Tryz.ntmps92
    go_wp2_with fail
    go_ret
    exact ⟨rfl, rfl⟩
theorem sizeW : (Tryz.prog.info? 166).map (·.size) = some 1 := by kernel_rfl
theorem isw_row {w : World} {A : Option Addr} {c n : Nat} (h : IsW w (.slice A (words n).length c) (words n)) (h0 : n ≠ 0) : ∃ g, A = some ⟨g, 0, none⟩ ∧ Row w g c (words n) := by
  rcases h with ⟨_, hn⟩ | ⟨g, cap, he, hr⟩
  · have := wl_pos h0
    unfold wl at this
    rw [hn] at this
    simp at this
  · simp only [Value.slice.injEq] at he
    obtain ⟨rfl, _, rfl⟩ := he
    exact ⟨g, rfl, hr⟩
end Go.Proofs.YtodipcgilgigbaaGreatDoor.V
