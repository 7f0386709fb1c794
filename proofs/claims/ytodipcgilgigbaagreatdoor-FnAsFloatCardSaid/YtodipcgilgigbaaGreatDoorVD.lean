/- Sums of words with a carry; addVW and rshVU of one word, in place; makeAcc. -/
import Derived.Test.YtodipcgilgigbaaGreatDoorVC
import Derived.Laws.Externs
import Derived.WalkLawsBesides
set_option linter.unusedVariables false
namespace Go.Proofs.YtodipcgilgigbaaGreatDoor.V
open Go Go.RowKit Go.Proofs.YtodipcgilgigbaaGreatDoor.I

theorem run_add (x y c : Nat) (hx : x < 18446744073709551616) (hy : y < 18446744073709551616) (hc : c ≤ 1) (w : World) : (callFunc 117 #[.int .u64 x, .int .u64 y, .int .u64 c]).run Tryz.prog w = .ok (.value (.tuple #[.int .u64 (((x + y + c) % 18446744073709551616 : Nat) : Int), .int .u64 (((x + y + c) / 18446744073709551616 : Nat) : Int)])) w := by
  rw [run_callFunc_extern (e := add64Entry) Tryz.func117 (by kernel_rfl) (by kernel_rfl) (by kernel_rfl) (by kernel_rfl), run_add64 x y c (by omega) (by omega) (by omega) (by omega)]
  simp only [Result.andThen]
  congr 5 <;> omega
set_option maxRecDepth 100000 in
theorem add_call (x y c : Nat) (hx : x < 18446744073709551616) (hy : y < 18446744073709551616) (hc : c ≤ 1) (w : World) : Calls Tryz.prog 108 #[.int .u64 x, .int .u64 y, .int .u64 c] w fun e w' => e = .returned (.tuple #[.int .u64 (((x + y + c) % 18446744073709551616 : Nat) : Int), .int .u64 (((x + y + c) / 18446744073709551616 : Nat) : Int)]) ∧ w = w' := by
  have h := run_add x y c hx hy hc
  generalize (x + y + c) % 18446744073709551616 = s at *
  generalize (x + y + c) / 18446744073709551616 = q at *
  go_enter Tryz.func108, Tryz.ntmps108
  go_wp2
  go_ret2
  exact ⟨rfl, rfl⟩
set_option maxRecDepth 100000 in
theorem makeAcc_call (b : Bool) (w : World) : Calls Tryz.prog 92 #[.bool b] w fun e w' => e = .returned (.int .i8 (if b then 1 else -1)) ∧ w = w' := by
  cases b
  all_goals
    go_enter Tryz.func92, Tryz.ntmps92
    go_wp2_with fail
    go_ret
    exact ⟨rfl, rfl⟩
theorem sizeW : (Tryz.prog.info? 166).map (·.size) = some 1 := by kernel_rfl
set_option maxRecDepth 100000 in
set_option maxHeartbeats 1000000 in
/-- addVW(z, z, y) of one word. -/
theorem addVW1_call (x y g cap : Nat) (hx : x < 18446744073709551616) (hy : y < 18446744073709551616) (w : World) (h : Row w g cap [(x : Int)]) :
    Calls Tryz.prog 103 #[.slice (some ⟨g, 0, none⟩) 1 cap, .slice (some ⟨g, 0, none⟩) 1 cap, .int .u64 y] w fun e w' => e = .returned (.int .u64 (((x + y) / 18446744073709551616 : Nat) : Int)) ∧ Row w' g cap [(((x + y) % 18446744073709551616 : Nat) : Int)] ∧ Off (· = g) w w' := by
  have hc := h.cell (i := 0) rfl
  have hf := h.frozen 0
  have AC := add_call x y 0 hx hy (by omega)
  rw [Nat.add_zero] at AC
  have hset := h.set (i := 0) (((x + y) % 18446744073709551616 : Nat) : Int)
  have hq : (x + y) / 18446744073709551616 = 0 ∨ (x + y) / 18446744073709551616 = 1 := by omega
  have hns := fun wq => run_neq_ptr_self (P := Tryz.prog) wq (⟨g, 0, none⟩ : Addr) Tryz.underlying189 sizeW
  have hO : ∀ v, Off (· = g) w (w.setCell ⟨g, 0, none⟩ v) := fun v => (Off.refl (fun k => k = g) w).setCell (p := ⟨g, 0, none⟩) (.inl rfl) v
  generalize (x + y) % 18446744073709551616 = s at *
  rcases hq with hq | hq
  · rw [hq] at AC ⊢
    clear hq
    go_enter Tryz.func103, Tryz.ntmps103
    go_wp2_with (go_at_call 108; refine (AC _).mono ?_; rintro _ w1 ⟨rfl, rfl⟩)
    go_quiet (fail)
    go_wp2_with fail
    go_ret
    exact ⟨rfl, hset.below (drewn_below _ _), (hO _).trans (Off.of (drewn_below _ _))⟩
  · rw [hq] at AC ⊢
    clear hq
    go_enter Tryz.func103, Tryz.ntmps103
    go_wp2_with (go_at_call 108; refine (AC _).mono ?_; rintro _ w1 ⟨rfl, rfl⟩)
    go_loop [9] (fun i => i = .int .i64 1) (fun _ => 0)
    case atStart => exact rfl
    case round =>
      obtain rfl := hrel
      go_wp2_with fail
      go_ret
      exact ⟨rfl, hset, hO _⟩
set_option maxRecDepth 100000 in
set_option maxHeartbeats 1000000 in
/-- rshVU(z, z, 1) of one word. -/
theorem rshg1_call (x g cap : Nat) (hx : x < 18446744073709551616) (w : World) (h : Row w g cap [(x : Int)]) :
    Calls Tryz.prog 109 #[.slice (some ⟨g, 0, none⟩) 1 cap, .slice (some ⟨g, 0, none⟩) 1 cap, .int .u64 1] w fun e w' => ∃ c, e = .returned (.int .u64 c) ∧ Row w' g cap [((x / 2 : Nat) : Int)] ∧ Off (· = g) w w' := by
  have hc := h.cell (i := 0) rfl
  have hf := h.frozen 0
  have hset := h.set (i := 0) ((x : Int) / 2)
  have hO : ∀ v, Off (· = g) w (w.setCell ⟨g, 0, none⟩ v) := fun v => (Off.refl (fun k => k = g) w).setCell (p := ⟨g, 0, none⟩) (.inl rfl) v
  have a1 : bits .and .u64 1 63 = 1 := by decide +kernel
  have a2 : IntKind.u64.wrap (64 - 1) = 63 := by decide +kernel
  have a3 : bits .and .u64 63 63 = 63 := by decide +kernel
  go_enter Tryz.func109, Tryz.ntmps109
  go_wp2_with fail
  go_loop [8] (fun i => i = .int .i64 1) (fun _ => 0)
  case atStart => exact rfl
  case round =>
    obtain rfl := hrel
    go_wp2_with fail
    go_ret
    exact ⟨⟨_, rfl⟩, by simpa using hset, hO _⟩
set_option maxRecDepth 100000 in
theorem rsh1_call (x g cap : Nat) (hx : x < 18446744073709551616) (w : World) (h : Row w g cap [(x : Int)]) :
    Calls Tryz.prog 104 #[.slice (some ⟨g, 0, none⟩) 1 cap, .slice (some ⟨g, 0, none⟩) 1 cap, .int .u64 1] w fun e w' => ∃ c, e = .returned (.int .u64 c) ∧ Row w' g cap [((x / 2 : Nat) : Int)] ∧ Off (· = g) w w' := by
  have LC := rshg1_call x g cap hx w h
  go_enter Tryz.func104, Tryz.ntmps104
  go_wp2_with (go_at_call 109; refine LC.mono ?_; rintro _ w1 ⟨c, rfl, hr, ho⟩)
  go_ret
  exact ⟨_, rfl, hr, ho⟩
end Go.Proofs.YtodipcgilgigbaaGreatDoor.V
