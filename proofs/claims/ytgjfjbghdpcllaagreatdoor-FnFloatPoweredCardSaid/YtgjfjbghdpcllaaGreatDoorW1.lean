/- Walks of the floats' small functions and of the Builder. -/
import Derived.Test.YtgjfjbghdpcllaaGreatDoorRows
import Derived.Test.YtgjfjbghdpcllaaGreatDoorSh
import Derived.Test.YtgjfjbghdpcllaaGreatDoorF
import Derived.WalkKit
import Derived.WalkLawsBesides
import Derived.WalkSpells
import Derived.Deep.QuietTactic
import Derived.BigQuiet
import Derived.Deep.RegionWith
import Derived.Lib.Hide
import Derived.Deep.DeepFit
import Derived.Deep.DeepMust
import Derived.Laws.FloatArith
namespace Go.Proofs.YtgjfjbghdpcllaaGreatDoor
open Go Go.RowKit U

theorem run_bits (b : Nat) (w : World) : (callFunc 7 #[.float .f64 b]).run Tryz.prog w = .ok (.value (.int .u64 b)) w := by
  rw [run_callFunc_extern (e := Extern.MathFloatBits.float64bits) Tryz.func7 (by kernel_rfl) (by kernel_rfl) (by kernel_rfl) (by kernel_rfl)]
  rfl
theorem run_bits56 (b : Nat) (w : World) : (callFunc 56 #[.float .f64 b]).run Tryz.prog w = .ok (.value (.int .u64 b)) w := by
  rw [run_callFunc_extern (e := Extern.MathFloatBits.float64bits) Tryz.func56 (by kernel_rfl) (by kernel_rfl) (by kernel_rfl) (by kernel_rfl)]
  rfl
theorem run_frombits (n : Int) (w : World) : (callFunc 4 #[.int .u64 n]).run Tryz.prog w = .ok (.value (.float .f64 n.toNat)) w := by
  rw [run_callFunc_extern (e := Extern.MathFloatBits.float64frombits) Tryz.func4 (by kernel_rfl) (by kernel_rfl) (by kernel_rfl) (by kernel_rfl)]
  rfl

theorem isNaN_no (b : Nat) (w : World) (h : b % 9223372036854775808 ≤ 9218868437227405312) : Calls Tryz.prog 9 #[.float .f64 b] w fun e w' => e = .returned (.bool false) ∧ w = w' := by
  have hn : (FloatKind.f64.format.order b b != some .eq) = false := by rw [order_self b h]; rfl
  clear h
  go_enter Tryz.func9, Tryz.ntmps9
  go_wp2
  go_ret
  exact ⟨rfl, rfl⟩
theorem isNaN_yes (b : Nat) (w : World) (h : 9218868437227405312 < b % 9223372036854775808) : Calls Tryz.prog 9 #[.float .f64 b] w fun e w' => e = .returned (.bool true) ∧ w = w' := by
  have hn : (FloatKind.f64.format.order b b != some .eq) = true := by rw [order_nan b h]; rfl
  clear h
  go_enter Tryz.func9, Tryz.ntmps9
  go_wp2
  go_ret
  exact ⟨rfl, rfl⟩
theorem isInf_any (b a : Nat) (r : Bool) (w : World) (ha : (bits .andNot .u64 (b : Int) 9223372036854775808).toNat = a) (hr : (FloatKind.f64.format.order a 9218868437227405311 == some .gt) = r) :
    Calls Tryz.prog 10 #[.float .f64 b, .int .i64 0] w fun e w' => e = .returned (.bool r) ∧ w = w' := by
  have h := run_bits
  have h' := run_frombits
  subst ha hr
  go_enter Tryz.func10, Tryz.ntmps10
  go_wp2
  go_ret
  exact ⟨rfl, rfl⟩
theorem isFinite_yes (b : Nat) (w : World) (hb : b < 18446744073709551616) (h : Finite b) : Calls Tryz.prog 31 #[.float .f64 b] w fun e w' => e = .returned (.bool true) ∧ w = w' := by
  have hr := le_max_fin _ h
  rw [← abs_is b hb] at hr
  have h := run_bits
  have h' := run_frombits
  go_enter Tryz.func31, Tryz.ntmps31
  go_wp2
  go_ret
  exact ⟨rfl, rfl⟩
theorem finite_yes (b : Nat) (w : World) (hb : b < 18446744073709551616) (h : Finite b) : Calls Tryz.prog 5 #[.float .f64 b] w fun e w' => e = .returned (.bool true) ∧ w = w' := by
  have g := gt_max_fin _ h
  have ha := abs_is b hb
  unfold Finite at h
  have k1 := isNaN_no b w (by omega)
  have k2 := isInf_any b _ _ w ha g
  clear ha g hb
  go_enter Tryz.func5, Tryz.ntmps5
  go_wp2_with (first | (go_at_call 9; refine k1.mono ?_; rintro e w' ⟨rfl, rfl⟩) | (go_at_call 10; refine k2.mono ?_; rintro e w' ⟨rfl, rfl⟩))
  go_ret
  exact ⟨rfl, rfl⟩
theorem finite_no (b : Nat) (w : World) (hb : b < 18446744073709551616) (h : ¬ Finite b) : Calls Tryz.prog 5 #[.float .f64 b] w fun e w' => e = .returned (.bool false) ∧ w = w' := by
  unfold Finite at h
  rcases Nat.lt_or_ge 9218868437227405312 (b % 9223372036854775808) with h1 | h1
  · have k1 := isNaN_yes b w h1
    clear h h1 hb
    go_enter Tryz.func5, Tryz.ntmps5
    go_wp2_with (first | (go_at_call 9; refine k1.mono ?_; rintro e w' ⟨rfl, rfl⟩))
    go_ret
    exact ⟨rfl, rfl⟩
  · have k1 := isNaN_no b w h1
    have ha := abs_is b hb
    rw [show b % 9223372036854775808 = 9218868437227405312 by omega] at ha
    have k2 := isInf_any b _ _ w ha gt_max_inf
    clear h h1 hb ha
    go_enter Tryz.func5, Tryz.ntmps5
    go_wp2_with (first | (go_at_call 9; refine k1.mono ?_; rintro e w' ⟨rfl, rfl⟩) | (go_at_call 10; refine k2.mono ?_; rintro e w' ⟨rfl, rfl⟩))
    go_ret
    exact ⟨rfl, rfl⟩
theorem floatOf_any (n : Int) (w : World) : Calls Tryz.prog 12 #[.int .u64 n] w fun e w' => e = .returned (.float .f64 n.toNat) ∧ w = w' := by
  have h := run_frombits
  go_enter Tryz.func12, Tryz.ntmps12
  go_wp2
  go_ret
  exact ⟨rfl, rfl⟩

theorem info5 : (Tryz.prog.info? 5).map (fun i => (i.zero, i.size, i.bytes)) = some (some (.int .u8 0), 1, 1) := by kernel_rfl
theorem size47 : (Tryz.prog.info? 47).map (·.size) = some 2 := by kernel_rfl
theorem lies47 : liesAt Tryz.prog Tryz.prog.depth 47 (2 / Tryz.prog.cellsOf 47) 0 47 1 = true := by kernel_rfl
theorem run_noEscape (a : Value) (w : World) : (callFunc 51 #[a]).run Tryz.prog w = .ok (.value a) w := by
  rw [run_callFunc_extern (e := Extern.AbiNoEscape.same) Tryz.func51 (by kernel_rfl) (by kernel_rfl) (by kernel_rfl) (by kernel_rfl)]
  rw [Lib.run_noEscape]
  rfl

/-- copyCheck at a fresh Builder: it stores its own address. -/
theorem copyCheck (b : Nat) (w : World) (h0 : w.cell? ⟨b, 0, none⟩ = some (.pointer none)) (hsh : w.shape? b = some (47, 2)) (hfz : w.frozen? ⟨b, 0, none⟩ = false) :
    Calls Tryz.prog 45 #[.pointer (some ⟨b, 0, none⟩)] w fun e w' => e = .returned (.tuple #[]) ∧ w.setCell ⟨b, 0, none⟩ (.pointer (some ⟨b, 0, none⟩)) = w' := by
  obtain ⟨j, hj, hjs⟩ := Option.map_eq_some_iff.1 size47
  have n1 := run_noEscape
  have k1 := Lib.run_to_unsafe w ⟨b, 0, none⟩ Tryz.underlying45 Tryz.underlying76 hj (by rw [hjs]; decide) hsh (Nat.zero_lt_succ 1)
  have k2 := Lib.run_from_unsafe w ⟨b, 0, none⟩ Tryz.underlying76 Tryz.underlying45 hj hsh lies47
  clear hj hjs hsh
  go_enter Tryz.func45, Tryz.ntmps45
  go_wp2
  go_end0
  exact ⟨rfl, rfl⟩

set_option maxRecDepth 100000 in
/-- The first write into a fresh Builder. -/
theorem writeString (B b : Nat) (s : ByteArray) (w : World) (hB : B ≤ b) (hbk : w.heap[b]? = some (.cells #[.pointer none, .slice none 0 0] 47 (0, 0))) (hs : s.size ≤ 1000) (hBw : B ≤ w.heap.size) :
    Calls Tryz.prog 32 #[.pointer (some ⟨b, 0, none⟩), .string s] w fun e w' => ∃ r, e = .returned r ∧ Lib.BuilderAt 47 5 B b (.pointer (some ⟨b, 0, none⟩)) (Lib.strCells s) w' ∧ Below B w w' := by
  obtain ⟨i0, hi, hz0, hz1, hz2⟩ := info_parts info5
  have hat : Lib.BuilderAt 47 5 B b (.pointer none) [] w := ⟨hB, _, hbk, World.ownsRow_nil _ _ _ _, by simp [Value.ownBlock]⟩
  go_enter Tryz.func32, Tryz.ntmps32
  go_wp2_with fail
  refine (copyCheck b _ hat.cell0 hat.shape hat.frozen0).mono ?_
  rintro e w1 ⟨rfl, rfl⟩
  have hb1 : Below B w (w.setCell ⟨b, 0, none⟩ (.pointer (some ⟨b, 0, none⟩))) := (Below.refl B w).setCell (p := ⟨b, 0, none⟩) hB _
  obtain ⟨hB, v, hbk, hown, hne⟩ := hat.used (.pointer (some ⟨b, 0, none⟩))
  generalize w.setCell ⟨b, 0, none⟩ (.pointer (some ⟨b, 0, none⟩)) = w1 at *
  have c0 : w1.cell? ⟨b, 0, none⟩ = some (.pointer (some ⟨b, 0, none⟩)) := by rw [Lib.cell_of_heap hbk]; rfl
  have c1 : w1.cell? ⟨b, 1, none⟩ = some v := by rw [Lib.cell_of_heap hbk]; rfl
  go_wp2_with (at_builtin; refine Lib.wpList_append_own_string _ rfl _ _ 35 9 rfl B 5 i0 Tryz.underlying35 Tryz.underlying9 hi hz0 hz1 hz2 _ _ _ rfl hown s rfl ?c3 ?c4 ?c5 ?_)
  case c3 => unfold maxLen; simp; omega
  case c4 => simp; omega
  case c5 => have := hb1.size; omega
  intro v' w2 hown' hgrow _
  have hlt : b < w1.heap.size := by
    rcases Nat.lt_or_ge b w1.heap.size with h' | h'
    · exact h'
    · simp [Array.getElem?_eq_none h'] at hbk
  have hb2 : w2.heap[b]? = some (.cells #[.pointer (some ⟨b, 0, none⟩), v] 47 (0, 0)) := by
    rw [hgrow.block b hlt (fun e => hne e.symm)]
    exact hbk
  have d0 : w2.cell? ⟨b, 0, none⟩ = some (.pointer (some ⟨b, 0, none⟩)) := by rw [Lib.cell_of_heap hb2]; rfl
  have d1 : w2.cell? ⟨b, 1, none⟩ = some v := by rw [Lib.cell_of_heap hb2]; rfl
  have f1 : w2.frozen? ⟨b, 1, none⟩ = false := Lib.frozen_of_heap hb2 1
  obtain ⟨ao, n', cap, rfl⟩ : ∃ ao n' cap, v' = .slice ao n' cap := by
    rcases hown'.2 with ⟨hv, _⟩ | ⟨g, cap, cur, hv, _⟩
    · exact ⟨_, _, _, hv⟩
    · exact ⟨_, _, _, hv⟩
  go_wp2
  go_ret2
  refine ⟨_, rfl, ?_, ?_⟩
  · exact Lib.BuilderAt.put (T := 47) (e := 5) hB hb2 (bs' := Lib.strCells s) (by simpa [Lib.strCells_length] using hown') (by decide)
  · exact (hb1.grown hgrow (by have := hb1.size; omega) (fun k hk => (hown.lt k hk).1)).setCell (p := ⟨b, 1, none⟩) hB _
end Go.Proofs.YtgjfjbghdpcllaaGreatDoor
