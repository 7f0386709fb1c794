/- walks of MathOne -/
import Derived.Test.YthabnggoidhfeaaGreatDoorW1
namespace Go.Proofs.YthabnggoidhfeaaGreatDoor
open Go Go.RowKit

set_option maxRecDepth 100000 in
theorem scalar_float (n : Nat) (w : World) : Calls Tryz.prog 9 #[.int .i64 3, floatVal n] w fun e w' => e = .returned (.tuple #[.iface 53 (.float .f64 n), .bool true]) ∧ w.alloc (.cells #[.int .i64 3, .bool false, .slice none 0 0, .int .u64 n, .string ⟨#[]⟩, .slice none 0 0] 28) = w' := by
  have h' := run_frombits
  unfold floatVal
  go_enter Tryz.func9, Tryz.ntmps9
  go_wp2
  go_ret2
  exact ⟨rfl, rfl⟩

set_option maxRecDepth 100000 in
theorem tellScalar_float (n : Nat) (w : World) : Calls Tryz.prog 21 #[.iface 53 (.float .f64 n)] w fun e w' => e = .returned (floatVal n) ∧ w.alloc (.cells #[.int .i64 3, .bool false, .slice none 0 0, .int .u64 n, .string ⟨#[]⟩, .slice none 0 0] 28) = w' := by
  have h := run_bits
  have a45 := as45
  have a46 := as46
  have a51 := as51
  have a53 := as53
  unfold floatVal
  go_enter Tryz.func21, Tryz.ntmps21
  go_wp2
  refine bodyPost_ret (v := .agg #[.int .i64 3, .bool false, .slice none 0 0, .int .u64 n, .string ⟨#[]⟩, .slice none 0 0]) (by simp [results, Tryz.results21, go_sem]) rfl ⟨rfl, rfl⟩

theorem two_cells (w : World) (o : Obj) (c : Array Value) (t : TypeId) (i : Nat) : ((w.alloc o).alloc (.cells c t)).cell? ⟨w.heap.size + 1, i, none⟩ = c[i]? :=
  World.cell?_alloc_at _ _ _ _ (by simp)
theorem mid_cells (w : World) (o o' : Obj) (c : Array Value) (t : TypeId) (i : Nat) : (((w.alloc o).alloc (.cells c t)).alloc o').cell? ⟨w.heap.size + 1, i, none⟩ = c[i]? :=
  (World.cell?_alloc_past _ _ _ (by simp)).trans (two_cells w o c t i)
theorem bcell {W w1 : World} (hb : Below W.heap.size W w1) : (∀ b o, b < W.heap.size → w1.cell? ⟨b, o, none⟩ = W.cell? ⟨b, o, none⟩) ∧ (∀ b o, b < W.heap.size → w1.frozen? ⟨b, o, none⟩ = W.frozen? ⟨b, o, none⟩) :=
  ⟨fun b o h => hb.cell (p := ⟨b, o, none⟩) h, fun b o h => hb.frozen (p := ⟨b, o, none⟩) h⟩

set_option maxRecDepth 100000 in
theorem scalarOf_float (n : Nat) (w : World) : Calls Tryz.prog 10 #[.iface 53 (.float .f64 n), .nilIface] w fun e w' => e = .returned (.tuple #[floatVal n, .bool true]) ∧ (w.alloc (.cells #[.int .i64 3, .bool false, .slice none 0 0, .int .u64 n, .string ⟨#[]⟩, .slice none 0 0] 28)).alloc (.cells #[.int .i64 3, .bool false, .slice none 0 0, .int .u64 n, .string ⟨#[]⟩, .slice none 0 0] 28) = w' := by
  unfold floatVal
  go_enter Tryz.func10, Tryz.ntmps10
  go_wp2_with (go_at_call 21; refine (tellScalar_float _ _).mono ?_; rintro e w' ⟨rfl, rfl⟩; unfold floatVal)
  refine bodyPost_ret (v := .tuple #[.agg #[.int .i64 3, .bool false, .slice none 0 0, .int .u64 n, .string ⟨#[]⟩, .slice none 0 0], .bool true]) (by simp [results, Tryz.results10, go_sem]) rfl ⟨rfl, rfl⟩

set_option maxRecDepth 100000 in
theorem mathOne_fabs (n : Nat) (w : World) : Calls Tryz.prog 5 #[.int .i64 3, floatVal n] w fun e w' => e = .returned (.tuple #[floatVal (absBits n), .bool true]) ∧ Below w.heap.size w w' := by
  unfold floatVal
  go_enter Tryz.func5, Tryz.ntmps5
  go_wp2_with fail
  refine (scalar_float n _).mono ?_
  rintro e w1 ⟨rfl, rfl⟩
  go_wp2_with fail
  refine (zzfabs n _).mono ?_
  rintro e w2 ⟨rfl, hb⟩
  obtain ⟨hc, hf⟩ := bcell hb
  have c0 : w2.cell? ⟨w.heap.size + 1, 0, none⟩ = some (.int .i64 0) := (hc _ 0 (by simp)).trans (mid_cells w _ _ _ _ 0)
  have c1 : w2.cell? ⟨w.heap.size + 1, 1, none⟩ = some (.bool false) := (hc _ 1 (by simp)).trans (mid_cells w _ _ _ _ 1)
  have c2 : w2.cell? ⟨w.heap.size + 1, 2, none⟩ = some (.slice none 0 0) := (hc _ 2 (by simp)).trans (mid_cells w _ _ _ _ 2)
  have c3 : w2.cell? ⟨w.heap.size + 1, 3, none⟩ = some (.int .u64 0) := (hc _ 3 (by simp)).trans (mid_cells w _ _ _ _ 3)
  have c4 : w2.cell? ⟨w.heap.size + 1, 4, none⟩ = some (.string ⟨#[]⟩) := (hc _ 4 (by simp)).trans (mid_cells w _ _ _ _ 4)
  have c5 : w2.cell? ⟨w.heap.size + 1, 5, none⟩ = some (.slice none 0 0) := (hc _ 5 (by simp)).trans (mid_cells w _ _ _ _ 5)
  have f0 : ∀ o, w2.frozen? ⟨w.heap.size + 1, o, none⟩ = false := fun o => (hf _ o (by simp)).trans (by simp [go_sem])
  have f00 := f0 0
  have f01 := f0 1
  have f02 := f0 2
  have f03 := f0 3
  have f04 := f0 4
  have f05 := f0 5
  have hz : w.heap.size + 1 < w2.heap.size := by have := hb.size; simp at this; omega
  have hz0 : w.heap.size < w2.heap.size := by omega
  clear f0 hc hf
  go_wp2_with fail
  refine (scalarOf_float _ _).mono ?_
  rintro e w3 ⟨rfl, rfl⟩
  unfold floatVal
  go_wp2
  refine bodyPost_ret (v := .tuple #[.agg #[.int .i64 3, .bool false, .slice none 0 0, .int .u64 (absBits n), .string ⟨#[]⟩, .slice none 0 0], .bool true]) (by simp [results, Tryz.results5, go_sem, c0, c1, c2, c3, c4, c5, hz, hz0]) rfl ⟨rfl, ?_⟩
  have hB : Below w.heap.size w w2 := Below.trans ((((Below.refl _ _).alloc (Nat.le_refl _) _).alloc (by simp) _).alloc (by simp; omega) _) (hb.mono (by simp; omega))
  exact ((((((((hB.setCell (by simp) _).setCell (by simp) _).setCell (by simp) _).setCell (by simp) _).setCell (by simp) _).setCell (by simp) _).alloc (by simp; omega) _).alloc (by simp; omega) _)
/-- The square root of the float with the bits n, where it is no NaN. -/
def SqrtIs (n r : Nat) : Prop := ∀ s, FloatKind.f64.format.sqrt n = some s → r = s
theorem zzsqrt (n : Nat) (w : World) : Calls Tryz.prog 15 #[.iface 53 (.float .f64 n)] w fun e w' => ∃ r, e = .returned (.tuple #[.iface 53 (.float .f64 r), .nilIface]) ∧ SqrtIs n r ∧ Below w.heap.size w w' := by
  cases h : FloatKind.f64.format.sqrt n with
  | some r => exact (zzsqrt_some n r h w).mono fun e w' ⟨he, hb⟩ => ⟨r, he, (show SqrtIs n r from fun s hs => Option.some.inj (h.symm.trans hs)), hb⟩
  | none => exact (zzsqrt_none n h w).mono fun e w' ⟨r, he, hb⟩ => ⟨r, he, (show SqrtIs n r from fun s hs => absurd (h.symm.trans hs) (by simp)), hb⟩

set_option maxRecDepth 100000 in
theorem mathOne_sqrt (n : Nat) (w : World) : Calls Tryz.prog 5 #[.int .i64 4, floatVal n] w fun e w' => ∃ r, e = .returned (.tuple #[floatVal r, .bool true]) ∧ SqrtIs n r ∧ Below w.heap.size w w' := by
  unfold floatVal
  go_enter Tryz.func5, Tryz.ntmps5
  go_wp2_with fail
  refine (scalar_float n _).mono ?_
  rintro e w1 ⟨rfl, rfl⟩
  go_wp2_with fail
  refine (zzsqrt n _).mono ?_
  rintro e w2 ⟨r, rfl, hr, hb⟩
  obtain ⟨hc, hf⟩ := bcell hb
  have c0 : w2.cell? ⟨w.heap.size + 1, 0, none⟩ = some (.int .i64 0) := (hc _ 0 (by simp)).trans (mid_cells w _ _ _ _ 0)
  have c1 : w2.cell? ⟨w.heap.size + 1, 1, none⟩ = some (.bool false) := (hc _ 1 (by simp)).trans (mid_cells w _ _ _ _ 1)
  have c2 : w2.cell? ⟨w.heap.size + 1, 2, none⟩ = some (.slice none 0 0) := (hc _ 2 (by simp)).trans (mid_cells w _ _ _ _ 2)
  have c3 : w2.cell? ⟨w.heap.size + 1, 3, none⟩ = some (.int .u64 0) := (hc _ 3 (by simp)).trans (mid_cells w _ _ _ _ 3)
  have c4 : w2.cell? ⟨w.heap.size + 1, 4, none⟩ = some (.string ⟨#[]⟩) := (hc _ 4 (by simp)).trans (mid_cells w _ _ _ _ 4)
  have c5 : w2.cell? ⟨w.heap.size + 1, 5, none⟩ = some (.slice none 0 0) := (hc _ 5 (by simp)).trans (mid_cells w _ _ _ _ 5)
  have f0 : ∀ o, w2.frozen? ⟨w.heap.size + 1, o, none⟩ = false := fun o => (hf _ o (by simp)).trans (by simp [go_sem])
  have f00 := f0 0
  have f01 := f0 1
  have f02 := f0 2
  have f03 := f0 3
  have f04 := f0 4
  have f05 := f0 5
  have hz : w.heap.size + 1 < w2.heap.size := by have := hb.size; simp at this; omega
  have hz0 : w.heap.size < w2.heap.size := by omega
  clear f0 hc hf
  go_wp2_with fail
  refine (scalarOf_float _ _).mono ?_
  rintro e w3 ⟨rfl, rfl⟩
  unfold floatVal
  go_wp2
  refine bodyPost_ret (v := .tuple #[.agg #[.int .i64 3, .bool false, .slice none 0 0, .int .u64 r, .string ⟨#[]⟩, .slice none 0 0], .bool true]) (by simp [results, Tryz.results5, go_sem, c0, c1, c2, c3, c4, c5, hz, hz0]) rfl ⟨r, rfl, hr, ?_⟩
  have hB : Below w.heap.size w w2 := Below.trans ((((Below.refl _ _).alloc (Nat.le_refl _) _).alloc (by simp) _).alloc (by simp; omega) _) (hb.mono (by simp; omega))
  exact ((((((((hB.setCell (by simp) _).setCell (by simp) _).setCell (by simp) _).setCell (by simp) _).setCell (by simp) _).setCell (by simp) _).alloc (by simp; omega) _).alloc (by simp; omega) _)
end Go.Proofs.YthabnggoidhfeaaGreatDoor
