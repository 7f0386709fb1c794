/- The library's tables, out of what the row lists. -/
import Derived.Test.YtgjfjbghdpcllaaGreatDoorJ3
import Derived.Lib.LaidU8
import Derived.Deep.DeepHandedRow
import Derived.OpenShut
namespace Go.Proofs.YtgjfjbghdpcllaaGreatDoor
open Go Go.RowKit U I

theorem global1 : Tryz.prog.globalNamed "internal/strconv.optimize" = some 1 := by kernel_rfl
theorem global1t : (Tryz.prog.globals[1]?).map (·.type) = some 4 := by kernel_rfl
theorem global3t : (Tryz.prog.globals[3]?).map (·.type) = some 113 := by kernel_rfl
theorem global4 : Tryz.prog.globalNamed "internal/strconv.pow10Tab" = some 4 := by kernel_rfl
theorem global4t : (Tryz.prog.globals[4]?).map (·.type) = some 122 := by kernel_rfl
theorem cells22 : Tryz.prog.cellsOf 22 = 1 := by kernel_rfl
theorem cells113 : Tryz.prog.cellsOf 113 = 20 := by kernel_rfl
theorem cells121 : Tryz.prog.cellsOf 121 = 2 := by kernel_rfl
theorem fields121 : Tryz.prog.underlying 121 = some (.struct #[{ name := "hi", type := 22, offset := 0, embedded := false, tag := "", pkgPath := "internal/strconv", byteOffset := 0 }, { name := "lo", type := 22, offset := 1, embedded := false, tag := "", pkgPath := "internal/strconv", byteOffset := 8 }]) := by kernel_rfl
theorem ten_data : Rows.laid_internal_strconv_uint64pow10 (H := Unit) = Lib.tabData .u64 Lib.pow10Tab := by kernel_rfl
theorem tab_of (W : World) (h : laidMet Tryz.prog Rows.fnFloatPoweredRow.laid W) : Tab W := by
  obtain ⟨g1, ty1, cs1, fu1, p1, hg1, ht1, hv1, hd1⟩ := Lib.laidMet.reads h (n := "internal/strconv.optimize") (d := Rows.laid_internal_strconv_optimize) (by simp [Rows.fnFloatPoweredRow])
  obtain ⟨g3, ty3, cs3, fu3, p3, hg3, ht3, hv3, hd3⟩ := Lib.laidMet.reads h (n := "internal/strconv.uint64pow10") (d := Rows.laid_internal_strconv_uint64pow10) (by simp [Rows.fnFloatPoweredRow])
  obtain ⟨g4, ty4, cs4, fu4, p4, hg4, ht4, hv4, hd4⟩ := Lib.laidMet.reads h (n := "internal/strconv.pow10Tab") (d := Rows.laid_internal_strconv_pow10Tab) (by simp [Rows.fnFloatPoweredRow])
  obtain rfl : (1 : Nat) = g1 := Option.some.inj (global1.symm.trans hg1)
  obtain rfl : (3 : Nat) = g3 := Option.some.inj (global3.symm.trans hg3)
  obtain rfl : (4 : Nat) = g4 := Option.some.inj (global4.symm.trans hg4)
  obtain rfl : (4 : Nat) = ty1 := Option.some.inj (global1t.symm.trans ht1)
  obtain rfl : (113 : Nat) = ty3 := Option.some.inj (global3t.symm.trans ht3)
  obtain rfl : (122 : Nat) = ty4 := Option.some.inj (global4t.symm.trans ht4)
  have hopt : W.cell? ⟨1, 0, none⟩ = some (.bool true) := by
    obtain ⟨b, hc, hx⟩ := DataW.trod_bool Tryz.underlying4 hd1
    unfold Rows.laid_internal_strconv_optimize at hx
    have hb : true = b := by
      have := congrArg Prod.fst hx
      injection this with h1
      injection h1
    subst hb
    have := World.var?_cell hg1 hv1 0
    rw [this]
    have : cs1.toList[0]? = some (.bool true) := by rw [hc]; rfl
    simpa using this
  have hten : Lib.TabIs Tryz.prog W "internal/strconv.uint64pow10" .u64 Lib.pow10Tab := by
    unfold Lib.TabIs
    rw [ten_data] at hd3
    rw [hv3, ← Lib.cells_of_tab Tryz.underlying113 Tryz.underlying22 cells22 cells113 hd3]
  have hpow : ∀ i, i < 696 → W.cell? ⟨4, i * 2, none⟩ = some (.int .u64 ((Go.Pinned.pow10Rows.getD i (0, 0)).1 : Nat)) ∧ W.cell? ⟨4, i * 2 + 1, none⟩ = some (.int .u64 ((Go.Pinned.pow10Rows.getD i (0, 0)).2 : Nat)) := by
    intro i hi
    obtain ⟨xs, m, _, hx, _, hxl, hall⟩ := DataW.trod_array Tryz.underlying122 hd4
    have h1 := hall i hi
    rw [cells121] at h1
    have hxi : i < xs.length := by omega
    rw [List.getElem?_eq_getElem hxi] at h1
    have hmap : xs.map (·.1) = Go.Pinned.pow10Rows.map fun x => (DataW.agg [.lit (.int .u64 x.1), .lit (.int .u64 x.2)] : DataW Unit) := by
      have := congrArg Prod.fst hx
      have := DataW.agg.inj this
      exact this.symm
    have hrl : i < Go.Pinned.pow10Rows.length := by
      have := congrArg List.length hmap
      simp only [List.length_map] at this
      omega
    have hfst : (xs[i]).1 = DataW.agg [.lit (.int .u64 (Go.Pinned.pow10Rows[i]).1), .lit (.int .u64 (Go.Pinned.pow10Rows[i]).2)] := by
      have := congrArg (·[i]?) hmap
      simpa [List.getElem?_eq_getElem hxi, List.getElem?_eq_getElem hrl] using this
    have hget : Go.Pinned.pow10Rows.getD i (0, 0) = Go.Pinned.pow10Rows[i] := by simp [List.getD, List.getElem?_eq_getElem hrl]
    rw [hget]
    generalize Go.Pinned.pow10Rows[i] = r at *
    have hst := Lib.ints_of_struct (zs := [(r.1 : Int), (r.2 : Int)]) (k := .u64) fields121 (by
      intro j f hf
      match j, hf with
      | 0, hf => cases hf; exact ⟨Tryz.underlying22, rfl, cells22⟩
      | 1, hf => cases hf; exact ⟨Tryz.underlying22, rfl, cells22⟩) cells121 (h1.trans (congrArg some (Prod.ext hfst rfl)))
    have c0 := congrArg (·[0]?) hst
    have c1 := congrArg (·[1]?) hst
    simp [List.getElem?_drop] at c0 c1
    exact ⟨(World.var?_cell hg4 hv4 (i * 2)).trans c0, (World.var?_cell hg4 hv4 (i * 2 + 1)).trans c1⟩
  refine ⟨?_, hopt, hten, hpow⟩
  exact World.block_lt_of_cell? W ⟨4, 0 * 2, none⟩ (hpow 0 (by decide)).1
end Go.Proofs.YtgjfjbghdpcllaaGreatDoor
