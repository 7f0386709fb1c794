/- The walks from FormatFloat up to FloatForm. -/
import Derived.Test.YtgjfjbghdpcllaaGreatDoorW9
import Derived.Laws.BytesArg
namespace Go.Proofs.YtgjfjbghdpcllaaGreatDoor
open Go Go.RowKit U

theorem mx2 (k k' : IntKind) (x y : Int) : Builtin.max2 (.int k x) (.int k' y) = pure (.int k (if x < y then y else x)) := by simp only [Builtin.max2, gt_iff_lt]
theorem mx_two (ats : Array TypeId) (ty : TypeId) (a b : Value) : Builtin.max_ ats ty #[a, b] = (Builtin.max2 a b >>= fun s => pure s) := by simp only [Builtin.max_, List.foldlM_cons, List.foldlM_nil]
attribute [local go_sem] mx2 mx_two
theorem conv_own {w : World} {B : Nat} {v : Value} {l : List Int} (h : w.ownsRow B 5 1 v l.length (vb l)) (hl : l ≠ []) : (convert 35 9 v).run Tryz.prog w = .ok (.string (strOfNums l)) w := by
  rcases h.2 with ⟨_, hn⟩ | ⟨g, cap, cur, rfl, _, hg, hn, _, hcs, htake⟩
  · exact absurd (List.length_eq_zero_iff.1 hn) hl
  · refine run_convert_bytes_arg w 35 5 Tryz.underlying35 Tryz.underlying5 g 0 l.length cap l rfl (fun i hi => ?_) 9 Tryz.underlying9
    rw [Lib.cell_of_heap hg]
    have h1 : (vb l)[0 + i]? = some (.int .u8 (l.getD i 0)) := by
      simp [vb, List.getD, hi]
    rw [← htake, List.getElem?_take, if_pos (by omega)] at h1
    simpa using h1
theorem make24 (w : World) : (Instr.makeSlice 35 (.int .i64 0) (.int .i64 24)).run Tryz.prog w = .ok (.slice (some ⟨w.heap.size, 0, none⟩) 0 24) (w.alloc (.cells zeros24 5)) := by kernel_rfl
/-- What ftoa64 does at a float, from a world on. -/
def FF (bN : Nat) (c : Int) (l : List Int) (w : World) : Prop := ∀ (v : Value) (B : Nat) (w' : World), Below w.heap.size w w' → w'.ownsRow B 5 1 v 0 [] → B ≤ w'.heap.size →
  Calls Tryz.prog 53 #[v, .float .f64 bN, .int .u8 c, .int .i64 6] w' fun e w2 => ∃ v', e = .returned v' ∧ w2.ownsRow B 5 1 v' l.length (vb l) ∧ Below B w' w2
theorem FF.later {bN : Nat} {c : Int} {l : List Int} {w w' : World} (h : FF bN c l w) (hb : Below w.heap.size w w') : FF bN c l w' :=
  fun v B w2 hb2 => h v B w2 (hb.trans (hb2.mono hb.size))
set_option maxRecDepth 100000 in
theorem format46 (bN : Nat) (c : Int) (l : List Int) (w : World) (hF : FF bN c l w) (hl : l ≠ []) :
    Calls Tryz.prog 46 #[.float .f64 bN, .int .u8 c, .int .i64 6, .int .i64 64] w fun e w' => e = .returned (.string (strOfNums l)) ∧ Below w.heap.size w w' := by
  have b1 : Below w.heap.size w (w.alloc (.cells zeros24 5)) := (Below.refl _ w).alloc (Nat.le_refl _) _
  have o1 : (w.alloc (.cells zeros24 5)).ownsRow w.heap.size 5 1 (.slice (some ⟨w.heap.size, 0, none⟩) 0 24) 0 [] := World.ownsRow_made w zeros24 24 (Nat.le_refl _) (by decide) rfl
  have F := hF _ _ _ b1 o1 (by simp)
  have mk := make24
  clear hF o1
  go_enter Tryz.func46, Tryz.ntmps46
  go_wp2_with fail
  refine F.mono ?_; rintro _ w2 ⟨v', rfl, o2, b2⟩
  have cv := conv_own o2 hl
  have b3 : Below w.heap.size w w2 := b1.trans b2
  clear o2 hl F mk b1 b2
  go_wp2_with fail
  go_ret
  exact ⟨rfl, b3⟩
theorem format33 (bN : Nat) (c : Int) (l : List Int) (w : World) (hF : FF bN c l w) (hl : l ≠ []) :
    Calls Tryz.prog 33 #[.float .f64 bN, .int .u8 c, .int .i64 6, .int .i64 64] w fun e w' => e = .returned (.string (strOfNums l)) ∧ Below w.heap.size w w' := by
  have F := format46 bN c l w hF hl
  clear hF hl
  go_enter Tryz.func33, Tryz.ntmps33
  go_wp2_with fail
  refine F.mono ?_; rintro _ w2 ⟨rfl, b2⟩
  go_wp2_with fail
  go_ret
  exact ⟨rfl, b2⟩
set_option maxRecDepth 100000 in
theorem format20 (bN : Nat) (c : Int) (l : List Int) (w : World) (hF : FF bN c l w) (hl : l ≠ []) (hl1 : l.length ≤ 1000) (hb : bN < 18446744073709551616) (hfin : Finite bN) (e1 : (c == 103) = false) (e2 : (c == 71) = false) (B b : Nat) (hB : B ≤ b) (hBw : B ≤ w.heap.size)
    (hbk : w.heap[b]? = some (.cells #[.pointer none, .slice none 0 0] 47 (0, 0))) (hbl : b < w.heap.size) :
    Calls Tryz.prog 20 #[.float .f64 bN, .pointer (some ⟨b, 0, none⟩), .int .u8 c] w fun e w' => ∃ r, e = .returned r ∧ Lib.BuilderAt 47 5 B b (.pointer (some ⟨b, 0, none⟩)) (Lib.strCells (strOfNums l)) w' ∧ Below B w w' := by
  have K := isFinite_yes bN w hb hfin
  have F := format33 bN c l w hF hl
  have HB := Lib.hid hbk
  clear hF hl hb hfin hbk
  go_enter Tryz.func20, Tryz.ntmps20
  go_wp2_with fail
  refine K.mono ?_; rintro _ w1 ⟨rfl, rfl⟩
  go_wp2_with fail
  refine F.mono ?_; rintro _ w2 ⟨rfl, b2⟩
  have W := writeString B b (strOfNums l) w2 hB ((b2.block b hbl).trans HB.out) (by rw [strOfNums_size]; exact hl1) (Nat.le_trans hBw b2.size)
  go_wp2_with fail
  refine W.mono ?_; rintro _ w3 ⟨r, rfl, hat, b3⟩
  go_wp2_with fail
  go_end0
  exact ⟨_, rfl, hat, (b2.mono hBw).trans b3⟩
set_option maxRecDepth 100000 in
theorem form11 (bN : Nat) (c : Int) (l : List Int) (w : World) (hF : FF bN c l w) (hl : l ≠ []) (hl1 : l.length ≤ 1000) (hb : bN < 18446744073709551616) (hfin : Finite bN) (e1 : (c == 103) = false) (e2 : (c == 71) = false) :
    Calls Tryz.prog 11 #[.float .f64 bN, .int .u8 c] w fun e w' => e = .returned (.string (strOfNums l)) ∧ Below w.heap.size w w' := by
  have b1 : Below w.heap.size w (w.alloc (.cells #[.pointer none, .slice none 0 0] 47)) := (Below.refl _ w).alloc (Nat.le_refl _) _
  have F := format20 bN c l _ (hF.later b1) hl hl1 hb hfin e1 e2 w.heap.size w.heap.size (Nat.le_refl _) (by simp) (heap_alloc_new w _) (by simp)
  clear hF hb hfin e1 e2
  go_enter Tryz.func11, Tryz.ntmps11
  go_wp2_with fail
  refine F.mono ?_; rintro _ w2 ⟨r, rfl, hat, b2⟩
  have hat' : Lib.IsBuilder 47 5 w.heap.size w.heap.size (Lib.byteCells (l.map fun n => UInt8.ofNat n.toNat)) w2 := Or.inr (by rw [← strOfNums_data, ← Lib.strCells_eq]; exact hat)
  have S := Tryz.Builder_String_any w.heap.size w.heap.size _ w2 hat' (b1.trans b2).size
  clear F
  go_wp2_with fail
  refine S.mono ?_; rintro _ w3 ⟨rfl, b3⟩
  go_wp2_with fail
  go_ret
  exact ⟨rfl, (b1.trans b2).trans b3⟩
theorem form6 (bN : Nat) (c : Int) (l : List Int) (w : World) (hF : FF bN c l w) (hl : l ≠ []) (hl1 : l.length ≤ 1000) (hb : bN < 18446744073709551616) (hfin : Finite bN) (e1 : (c == 103) = false) (e2 : (c == 71) = false) :
    Calls Tryz.prog 6 #[.int .u64 bN, .int .u8 c] w fun e w' => e = .returned (.string (strOfNums l)) ∧ Below w.heap.size w w' := by
  have F := form11 bN c l w hF hl hl1 hb hfin e1 e2
  have K := floatOf_any bN w
  rw [Int.toNat_natCast] at K
  clear hF hl hl1 hb hfin e1 e2
  go_enter Tryz.func6, Tryz.ntmps6
  go_wp2_with fail
  refine K.mono ?_; rintro _ w1 ⟨rfl, rfl⟩
  go_wp2_with fail
  refine F.mono ?_; rintro _ w2 ⟨rfl, b2⟩
  go_wp2_with fail
  go_ret
  exact ⟨rfl, b2⟩
end Go.Proofs.YtgjfjbghdpcllaaGreatDoor
