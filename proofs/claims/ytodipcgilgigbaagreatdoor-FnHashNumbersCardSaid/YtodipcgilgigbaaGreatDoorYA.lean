/- A word shifted to the left, into a new number. -/
import Derived.Test.YtodipcgilgigbaaGreatDoorX7
import Derived.Lib.SliceRun
import Derived.BigRegion
import Derived.LaidEqlPtr
import Derived.Defers
import Derived.Deep.RegionHeld3
import Derived.Test.YtodipcgilgigbaaGreatDoorVY
set_option linter.unusedVariables false
namespace Go.Proofs.YtodipcgilgigbaaGreatDoor.V
open Go Go.RowKit Go.Proofs.YtodipcgilgigbaaGreatDoor.I
attribute [local go_sem ↓] Go.wp_at_zero Go.wp_at_succ
theorem wv_zeros (d : Nat) : wv (List.replicate d 0) = 0 := by
  induction d with
  | zero => rfl
  | succ d ih => rw [List.replicate_succ]; simp [wv, ih]
/-- The words of a word times 2 to the s. -/
def shl1 (v d e : Nat) : List Int := List.replicate d 0 ++ [((v * 2 ^ e % 18446744073709551616 : Nat) : Int), ((v * 2 ^ e / 18446744073709551616 : Nat) : Int)]
theorem shl1_length (v d e : Nat) : (shl1 v d e).length = d + 2 := by simp [shl1]
theorem shl1_wv (v d e : Nat) : wv (shl1 v d e) = v * 2 ^ (64 * d + e) := by
  unfold shl1
  rw [wv_append, wv_zeros, List.length_replicate, Nat.zero_add]
  have h := Nat.div_add_mod (v * 2 ^ e) 18446744073709551616
  have e1 : wv [((v * 2 ^ e % 18446744073709551616 : Nat) : Int), ((v * 2 ^ e / 18446744073709551616 : Nat) : Int)] = v * 2 ^ e := by
    simp only [wv, Int.toNat_natCast]
    omega
  rw [e1, pow64, Nat.pow_add, Nat.mul_comm (2 ^ (64 * d)), Nat.mul_assoc, Nat.mul_comm (2 ^ e)]
theorem shl1_words (v d e : Nat) (hv : v < 18446744073709551616) (he : e < 64) : Words (shl1 v d e) := by
  intro x hx
  unfold shl1 at hx
  rcases List.mem_append.1 hx with h | h
  · have := (List.mem_replicate.1 h).2
    omega
  · have hp : 2 ^ e < 18446744073709551616 := (show (2 : Nat) ^ e < 2 ^ 64 from Nat.pow_lt_pow_right (by omega) he)
    have h2 : v * 2 ^ e / 18446744073709551616 < 18446744073709551616 := by
      have : v * 2 ^ e ≤ 18446744073709551615 * 18446744073709551615 := Nat.mul_le_mul (by omega) (by omega)
      omega
    have h3 := Nat.mod_lt (v * 2 ^ e) (show 18446744073709551616 > 0 by omega)
    simp only [List.mem_cons, List.not_mem_nil, or_false] at h
    rcases h with rfl | rfl <;> omega
theorem shl1_top (v e : Nat) (he : 0 < e) (he2 : e < 64) : v * 2 ^ e / 18446744073709551616 = v / 2 ^ (64 - e) := by
  have p : 2 ^ e * 2 ^ (64 - e) = 18446744073709551616 := by rw [← Nat.pow_add, show e + (64 - e) = 64 by omega]
  rw [← p, Nat.mul_comm v, Nat.mul_div_mul_left _ _ (Nat.two_pow_pos e)]
set_option maxRecDepth 100000 in
theorem lshg_one (x s gz d c1 gx cx : Nat) (hs : 0 < s) (hs2 : s < 64) (z0 : Value) (w : World) (hx : w.cell? ⟨gx, 0, none⟩ = some (.int .u64 x)) (hz : w.cell? ⟨gz, d, none⟩ = some z0) (hf : w.frozen? ⟨gz, d, none⟩ = false) :
    Calls Tryz.prog 101 #[.slice (some ⟨gz, d, none⟩) 1 c1, .slice (some ⟨gx, 0, none⟩) 1 cx, .int .u64 s] w fun e w' => e = .returned (.int .u64 ((x / 2 ^ (64 - s) : Nat) : Int)) ∧ w' = w.setCell ⟨gz, d, none⟩ (.int .u64 ((x * 2 ^ s % 18446744073709551616 : Nat) : Int)) := by
  have s0 : ((s : Int) == 0) = false := by rw [beq_eq_false_iff_ne]; omega
  have sA : bits .and .u64 (s : Int) 63 = (s : Int) := by
    have := u64_and_nat s 63 (by omega) (by omega)
    rw [show ((63 : Nat) : Int) = 63 from rfl] at this
    rw [this, show (63 : Nat) = 2 ^ 6 - 1 from rfl, Nat.and_two_pow_sub_one_eq_mod, Nat.mod_eq_of_lt (by omega)]
  have sB : bits .and .u64 (64 - (s : Int)) 63 = 64 - (s : Int) := by
    have := u64_and_nat (64 - s) 63 (by omega) (by omega)
    rw [show ((63 : Nat) : Int) = 63 from rfl, show ((64 - s : Nat) : Int) = 64 - (s : Int) by omega] at this
    rw [this, show (63 : Nat) = 2 ^ 6 - 1 from rfl, Nat.and_two_pow_sub_one_eq_mod, Nat.mod_eq_of_lt (by omega)]
    omega
  have b1 : (0 : Int) < s := by omega
  have b2 : (s : Int) < 64 := by omega
  have hsh := shl_mod x s
  have hdv : (x : Int) / 2 ^ (64 - s) = ((x / 2 ^ (64 - s) : Nat) : Int) := by rw [Int.natCast_ediv, Int.natCast_pow]; rfl
  generalize x * 2 ^ s % 18446744073709551616 = y at *
  generalize hq : x / 2 ^ (64 - s) = q at *
  clear hq
  go_enter Tryz.func101, Tryz.ntmps101
  go_wp2_with fail
  go_loop [8] (fun i => i = .int .i64 0) (fun _ => 0)
  case atStart => exact rfl
  case round =>
    obtain rfl := hrel
    go_wp2_with fail
    go_ret
    exact ⟨rfl, rfl⟩
set_option maxRecDepth 100000 in
theorem make_over (A : Option Addr) (l c n : Nat) (hn : 2 ≤ n) (hn2 : n ≤ 1000) (hc : c < n) (w : World) : Calls Tryz.prog 89 #[.slice A l c, .int .i64 n] w fun e w' => e = .returned (.slice (some ⟨w.heap.size, 0, none⟩) n (n + 4)) ∧ w' = w.alloc (.cells (madeCells #[Value.int .u64 0] (n + 4)) 166) := by
  obtain ⟨i0, hi, hz0, hz1, hz2⟩ := info_parts infoW
  have hm := run_make (P := Tryz.prog) w 141 166 i0 (.int .u64 0) Tryz.underlying141 hi hz0 .i64 .i64 (n : Int) ((n : Int) + 4) (by omega) (by omega) (by rw [hz2]; omega) (by omega)
  rw [hz1, Nat.mul_one, show ((n : Int) + 4).toNat = n + 4 by omega, Int.toNat_natCast] at hm
  have hn1 : ((n : Int) == 1) = false := by rw [beq_eq_false_iff_ne]; omega
  have hn0 : decide ((n : Int) ≤ c) = false := decide_eq_false (by omega)
  have hn0' : decide (n ≤ c) = false := decide_eq_false (by omega)
  go_enter Tryz.func89, Tryz.ntmps89
  go_wp2_with fail
  go_ret
  exact ⟨rfl, rfl⟩
theorem lsh_one (x s gz d c1 gx cx : Nat) (hs : 0 < s) (hs2 : s < 64) (z0 : Value) (w : World) (hx : w.cell? ⟨gx, 0, none⟩ = some (.int .u64 x)) (hz : w.cell? ⟨gz, d, none⟩ = some z0) (hf : w.frozen? ⟨gz, d, none⟩ = false) :
    Calls Tryz.prog 91 #[.slice (some ⟨gz, d, none⟩) 1 c1, .slice (some ⟨gx, 0, none⟩) 1 cx, .int .u64 s] w fun e w' => e = .returned (.int .u64 ((x / 2 ^ (64 - s) : Nat) : Int)) ∧ w' = w.setCell ⟨gz, d, none⟩ (.int .u64 ((x * 2 ^ s % 18446744073709551616 : Nat) : Int)) := by
  have LC := lshg_one x s gz d c1 gx cx hs hs2 z0 w hx hz hf
  generalize x * 2 ^ s % 18446744073709551616 = y at *
  generalize x / 2 ^ (64 - s) = q at *
  go_enter Tryz.func91, Tryz.ntmps91
  go_wp2_with (go_at_call 101; ((with_reducible refine LC.mono ?_); (rintro _ w1 ⟨rfl, rfl⟩)))
  go_ret
  exact ⟨rfl, rfl⟩
theorem setCells_zeros {g cap d : Nat} : ∀ (xs : List Int) (w : World) (o : Nat), Row w g cap xs → o + d ≤ xs.length → Row (w.setCells g o (List.replicate d (.int .u64 0))) g cap (xs.take o ++ List.replicate d 0 ++ xs.drop (o + d)) := by
  induction d with
  | zero =>
    intro xs w o h hl
    have e : w.setCells g o [] = w := rfl
    rw [List.replicate_zero, List.replicate_zero, e]
    simpa using h
  | succ d ih =>
    intro xs w o h hl
    rw [List.replicate_succ]
    have h1 := h.set (i := o) 0
    have h2 := ih (xs.set o 0) (w.setCell ⟨g, o, none⟩ (.int .u64 0)) (o + 1) h1 (by simp; omega)
    have e : (xs.set o 0).take (o + 1) ++ List.replicate d 0 ++ (xs.set o 0).drop (o + 1 + d) = xs.take o ++ List.replicate (d + 1) 0 ++ xs.drop (o + (d + 1)) := by
      rw [List.take_set, List.drop_set_of_lt (by omega), List.replicate_succ, show o + 1 + d = o + (d + 1) by omega]
      have : (xs.take (o + 1)).set o 0 = xs.take o ++ [0] := by
        rw [List.take_succ_eq_append_getElem (by omega), List.set_append_right _ _ (by simp; omega)]
        simp [List.length_take, Nat.min_eq_left (show o ≤ xs.length by omega)]
      rw [this]
      simp
    rw [e] at h2
    exact h2
theorem zeros_set (d : Nat) (a b : Int) : (((List.replicate (d + 2) (0 : Int)).set d a).set (1 + d) b).drop d = [a, b] := by
  have e0 : List.replicate (d + 2) (0 : Int) = List.replicate d 0 ++ [0, 0] := by rw [← List.replicate_append_replicate]; rfl
  rw [e0, List.set_append_right _ _ (by simp), List.set_append_right _ _ (by simp)]
  simp
/-- lsh of a word, by less than 64 times d and e bits. -/
theorem row_shl {w : World} {g cap v d e : Nat} {xs : List Int} (h : Row w g cap xs) (hl : xs.length = d + 2) (h1 : xs.drop d = [((v * 2 ^ e % 18446744073709551616 : Nat) : Int), ((v * 2 ^ e / 18446744073709551616 : Nat) : Int)]) : Row (w.setCells g 0 (List.replicate d (.int .u64 0))) g cap (shl1 v d e) := by
  have := setCells_zeros (d := d) xs w 0 h (by omega)
  rw [List.take_zero, List.nil_append, Nat.zero_add, h1] at this
  exact this
theorem below_setCells {B g : Nat} {w w' : World} (h : Below B w w') (hg : B ≤ g) : ∀ (vs : List Value) (o : Nat), Below B w (w'.setCells g o vs) := by
  intro vs
  induction vs generalizing w' with
  | nil => intro o; exact h
  | cons v vs ih => intro o; exact ih (h.setCell (p := ⟨g, o, none⟩) hg v) (o + 1)
theorem zeroW : ∀ w, (zeroValue 166).run Tryz.prog w = .ok (.int .u64 0) w := Tryz.zeroValue166
theorem clear_zeros (d g cap : Nat) (xs : List Int) (w : World) (h : Row w g cap xs) (hd : d ≤ xs.length) (ty : TypeId) : (Builtin.clear_ #[141] ty #[.slice (some ⟨g, 0, none⟩) d cap]).run Tryz.prog w = .ok (.tuple #[]) (w.setCells g 0 (List.replicate d (.int .u64 0))) := by
  rcases Nat.eq_zero_or_pos d with rfl | h0
  · simp [Builtin.clear_, run_underlying Tryz.underlying141]
    rfl
  · refine Lib.run_clear_slice w _ _ ty _ Tryz.underlying141 zeroW rfl rfl g 0 d cap h0 (fun j hj => ?_) (fun j hj => by rw [Nat.zero_add]; exact h.frozen j)
    rw [Nat.zero_add, h.cell (List.getElem?_eq_getElem (show j < xs.length by omega))]
    rfl
set_option maxRecDepth 100000 in
set_option maxHeartbeats 1000000 in
theorem nlsh_some (v d e g : Nat) (hv0 : v ≠ 0) (hv : v < 18446744073709551616) (hd : d ≤ 200) (he : 0 < e) (he2 : e < 64) (w : World) (h : Row w g 1 [(v : Int)]) :
    Calls Tryz.prog 145 #[.slice (some ⟨g, 0, none⟩) 1 1, .slice (some ⟨g, 0, none⟩) 1 1, .int .u64 ((64 * d + e : Nat) : Int)] w (NewW w (v * 2 ^ (64 * d + e))) := by
  obtain ⟨s, hs⟩ : ∃ s : Int, ((64 * d + e : Nat) : Int) = s := ⟨_, rfl⟩
  have s0 : (s == 0) = false := by rw [beq_eq_false_iff_ne]; omega
  have sd : s / 64 = d := by omega
  have sm : s % 64 = e := by omega
  have s1 : 0 ≤ s := by omega
  have s2 : s < 100000 := by omega
  have e0 : ((e : Int) == 0) = false := by rw [beq_eq_false_iff_ne]; omega
  have MC := fun w => make_over (some ⟨g, 0, none⟩) 1 1 (d + 2) (by omega) (by omega) (by omega) w
  rw [show ((d + 2 : Nat) : Int) = 1 + (d : Int) + 1 by omega] at MC
  rw [hs]
  unfold NewW
  go_enter Tryz.func145, Tryz.ntmps145
  go_wp2_with fail
  with_reducible refine (MC _).mono ?_
  rintro _ w1 ⟨rfl, rfl⟩
  have hM := Row.made w (d + 2) (d + 2 + 4) (by omega)
  have hB := (Below.refl w.heap.size w).alloc (Nat.le_refl _) (.cells (madeCells #[Value.int .u64 0] (d + 2 + 4)) 166)
  obtain ⟨W, hW⟩ : ∃ W, w.alloc (.cells (madeCells #[Value.int .u64 0] (d + 2 + 4)) 166) = W := ⟨_, rfl⟩
  rw [hW] at hM hB ⊢
  clear hW
  have hx := (h.below hB).cell (i := 0) rfl
  have hz := hM.cell (i := d) (x := 0) (by rw [List.getElem?_replicate, if_pos (by omega)])
  have hf := hM.frozen d
  have hz2 := hM.cell (i := 1 + d) (x := 0) (by rw [List.getElem?_replicate, if_pos (by omega)])
  have hf2 := hM.frozen (1 + d)
  have hgz : g < w.heap.size := h.lt
  generalize hgz' : w.heap.size = gz at *
  have LC := fun c1 => lsh_one v e gz d c1 g 1 he he2 _ W hx hz hf
  have HX := Lib.hid (And.intro hM (And.intro hB (And.intro h hgz)))
  have d0 : (0 : Int) ≤ d := by omega
  have d1 : (d : Int) ≤ 200 := by omega
  clear hM hB h hgz hx
  go_upto_region 15 with fail
  rw [sm]
  go_wp2_with fail
  with_reducible refine (LC _).mono ?_
  rintro _ w2 ⟨rfl, rfl⟩
  obtain ⟨hM, hB, h, hgz⟩ := HX.out
  have R1 := (hM.set (i := d) ((v * 2 ^ e % 18446744073709551616 : Nat) : Int)).set (i := 1 + d) ((v / 2 ^ (64 - e) : Nat) : Int)
  have hdrop : ((((List.replicate (d + 2) (0 : Int)).set d ((v * 2 ^ e % 18446744073709551616 : Nat) : Int)).set (1 + d) ((v / 2 ^ (64 - e) : Nat) : Int))).drop d = [((v * 2 ^ e % 18446744073709551616 : Nat) : Int), ((v * 2 ^ e / 18446744073709551616 : Nat) : Int)] := by
    rw [shl1_top v e he he2]
    exact zeros_set _ _ _
  have R2 := row_shl R1 (by simp) hdrop
  have B1 := (hB.setCell (p := ⟨gz, d, none⟩) (Nat.le_refl _) (.int .u64 ((v * 2 ^ e % 18446744073709551616 : Nat) : Int))).setCell (p := ⟨gz, 1 + d, none⟩) (Nat.le_refl _) (.int .u64 ((v / 2 ^ (64 - e) : Nat) : Int))
  have C1 := (World.cell?_setCell_other W ⟨gz, d, none⟩ ⟨gz, 1 + d, none⟩ (.int .u64 ((v * 2 ^ e % 18446744073709551616 : Nat) : Int)) (by simp)).trans hz2
  have F1 := (hM.set (i := d) ((v * 2 ^ e % 18446744073709551616 : Nat) : Int)).frozen (1 + d)
  have CL := clear_zeros d gz (d + 2 + 4) _ _ R1 (by simp)
  have HR := Lib.hid (And.intro R2 B1)
  clear R1 R2 B1 hdrop hM hB h hgz hz hf hz2 hf2
  generalize ((v * 2 ^ e % 18446744073709551616 : Nat) : Int) = lo at *
  generalize ((v / 2 ^ (64 - e) : Nat) : Int) = hi at *
  go_wp2_with fail
  have NC := fun (w' : World) (h : Row w' gz (d + 2 + 4) (shl1 v d e)) => norm_row gz (d + 2 + 4) (shl1 v d e) (by rw [shl1_length]; omega) w' h
  rw [shl1_length] at NC
  refine (NC _ HR.out.1).mono ?_
  rintro _ w3 ⟨j, rfl, rfl, hj, hzz, hlast⟩
  have hiw := norm_is HR.out.1 (shl1_words v d e hv he2) (by rw [shl1_length]; exact hj) hzz hlast
  rw [shl1_wv] at hiw
  go_wp2_with fail
  go_ret
  rw [hgz']
  exact ⟨_, rfl, hiw, below_setCells HR.out.2 (Nat.le_refl _) _ _, fun g n c e => by injection e with e1; injection e1 with e2; injection e2 with e3; omega⟩
theorem copy_one (v gz d cap gx c1 : Nat) (ty : TypeId) (w : World) (xs : List Int) (h : Row w gz cap xs) (hd : d < xs.length) (hx : w.cell? ⟨gx, 0, none⟩ = some (.int .u64 v)) : (Builtin.copy_ #[141, 141] ty #[.slice (some ⟨gz, d, none⟩) 1 c1, .slice (some ⟨gx, 0, none⟩) 1 1]).run Tryz.prog w = .ok (goInt 1) (w.setCell ⟨gz, d, none⟩ (.int .u64 v)) := by
  obtain ⟨cs, hg, h2, h3, h4⟩ := h
  have hs1 : (Tryz.prog.info? 166).map (·.size) = some 1 := by kernel_rfl
  have k := run_copy_row (P := Tryz.prog) w 141 141 ty 166 gz d 1 c1 ⟨gx, 0, none⟩ 1 1 cs _ [.int .u64 v] Tryz.underlying141 hs1 hg rfl (fun j u hu => by
    have hj : j = 0 := by have := (List.getElem?_eq_some_iff.1 hu).1; simp at this; omega
    subst hj
    have : (Value.int .u64 v) = u := by simpa using hu
    rw [← this]
    exact hx) (by simp; omega) (fun u hu => by
    have : u = Value.int .u64 v := by simpa using hu
    rw [this]
    rfl)
  have e : (cs.toList.take d ++ [Value.int .u64 (v : Int)] ++ cs.toList.drop (d + [Value.int .u64 (v : Int)].length)).toArray = cs.setIfInBounds d (.int .u64 v) := by
    apply Array.ext'
    rw [Array.toList_setIfInBounds, List.set_eq_take_append_cons_drop, if_pos (by simp; omega)]
    simp
  rw [k, e, setCell_eq_setRow w gz d cs _ (0, 0) _ hg]
  rfl
set_option maxRecDepth 100000 in
set_option maxHeartbeats 1000000 in
theorem nlsh_whole (v d g : Nat) (hv0 : v ≠ 0) (hv : v < 18446744073709551616) (hd : d ≤ 200) (hd0 : 0 < d) (w : World) (h : Row w g 1 [(v : Int)]) :
    Calls Tryz.prog 145 #[.slice (some ⟨g, 0, none⟩) 1 1, .slice (some ⟨g, 0, none⟩) 1 1, .int .u64 ((64 * d : Nat) : Int)] w (NewW w (v * 2 ^ (64 * d))) := by
  obtain ⟨s, hs⟩ : ∃ s : Int, ((64 * d : Nat) : Int) = s := ⟨_, rfl⟩
  have s0 : (s == 0) = false := by rw [beq_eq_false_iff_ne]; omega
  have sd : s / 64 = d := by omega
  have sm : s % 64 = 0 := by omega
  have s1 : 0 ≤ s := by omega
  have s2 : s < 100000 := by omega
  have MC := fun w => make_over (some ⟨g, 0, none⟩) 1 1 (d + 2) (by omega) (by omega) (by omega) w
  rw [show ((d + 2 : Nat) : Int) = 1 + (d : Int) + 1 by omega] at MC
  rw [hs]
  unfold NewW
  go_enter Tryz.func145, Tryz.ntmps145
  go_wp2_with fail
  with_reducible refine (MC _).mono ?_
  rintro _ w1 ⟨rfl, rfl⟩
  have hM := Row.made w (d + 2) (d + 2 + 4) (by omega)
  have hB := (Below.refl w.heap.size w).alloc (Nat.le_refl _) (.cells (madeCells #[Value.int .u64 0] (d + 2 + 4)) 166)
  obtain ⟨W, hW⟩ : ∃ W, w.alloc (.cells (madeCells #[Value.int .u64 0] (d + 2 + 4)) 166) = W := ⟨_, rfl⟩
  rw [hW] at hM hB ⊢
  clear hW
  have hx := (h.below hB).cell (i := 0) rfl
  have hz := hM.cell (i := d) (x := 0) (by rw [List.getElem?_replicate, if_pos (by omega)])
  have hf := hM.frozen d
  have hz2 := hM.cell (i := 1 + d) (x := 0) (by rw [List.getElem?_replicate, if_pos (by omega)])
  have hf2 := hM.frozen (1 + d)
  have hgz : g < w.heap.size := h.lt
  generalize hgz' : w.heap.size = gz at *
  have LC := fun c1 ty => copy_one v gz d (d + 2 + 4) g c1 ty W _ hM (by simp) hx
  have HX := Lib.hid (And.intro hM (And.intro hB (And.intro h hgz)))
  have d0 : (0 : Int) ≤ d := by omega
  have d1 : (d : Int) ≤ 200 := by omega
  clear hM hB h hgz hx
  go_upto_region 14 with fail
  obtain ⟨hM, hB, h, hgz⟩ := HX.out
  have R1 := (hM.set (i := d) (v : Int)).set (i := 1 + d) 0
  have hdrop : ((((List.replicate (d + 2) (0 : Int)).set d (v : Int)).set (1 + d) 0)).drop d = [(v : Int), 0] := by
    exact zeros_set _ _ _
  have R2 := row_shl (d := d) (v := v) (e := 0) R1 (by simp) (by rw [Nat.pow_zero, Nat.mul_one, Nat.mod_eq_of_lt hv, Nat.div_eq_of_lt hv]; exact hdrop)
  have B1 := (hB.setCell (p := ⟨gz, d, none⟩) (Nat.le_refl _) (.int .u64 (v : Int))).setCell (p := ⟨gz, 1 + d, none⟩) (Nat.le_refl _) (.int .u64 0)
  have C1 := (World.cell?_setCell_other W ⟨gz, d, none⟩ ⟨gz, 1 + d, none⟩ (.int .u64 (v : Int)) (by simp)).trans hz2
  have F1 := (hM.set (i := d) (v : Int)).frozen (1 + d)
  have CL := clear_zeros d gz (d + 2 + 4) _ _ R1 (by simp)
  have HR := Lib.hid (And.intro R2 B1)
  clear R1 R2 B1 hdrop hM hB h hgz hz hf hz2 hf2
  go_wp2_with fail
  have NC := fun (w' : World) (h : Row w' gz (d + 2 + 4) (shl1 v d 0)) => norm_row gz (d + 2 + 4) (shl1 v d 0) (by rw [shl1_length]; omega) w' h
  rw [shl1_length] at NC
  refine (NC _ HR.out.1).mono ?_
  rintro _ w3 ⟨j, rfl, rfl, hj, hzz, hlast⟩
  have hiw := norm_is HR.out.1 (shl1_words v d 0 hv (by omega)) (by rw [shl1_length]; exact hj) hzz hlast
  rw [shl1_wv, Nat.add_zero] at hiw
  go_wp2_with fail
  go_ret
  rw [hgz']
  exact ⟨_, rfl, hiw, below_setCells HR.out.2 (Nat.le_refl _) _ _, fun g n c e => by injection e with e1; injection e1 with e2; injection e2 with e3; omega⟩
end Go.Proofs.YtodipcgilgigbaaGreatDoor.V
/- Int.SetUint64, Int.Lsh. -/
set_option linter.unusedVariables false
namespace Go.Proofs.YtodipcgilgigbaaGreatDoor.V
open Go Go.RowKit Go.Proofs.YtodipcgilgigbaaGreatDoor.I
attribute [local go_sem ↓] Go.wp_at_zero Go.wp_at_succ
set_option maxRecDepth 100000 in
theorem natU64_call (x : Nat) (h : x < 18446744073709551616) (w : World) : Calls Tryz.prog 135 #[.slice none 0 0, .int .u64 x] w (NewW w x) := by
  have SC := fun w => setWord_call x h w
  go_enter Tryz.func135, Tryz.ntmps135
  go_wp2_with (go_at_call 126; ((with_reducible refine (SC _).mono ?_); (rintro _ w1 ⟨v, rfl, hv, hb, hf⟩)))
  go_ret
  exact ⟨_, rfl, hv, hb, hf⟩
/-- A cell of a block that is no row of words is written. -/
def Put (w : World) (g o : Nat) (cs : Array Value) (T : TypeId) (neg : Bool) (v : Value) : Prop := w.heap[g]? = some (.cells ((cs.setIfInBounds (o + 1) v).setIfInBounds o (.bool neg)) T (0, 0))
set_option maxRecDepth 100000 in
theorem setU64_call (g o x : Nat) (hx : x < 18446744073709551616) (cs : Array Value) (T : TypeId) (hT : T ≠ 166) (b : Bool) (w : World) (hg : w.heap[g]? = some (.cells cs T (0, 0))) (h0 : cs[o]? = some (.bool b)) (h1 : cs[o + 1]? = some (.slice none 0 0)) :
    Calls Tryz.prog 131 #[.pointer (some ⟨g, o, none⟩), .int .u64 x] w fun e w' => e = .returned (.pointer (some ⟨g, o, none⟩)) ∧ (∃ v, Put w' g o cs T false v ∧ IsW w' v (words x) ∧ From w.heap.size v) ∧ Off (· = g) w w' := by
  have c0 := (Lib.cell_of_heap hg o).trans h0
  have c1 := (Lib.cell_of_heap hg (o + 1)).trans h1
  have hgl := (Array.getElem?_eq_some_iff.1 hg).1
  have SC := fun w => natU64_call x hx w
  go_enter Tryz.func131, Tryz.ntmps131
  go_wp2_with (go_at_call 135; ((with_reducible refine (SC _).mono ?_); (rintro _ w1 ⟨v1, rfl, hv1, hb1, hf1⟩; obtain ⟨A1, k1, rfl, _⟩ := hv1.form; have hg1 := (hb1.block g hgl).trans hg; have d1 := (Lib.cell_of_heap hg1 (o + 1)).trans h1; have z1 := Lib.frozen_of_heap hg1 (o + 1); have p1 := heap_put hg1 (o + 1) (.slice A1 (words x).length k1); have q0 : (w1.setCell ⟨g, o + 1, none⟩ (.slice A1 (words x).length k1)).cell? ⟨g, o, none⟩ = some (.bool b) := (World.cell?_setCell_other w1 ⟨g, o + 1, none⟩ ⟨g, o, none⟩ (.slice A1 (words x).length k1) (by simp)).trans ((Lib.cell_of_heap hg1 o).trans h0); have q1 := Lib.frozen_of_heap p1 o)))
  go_ret
  have p2 := heap_put p1 o (.bool false)
  refine ⟨rfl, ⟨_, p2, (hv1.setOther hg1 hT (o + 1) _).setOther p1 hT o _, hf1⟩, ?_⟩
  exact ((Off.of (S := (· = g)) hb1).setCell (p := ⟨g, o + 1, none⟩) (.inl rfl) _).setCell (p := ⟨g, o, none⟩) (.inl rfl) _
end Go.Proofs.YtodipcgilgigbaaGreatDoor.V
/- Numbers of one word; Int.Lsh. -/
set_option linter.unusedVariables false
namespace Go.Proofs.YtodipcgilgigbaaGreatDoor.V
open Go Go.RowKit Go.Proofs.YtodipcgilgigbaaGreatDoor.I
attribute [local go_sem ↓] Go.wp_at_zero Go.wp_at_succ
/-- The value of a number below 2^64, in a block of one cell. -/
def Sml (w : World) (v : Value) (n : Nat) : Prop := (n = 0 ∧ v = .slice none 0 0) ∨ (n ≠ 0 ∧ ∃ g, v = .slice (some ⟨g, 0, none⟩) 1 1 ∧ Row w g 1 [(n : Int)])
theorem Sml.isw {w : World} {v : Value} {n : Nat} (h : Sml w v n) (hn : n < 18446744073709551616) : IsW w v (words n) := by
  rcases h with ⟨rfl, rfl⟩ | ⟨h0, g, rfl, hr⟩
  · exact .inl ⟨rfl, words_zero⟩
  · rw [words_one h0 hn]; exact .inr ⟨g, 1, rfl, hr⟩
theorem Sml.below {w w' : World} {v : Value} {n : Nat} (h : Sml w v n) (hb : Below w.heap.size w w') : Sml w' v n := by
  rcases h with h | ⟨h0, g, rfl, hr⟩
  · exact .inl h
  · exact .inr ⟨h0, g, rfl, hr.below hb⟩
set_option maxRecDepth 100000 in
theorem setWordS_call (x : Nat) (w : World) : Calls Tryz.prog 126 #[.slice none 0 0, .int .u64 x] w fun e w' => ∃ v, e = .returned v ∧ Sml w' v x ∧ Below w.heap.size w w' ∧ From w.heap.size v := by
  by_cases h0 : x = 0
  · subst h0
    go_enter Tryz.func126, Tryz.ntmps126
    go_wp2_with fail
    go_ret
    exact ⟨_, rfl, .inl ⟨rfl, rfl⟩, Below.refl _ _, fun g n c e => by cases e⟩
  · have x0 : ((x : Int) == 0) = false := by rw [beq_eq_false_iff_ne]; omega
    have MC := make_one w
    have hM := Row.made w 1 1 (Nat.le_refl _)
    have hB := (Below.refl w.heap.size w).alloc (Nat.le_refl _) (.cells (madeCells #[Value.int .u64 0] 1) 166)
    generalize w.alloc (.cells (madeCells #[Value.int .u64 0] 1) 166) = W at *
    have hc := hM.cell (i := 0) rfl
    have hf := hM.frozen 0
    go_enter Tryz.func126, Tryz.ntmps126
    have HR := Lib.hid (And.intro hM hB)
    clear hM hB
    go_wp2_with fail
    with_reducible refine MC.mono ?_
    rintro _ w1 ⟨rfl, rfl⟩
    go_wp2_with fail
    go_ret
    exact ⟨_, rfl, .inr ⟨h0, _, rfl, HR.out.1.set (i := 0) (x : Int)⟩, HR.out.2.setCell (p := ⟨w.heap.size, 0, none⟩) (Nat.le_refl _) _, fun g n c e => by injection e with e1; injection e1 with e2; injection e2 with e3; omega⟩
set_option maxRecDepth 100000 in
theorem natU64S_call (x : Nat) (w : World) : Calls Tryz.prog 135 #[.slice none 0 0, .int .u64 x] w fun e w' => ∃ v, e = .returned v ∧ Sml w' v x ∧ Below w.heap.size w w' ∧ From w.heap.size v := by
  have SC := fun w => setWordS_call x w
  go_enter Tryz.func135, Tryz.ntmps135
  go_wp2_with (go_at_call 126; ((with_reducible refine (SC _).mono ?_); (rintro _ w1 ⟨v, rfl, hv, hb, hf⟩)))
  go_ret
  exact ⟨_, rfl, hv, hb, hf⟩
set_option maxRecDepth 100000 in
theorem same_none (w : World) : Calls Tryz.prog 159 #[.slice none 0 0, .slice none 0 0] w fun e w' => e = .returned (.bool false) ∧ Below w.heap.size w w' := by
  go_enter Tryz.func159, Tryz.ntmps159
  go_wp2_with fail
  go_region
  go_wp2_with fail
  go_ret
  exact ⟨rfl, drewn_below _ _⟩
set_option maxRecDepth 100000 in
theorem same_self (g : Nat) (w : World) (h : g < w.heap.size) : Calls Tryz.prog 159 #[.slice (some ⟨g, 0, none⟩) 1 1, .slice (some ⟨g, 0, none⟩) 1 1] w fun e w' => e = .returned (.bool true) ∧ Below w.heap.size w w' := by
  obtain ⟨j, hj, _⟩ := info_parts infoW
  have hq := fun w => run_eql_ptr_same (P := Tryz.prog) w (⟨g, 0, none⟩ : Addr) Tryz.underlying189 hj
  go_enter Tryz.func159, Tryz.ntmps159
  go_wp2_with fail
  go_region
  go_wp2_with fail
  go_ret
  exact ⟨rfl, drewn_below _ _⟩
set_option maxRecDepth 100000 in
theorem alias_none (w : World) : Calls Tryz.prog 137 #[.slice none 0 0, .slice none 0 0] w fun e w' => e = .returned (.bool false) ∧ Below w.heap.size w w' := by
  go_enter Tryz.func137, Tryz.ntmps137
  go_wp2_with fail
  go_region
  go_wp2_with fail
  go_ret
  exact ⟨rfl, drewn_below _ _⟩
end Go.Proofs.YtodipcgilgigbaaGreatDoor.V
/- nat.lsh as one, Int.Lsh. -/
set_option linter.unusedVariables false
namespace Go.Proofs.YtodipcgilgigbaaGreatDoor.V
open Go Go.RowKit Go.Proofs.YtodipcgilgigbaaGreatDoor.I
attribute [local go_sem ↓] Go.wp_at_zero Go.wp_at_succ
/-- A number shifted, new or the given one. -/
def Shd (w : World) (v : Value) (n : Nat) (e : Ending) (w' : World) : Prop := ∃ v', e = .returned v' ∧ IsW w' v' (words n) ∧ Below w.heap.size w w' ∧ (From w.heap.size v' ∨ v' = v)
set_option maxRecDepth 100000 in
theorem nlsh_zero (s : Nat) (hs : s ≤ 12000) (w : World) : Calls Tryz.prog 145 #[.slice none 0 0, .slice none 0 0, .int .u64 s] w (Shd w (.slice none 0 0) 0) := by
  unfold Shd
  rw [words_zero]
  by_cases h0 : s = 0
  · subst h0
    have SN := fun w => same_none w
    have AN := fun w => alias_none w
    have SC := fun w => set_call (.slice none 0 0) [] (by simp) w (.inl ⟨rfl, rfl⟩)
    go_enter Tryz.func145, Tryz.ntmps145
    go_wp2_with (first | (go_at_call 159; ((with_reducible refine (SN _).mono ?_); (rintro _ w1 ⟨rfl, hb1⟩))) | (go_at_call 137; ((with_reducible refine (AN _).mono ?_); (rintro _ w2 ⟨rfl, hb2⟩))) | (go_at_call 72; ((with_reducible refine (SC _).mono ?_); (rintro _ w3 ⟨v, rfl, hv, hb3, hf3⟩))))
    go_ret
    have hb := bt hb1 hb2 (Nat.le_refl _)
    exact ⟨_, rfl, hv, bt hb hb3 (Nat.le_refl _), .inl (fun g n c e => Nat.le_trans hb.size (hf3 g n c e))⟩
  · have s0 : ((s : Int) == 0) = false := by rw [beq_eq_false_iff_ne]; omega
    go_enter Tryz.func145, Tryz.ntmps145
    go_wp2_with fail
    go_ret
    exact ⟨_, rfl, .inl ⟨rfl, rfl⟩, Below.refl _ _, .inr rfl⟩
set_option maxRecDepth 100000 in
theorem nlsh_same (g : Nat) (w : World) (h : g < w.heap.size) : Calls Tryz.prog 145 #[.slice (some ⟨g, 0, none⟩) 1 1, .slice (some ⟨g, 0, none⟩) 1 1, .int .u64 0] w fun e w' => e = .returned (.slice (some ⟨g, 0, none⟩) 1 1) ∧ Below w.heap.size w w' := by
  have SN := fun w h => same_self g w h
  go_enter Tryz.func145, Tryz.ntmps145
  go_wp2_with (go_at_call 159; ((with_reducible refine (SN _ h).mono ?_); (rintro _ w1 ⟨rfl, hb1⟩)))
  go_ret
  exact ⟨rfl, hb1⟩
theorem nlsh_call (n s : Nat) (hn : n < 18446744073709551616) (hs : s ≤ 12000) (v : Value) (w : World) (h : Sml w v n) : Calls Tryz.prog 145 #[v, v, .int .u64 s] w (Shd w v (n * 2 ^ s)) := by
  unfold Shd
  rcases h with ⟨rfl, rfl⟩ | ⟨h0, g, rfl, hr⟩
  · rw [Nat.zero_mul]
    exact nlsh_zero s hs w
  · have hsz : s = 64 * (s / 64) + s % 64 := by omega
    by_cases he : s % 64 = 0
    · by_cases hd : s / 64 = 0
      · obtain rfl : s = 0 := by omega
        refine (nlsh_same g w hr.lt).mono ?_
        rintro _ w' ⟨rfl, hb⟩
        exact ⟨_, rfl, .inr ⟨g, 1, by rw [Nat.pow_zero, Nat.mul_one, words_one h0 hn]; rfl, by rw [Nat.pow_zero, Nat.mul_one, words_one h0 hn]; exact hr.below hb⟩, hb, .inr rfl⟩
      · have := nlsh_whole n (s / 64) g h0 hn (by omega) (by omega) w hr
        rw [show 64 * (s / 64) = s by omega] at this
        refine this.mono ?_
        rintro _ w' ⟨v, rfl, hv, hb, hf⟩
        exact ⟨_, rfl, hv, hb, .inl hf⟩
    · have := nlsh_some n (s / 64) (s % 64) g h0 hn (by omega) (by omega) (by omega) w hr
      rw [show 64 * (s / 64) + s % 64 = s by omega] at this
      refine this.mono ?_
      rintro _ w' ⟨v, rfl, hv, hb, hf⟩
      exact ⟨_, rfl, hv, hb, .inl hf⟩
set_option maxRecDepth 100000 in
set_option maxHeartbeats 1000000 in
/-- z.Lsh(z, s), z a field of a block that is no row of words. -/
theorem intLsh_call (g o n s : Nat) (hn : n < 18446744073709551616) (hs : s ≤ 12000) (cs : Array Value) (T : TypeId) (hT : T ≠ 166) (b : Bool) (v : Value) (w : World) (hg : w.heap[g]? = some (.cells cs T (0, 0))) (h0 : cs[o]? = some (.bool b)) (h1 : cs[o + 1]? = some v) (hv : Sml w v n) :
    Calls Tryz.prog 133 #[.pointer (some ⟨g, o, none⟩), .pointer (some ⟨g, o, none⟩), .int .u64 s] w fun e w' => e = .returned (.pointer (some ⟨g, o, none⟩)) ∧ (∃ v', Put w' g o cs T b v' ∧ IsW w' v' (words (n * 2 ^ s)) ∧ (From w.heap.size v' ∨ v' = v)) ∧ Off (· = g) w w' := by
  have c0 := (Lib.cell_of_heap hg o).trans h0
  have c1 := (Lib.cell_of_heap hg (o + 1)).trans h1
  have hgl := (Array.getElem?_eq_some_iff.1 hg).1
  have SC := fun w' h => nlsh_call n s hn hs v w' h
  obtain ⟨A, l, c, hvf⟩ : ∃ A l c, v = .slice A l c := by
    rcases hv with ⟨_, rfl⟩ | ⟨_, g, rfl, _⟩ <;> exact ⟨_, _, _, rfl⟩
  subst hvf
  go_enter Tryz.func133, Tryz.ntmps133
  go_wp2_with fail
  go_region_with (go_at_call 145; refine (SC _ (hv.below (Below.refl _ _).drew)).mono ?_; rintro _ w1 ⟨v1, rfl, hv1, hb1, hf1⟩; obtain ⟨A1, k1, rfl, _⟩ := hv1.form; have hg1 := (hb1.block g hgl).trans hg; have d0 := (Lib.cell_of_heap hg1 o).trans h0; have d1 := (Lib.cell_of_heap hg1 (o + 1)).trans h1; have z0 := Lib.frozen_of_heap hg1 o; have z1 := Lib.frozen_of_heap hg1 (o + 1))
  all_goals
    have p1 := heap_put hg1 (o + 1) (.slice A1 (words (n * 2 ^ s)).length k1)
    have q0 : (w1.setCell ⟨g, o + 1, none⟩ (.slice A1 (words (n * 2 ^ s)).length k1)).cell? ⟨g, o, none⟩ = some (.bool b) := (World.cell?_setCell_other w1 ⟨g, o + 1, none⟩ ⟨g, o, none⟩ (.slice A1 (words (n * 2 ^ s)).length k1) (by simp)).trans d0
    have q1 := Lib.frozen_of_heap p1 o
    go_wp2_with fail
    go_ret
    have p2 := heap_put p1 o (.bool b)
    refine ⟨rfl, ⟨_, p2, (hv1.setOther hg1 hT (o + 1) _).setOther p1 hT o _, hf1⟩, ?_⟩
    exact ((Off.of (S := (· = g)) (bt (Below.refl _ w).drew hb1 (Nat.le_refl _))).setCell (p := ⟨g, o + 1, none⟩) (.inl rfl) _).setCell (p := ⟨g, o, none⟩) (.inl rfl) _
end Go.Proofs.YtodipcgilgigbaaGreatDoor.V
/- Int.Set of one word; the empty stack. -/
set_option linter.unusedVariables false
namespace Go.Proofs.YtodipcgilgigbaaGreatDoor.V
open Go Go.RowKit Go.Proofs.YtodipcgilgigbaaGreatDoor.I
attribute [local go_sem ↓] Go.wp_at_zero Go.wp_at_succ
theorem copy_to_one (x g gx c : Nat) (ty : TypeId) (w : World) (h : Row w g 1 [0]) (hx : Row w gx c [(x : Int)]) : (Builtin.copy_ #[141, 141] ty #[.slice (some ⟨g, 0, none⟩) 1 1, .slice (some ⟨gx, 0, none⟩) 1 c]).run Tryz.prog w = .ok (goInt 1) (w.setCell ⟨g, 0, none⟩ (.int .u64 x)) := by
  obtain ⟨cs, hg, h2, h3, h4⟩ := h
  have k := run_copy_row (P := Tryz.prog) w 141 141 ty 166 g 0 1 1 ⟨gx, 0, none⟩ 1 c cs _ ([(x : Int)].map (Value.int .u64)) Tryz.underlying141 sizeW hg rfl hx.src (by simp; omega) one_words
  have e : (cs.toList.take 0 ++ [(x : Int)].map (Value.int .u64) ++ cs.toList.drop (0 + ([(x : Int)].map (Value.int .u64)).length)).toArray = cs.setIfInBounds 0 (.int .u64 x) := by
    apply Array.ext'
    rw [Array.toList_setIfInBounds, List.set_eq_take_append_cons_drop, if_pos (by simp; omega)]
    simp
  rw [setCell_eq_setRow w g 0 cs _ (0, 0) _ hg, ← e]
  simpa using k
set_option maxRecDepth 100000 in
theorem natSetS_call (x g c : Nat) (hx0 : x ≠ 0) (w : World) (h : Row w g c [(x : Int)]) : Calls Tryz.prog 72 #[.slice none 0 0, .slice (some ⟨g, 0, none⟩) 1 c] w fun e w' => ∃ v', e = .returned v' ∧ Sml w' v' x ∧ Below w.heap.size w w' ∧ From w.heap.size v' := by
  have MC := fun w => make_one w
  go_enter Tryz.func72, Tryz.ntmps72
  go_wp2_with fail
  with_reducible refine (MC _).mono ?_
  rintro _ w1 ⟨rfl, rfl⟩
  have hM := Row.made w 1 1 (Nat.le_refl _)
  have hB := (Below.refl w.heap.size w).alloc (Nat.le_refl _) (.cells (madeCells #[Value.int .u64 0] 1) 166)
  generalize w.alloc (.cells (madeCells #[Value.int .u64 0] 1) 166) = W at *
  have hcp := fun ty => copy_to_one x w.heap.size g c ty W hM (h.below hB)
  have HR := Lib.hid (And.intro hM hB)
  clear hM hB h
  go_wp2_with fail
  go_ret
  exact ⟨_, rfl, .inr ⟨hx0, _, rfl, HR.out.1.set (i := 0) (x : Int)⟩, HR.out.2.setCell (p := ⟨w.heap.size, 0, none⟩) (Nat.le_refl _) _, fun g n c e => by injection e with e1; injection e1 with e2; injection e2 with e3; omega⟩
set_option maxRecDepth 100000 in
set_option maxHeartbeats 1000000 in
/-- z.Set(x), z an empty field of a block that is no row of words, x of one word. -/
theorem intSetS_call (g o g2 x : Nat) (hx0 : x ≠ 0) (hx : x < 18446744073709551616) (nx : Bool) (v2 : Value) (cs : Array Value) (T : TypeId) (hT : T ≠ 166) (b : Bool) (w : World) (hg : w.heap[g]? = some (.cells cs T (0, 0))) (h0 : cs[o]? = some (.bool b)) (h1 : cs[o + 1]? = some (.slice none 0 0)) (h2 : IntAt w g2 nx v2 x) (hne : g ≠ g2) :
    Calls Tryz.prog 79 #[.pointer (some ⟨g, o, none⟩), .pointer (some ⟨g2, 0, none⟩)] w fun e w' => e = .returned (.pointer (some ⟨g, o, none⟩)) ∧ (∃ v', Put w' g o cs T nx v' ∧ Sml w' v' x ∧ From w.heap.size v') ∧ Off (· = g) w w' := by
  have c0 := (Lib.cell_of_heap hg o).trans h0
  have c1 := (Lib.cell_of_heap hg (o + 1)).trans h1
  have hgl := (Array.getElem?_eq_some_iff.1 hg).1
  obtain ⟨hg2, hw2⟩ := h2
  have x0 := (Lib.cell_of_heap hg2 0).trans (rfl : _ = some (Value.bool nx))
  have x1 := (Lib.cell_of_heap hg2 1).trans (rfl : _ = some v2)
  have hgl2 := (Array.getElem?_eq_some_iff.1 hg2).1
  rw [words_one hx0 hx] at hw2
  rcases hw2 with ⟨_, hf⟩ | ⟨gx, c, rfl, hr⟩
  · cases hf
  have SC := fun w' h => natSetS_call x gx c hx0 w' h
  have hnq := run_neq_ptr_other (P := Tryz.prog) w (a := ⟨g, o, none⟩) (b := ⟨g2, 0, none⟩) Tryz.underlying95 sizeZ (fun e => hne (by injection e)) hg hg2
  go_enter Tryz.func79, Tryz.ntmps79
  go_wp2_with fail
  go_region_with (go_at_call 72; refine (SC _ (hr.below (Below.refl _ _).drew)).mono ?_; rintro _ w1 ⟨v1, rfl, hv1, hb1, hf1⟩; obtain ⟨A1, l1, k1, rfl⟩ : ∃ A l k, v1 = .slice A l k := (by rcases hv1 with ⟨_, rfl⟩ | ⟨_, _, rfl, _⟩ <;> exact ⟨_, _, _, rfl⟩); have hg1 := (hb1.block g hgl).trans hg; have d0 := (Lib.cell_of_heap hg1 o).trans h0; have d1 := (Lib.cell_of_heap hg1 (o + 1)).trans h1; have z0 := Lib.frozen_of_heap hg1 o; have z1 := Lib.frozen_of_heap hg1 (o + 1); have e0 := (hb1.cell (p := ⟨g2, 0, none⟩) hgl2).trans x0)
  all_goals
    have p1 := heap_put hg1 (o + 1) (.slice A1 l1 k1)
    have q0 : (w1.setCell ⟨g, o + 1, none⟩ (.slice A1 l1 k1)).cell? ⟨g, o, none⟩ = some (.bool b) := (World.cell?_setCell_other w1 ⟨g, o + 1, none⟩ ⟨g, o, none⟩ (.slice A1 l1 k1) (by simp)).trans d0
    have q1 := Lib.frozen_of_heap p1 o
    have r0 : (w1.setCell ⟨g, o + 1, none⟩ (.slice A1 l1 k1)).cell? ⟨g2, 0, none⟩ = some (.bool nx) := by
      rw [World.cell?_of_block (Below.heap_setCell w1 ⟨g, o + 1, none⟩ _ g2 (Ne.symm hne))]
      exact e0
    go_wp2_with fail
    go_ret
    have p2 := heap_put p1 o (.bool nx)
    refine ⟨rfl, ⟨_, p2, ?_, hf1⟩, ?_⟩
    · rcases hv1 with ⟨e, _⟩ | ⟨_, g', e, hr'⟩
      · exact absurd e hx0
      · injection e with e1 e2 e3
        subst e1 e2 e3
        obtain ⟨cs', hg', _⟩ := id hr'
        have hn' : g ≠ g' := fun e => by subst e; rw [hg1] at hg'; injection hg' with hg'; injection hg' with _ hg'; exact hT hg'
        exact .inr ⟨hx0, g', rfl, (hr'.off hn').off hn'⟩
    · exact ((Off.of (S := (· = g)) (bt (Below.refl _ w).drew hb1 (Nat.le_refl _))).setCell (p := ⟨g, o + 1, none⟩) (.inl rfl) _).setCell (p := ⟨g, o, none⟩) (.inl rfl) _
end Go.Proofs.YtodipcgilgigbaaGreatDoor.V
/- The stack's end, Int.Cmp, Rat.norm of a fraction without a common factor. -/
set_option linter.unusedVariables false
namespace Go.Proofs.YtodipcgilgigbaaGreatDoor.V
open Go Go.RowKit Go.Proofs.YtodipcgilgigbaaGreatDoor.I
attribute [local go_sem ↓] Go.wp_at_zero Go.wp_at_succ
set_option maxRecDepth 100000 in
theorem free_deferred (st : Nat) (u : FrameMode) (w : World) (h : w.cell? ⟨st, 0, none⟩ = some (.pointer none)) : CallsD Tryz.prog 122 #[.pointer (some ⟨st, 0, none⟩)] u w fun e u' w' => u' = u ∧ (e = .returned (.tuple #[]) ∧ w' = w) := by
  go_enter_d Tryz.func122, Tryz.ntmps122
  go_wp2_with fail
  go_end0
  exact ⟨rfl, rfl⟩
theorem cmpn_bounds (a b : Nat) : -1 ≤ cmpn a b ∧ cmpn a b ≤ 1 := by
  unfold cmpn
  by_cases h : a < b
  · rw [if_pos h]; omega
  · rw [if_neg h]
    by_cases h2 : b < a
    · rw [if_pos h2]; omega
    · rw [if_neg h2]; omega
/-- The sign of a comparison. -/
def icmp (nx : Bool) (a : Nat) (ny : Bool) (b : Nat) : Int := if nx = ny then (if nx then - cmpn a b else cmpn a b) else if nx then -1 else 1
set_option maxRecDepth 100000 in
set_option maxHeartbeats 1000000 in
theorem intCmp_call (g o g2 o2 a b : Nat) (nx ny : Bool) (ha : wl a ≤ 900) (hne : g ≠ g2) (w : World) (hx : ZAt w g o nx a) (hy : ZAt w g2 o2 ny b) : Calls Tryz.prog 124 #[.pointer (some ⟨g, o, none⟩), .pointer (some ⟨g2, o2, none⟩)] w fun e w' => e = .returned (.int .i64 (icmp nx a ny b)) ∧ Below w.heap.size w w' := by
  obtain ⟨cs, T, v1, hg, _⟩ := id hx
  obtain ⟨cs2, T2, v2, hg2, _⟩ := id hy
  obtain ⟨j, hj, hjs⟩ : ∃ j, Tryz.prog.info? 147 = some j ∧ j.size ≠ 0 := by
    have h := sizeZ
    cases hq : Tryz.prog.info? 147 with
    | none => rw [hq] at h; cases h
    | some j => rw [hq] at h; simp at h; exact ⟨j, rfl, by omega⟩
  have hq := run_eql_ptr_other (P := Tryz.prog) w (a := ⟨g, o, none⟩) (b := ⟨g2, o2, none⟩) Tryz.underlying95 hj hjs (fun e => hne (by injection e)) hg hg2
  obtain ⟨A1, c1, hwA, xA0, xA, _, _, _⟩ := hx.cells
  obtain ⟨A2, c2, hwB, xB0, xB, _, _, _⟩ := hy.cells
  have CC := fun w' (h : Below w.heap.size w w') => cmp_call a b (by omega) A1 A2 c1 c2 w' (hwA.below h) (hwB.below h)
  have hl1 := hx.lt
  have hl2 := hy.lt
  have HC : ∀ x y : Bool, x = nx → y = ny → icmp nx a ny b = if x = y then (if x then - cmpn a b else cmpn a b) else if x then -1 else 1 := by rintro _ _ rfl rfl; rfl
  have HB := Lib.hid (And.intro hwA (And.intro hwB (And.intro hx hy)))
  have hcr := cmpn_bounds a b
  obtain ⟨hc1, hc2⟩ := hcr
  clear hx hy hwA hwB hg hg2
  generalize cmpn a b = r at *
  cases nx <;> cases ny
  all_goals
    rw [HC _ _ rfl rfl]
    clear HC
    go_enter Tryz.func124, Tryz.ntmps124
    go_wp2_with fail
    go_quiet (fail)
    go_wp2_with fail
  · skip
    go_region_with (go_at_call 130; ((with_reducible refine (CC _ (by first | exact (drewn_below _ _).drew | exact drewn_below _ _)).mono ?_); (rintro _ w5 ⟨rfl, hb5⟩; have e0 := (hb5.cell (p := ⟨g, o, none⟩) hl1).trans xA0)))
    all_goals
      go_wp2_with fail
      go_ret
      exact ⟨rfl, bt (drewn_below _ _).drew hb5 (Nat.le_refl _)⟩
  · skip
    go_ret
    exact ⟨rfl, drewn_below _ _⟩
  · skip
    go_ret
    exact ⟨rfl, drewn_below _ _⟩
  · skip
    go_region_with (go_at_call 130; ((with_reducible refine (CC _ (by first | exact (drewn_below _ _).drew | exact drewn_below _ _)).mono ?_); (rintro _ w5 ⟨rfl, hb5⟩; have e0 := (hb5.cell (p := ⟨g, o, none⟩) hl1).trans xA0)))
    all_goals
      go_wp2_with fail
      go_ret
      exact ⟨rfl, bt (drewn_below _ _).drew hb5 (Nat.le_refl _)⟩
end Go.Proofs.YtodipcgilgigbaaGreatDoor.V
/- Rat.norm of a fraction without a common factor. -/
set_option linter.unusedVariables false
namespace Go.Proofs.YtodipcgilgigbaaGreatDoor.V
open Go Go.RowKit Go.Proofs.YtodipcgilgigbaaGreatDoor.I
attribute [local go_sem ↓] Go.wp_at_zero Go.wp_at_succ
theorem tR : 214 ≠ 166 := by decide
/-- A Rat's block. -/
def RatAt (w : World) (g : Nat) (an : Bool) (va : Value) (bn : Bool) (vb : Value) : Prop := w.heap[g]? = some (.cells #[.bool an, va, .bool bn, vb] 214 (0, 0))
theorem RatAt.a {w : World} {g n : Nat} {an bn : Bool} {va vb : Value} (h : RatAt w g an va bn vb) (hw : IsW w va (words n)) : ZAt w g 0 an n := ⟨_, _, _, h, tR, rfl, rfl, hw⟩
theorem RatAt.b {w : World} {g n : Nat} {an bn : Bool} {va vb : Value} (h : RatAt w g an va bn vb) (hw : IsW w vb (words n)) : ZAt w g 2 bn n := ⟨_, _, _, h, tR, rfl, rfl, hw⟩
theorem icmp_one : icmp false 1 false 1 = 0 := by decide
set_option maxRecDepth 100000 in
set_option maxHeartbeats 1000000 in
theorem norm_prime (g n m : Nat) (an bn : Bool) (va vb : Value) (hn : n ≠ 0) (hm : m ≠ 0) (hln : wl n ≤ 900) (hlm : wl m ≤ 900) (hmin : min n m < 18446744073709551616) (hg : Nat.gcd n m = 1) (w : World) (h : RatAt w g an va bn vb) (ha : IsW w va (words n)) (hb : IsW w vb (words m)) :
    Calls Tryz.prog 134 #[.pointer (some ⟨g, 0, none⟩)] w fun e w' => e = .returned (.pointer (some ⟨g, 0, none⟩)) ∧ RatAt w' g an va false vb ∧ Off (· = g) w w' := by
  obtain ⟨A1, c1, rfl, _⟩ := ha.form
  obtain ⟨A2, c2, rfl, _⟩ := hb.form
  have x0 := (Lib.cell_of_heap h 0).trans (rfl : _ = some (Value.bool an))
  have x1 := (Lib.cell_of_heap h 1).trans (rfl : _ = some (Value.slice A1 (words n).length c1))
  have x2 := (Lib.cell_of_heap h 2).trans (rfl : _ = some (Value.bool bn))
  have x3 := (Lib.cell_of_heap h 3).trans (rfl : _ = some (Value.slice A2 (words m).length c2))
  have f0 := Lib.frozen_of_heap h 0
  have f2 := Lib.frozen_of_heap h 2
  have l1 : ((words n).length == 0) = false := by rw [beq_eq_false_iff_ne]; exact fun e => hn (wl_zero_iff.1 e)
  have l2 : ((words m).length == 0) = false := by rw [beq_eq_false_iff_ne]; exact fun e => hm (wl_zero_iff.1 e)
  have hgl := (Array.getElem?_eq_some_iff.1 h).1
  go_enter_defers Tryz.func134, Tryz.ntmps134
  go_wp2_with (go_at_call 121; go_in)
  have r1 : RatAt ((w.setCell ⟨g, 0, none⟩ (.bool false)).setCell ⟨g, 2, none⟩ (.bool false)) g false (.slice A1 (words n).length c1) false (.slice A2 (words m).length c2) := heap_put (heap_put h 0 (.bool false)) 2 (.bool false)
  have w1 := (ha.setOther h tR 0 (.bool false)).setOther (heap_put h 0 (.bool false)) tR 2 (.bool false)
  have w2 := (hb.setOther h tR 0 (.bool false)).setOther (heap_put h 0 (.bool false)) tR 2 (.bool false)
  have o1 := ((Off.refl (· = g) w).setCell (p := ⟨g, 0, none⟩) (.inl rfl) (.bool false)).setCell (p := ⟨g, 2, none⟩) (.inl rfl) (.bool false)
  have s1 : ((w.setCell ⟨g, 0, none⟩ (.bool false)).setCell ⟨g, 2, none⟩ (.bool false)).heap.size = w.heap.size := by simp
  generalize (w.setCell ⟨g, 0, none⟩ (.bool false)).setCell ⟨g, 2, none⟩ (.bool false) = W at *
  rw [← s1]
  have hA := (Below.refl W.heap.size W).alloc (Nat.le_refl _) (.cells #[.pointer none] 226)
  have hS := heap_alloc_new W (.cells #[.pointer none] 226)
  have hgW := (Array.getElem?_eq_some_iff.1 r1).1
  obtain ⟨V, hV⟩ : ∃ V, W.alloc (.cells #[.pointer none] 226) = V := ⟨_, rfl⟩
  obtain ⟨st, hst⟩ : ∃ st, W.heap.size = st := ⟨_, rfl⟩
  rw [hV] at hA hS ⊢
  have hVs : V.heap.size = st + 1 := by rw [← hV, ← hst]; simp
  have r2 : RatAt V g false _ false _ := (hA.block g hgW).trans r1
  have v1 := w1.below hA
  have v2 := w2.below hA
  have oV := o1.trans (Off.of hA)
  rw [hst] at hS hgW ⊢
  clear hV hA r1 w1 w2 o1 x0 x1 x2 x3 f0 f2 h ha hb
  have ZA := r2.a v1
  have ZB := r2.b v2
  have GC := fun gz w' hz h1 h2 (hb : Below V.heap.size V w') => lehmer_call gz g 0 g 2 n m hn hm hln hlm hmin w' hz (ZA.below hb) (ZB.below hb) h1 h2
  rw [hg] at GC
  have HH := Lib.hid (And.intro hn (And.intro hm (And.intro hln (And.intro hlm (And.intro hmin hg)))))
  have HZ := Lib.hid (And.intro ZA (And.intro ZB (And.intro r2 (And.intro v1 (And.intro v2 oV)))))
  clear hn hm hln hlm hmin hg ZA ZB v1 v2 oV
  have hFr : Fresh (V.alloc (.cells #[.bool false, .slice none 0 0] 147)).drew (st + 1) := by rw [← hVs]; exact alloc_fresh V
  have hBn := ((Below.refl V.heap.size V).alloc (Nat.le_refl _) (.cells #[.bool false, .slice none 0 0] 147)).drew
  have hne1 : st + 1 ≠ g := by omega
  refine wp_region_noPanic ?_
  go_region_with (first | (go_at_call 146; ((with_reducible refine (newInt_call _).mono ?_); (rintro _ w3 ⟨rfl, rfl⟩))) | (go_at_call 147; ((with_reducible refine (GC (st + 1) _ hFr hne1 hne1 hBn).mono ?_); (rintro _ w4 ⟨rfl, hz4, ho4⟩; have HQ := Lib.hid (And.intro hz4 ho4); clear hz4 ho4))))
  all_goals
    obtain ⟨hz4, ho4⟩ := HQ.out
    obtain ⟨ZA, ZB, r2, v1, v2, oV⟩ := HZ.out
    have oW := oV.trans2 (T := (· = g)) (Off.of hBn) (fun i _ h => h) (fun i _ h => h)
    have o4 := Off.trans2 (T := fun i => i = g) oW ho4 (fun i _ h => h) (fun i hi h => by omega)
    have hgw := (Array.getElem?_eq_some_iff.1 r2).1
    have hst2 := (Array.getElem?_eq_some_iff.1 hS).1
    have r4 : RatAt w4 g false _ false _ := ((ho4.block g (Nat.lt_of_lt_of_le hgw hBn.size) (fun e => hne1 e.symm)).trans (hBn.block g hgw)).trans r2
    have s4 : w4.heap[st]? = _ := ((ho4.block st (Nat.lt_of_lt_of_le hst2 hBn.size) (fun e => by omega)).trans (hBn.block st hst2)).trans hS
    have z4 := hz4.lt
    refine NoPanic.normal ?_
    go_wp2_with (first | (go_at_call 132; ((with_reducible refine (intOne_call _).mono ?_); (rintro _ w5 ⟨g5, v5, rfl, hg5, hI5, hb5⟩))) | (go_at_call 124; ((with_reducible refine (intCmp_call (st + 1) 0 g5 0 1 1 false false (by rw [wl_1]; omega) (by omega) _ (hz4.below hb5) hI5.z).mono ?_); (rintro _ w6 ⟨rfl, hb6⟩; rw [icmp_one]; have hb46 := bt hb5 hb6 (Nat.le_refl _); have r6 : RatAt w6 g false _ false _ := (hb46.block g (Array.getElem?_eq_some_iff.1 r4).1).trans r4; have c6 := (Lib.cell_of_heap r6 0).trans (rfl : _ = some (Value.bool false)); have f6 := Lib.frozen_of_heap r6 0))))
    have s6 := (hb46.block st (Array.getElem?_eq_some_iff.1 s4).1).trans s4
    have hrow := heap_put r6 0 (.bool an)
    have hoff := (o4.trans (Off.of hb46)).setCell (p := ⟨g, 0, none⟩) (.inl rfl) (.bool an)
    refine leaves_cons (f := 122) (args := #[.pointer (some ⟨st, 0, none⟩)]) (by simp) (by simp [go_sem]) ?_
    refine (free_deferred st .returning _ ?_).mono ?_
    · exact (World.cell?_setCell_other w6 ⟨g, 0, none⟩ ⟨st, 0, none⟩ _ (by simp)).trans ((Lib.cell_of_heap s6 0).trans rfl)
    rintro e u' w'' ⟨rfl, rfl, rfl⟩
    exact ⟨_, results_tmp rfl _ _ _, rfl, hrow, hoff⟩
end Go.Proofs.YtodipcgilgigbaaGreatDoor.V
/- Rat.SetFloat64 of a number from 2^63 on. -/
set_option linter.unusedVariables false
namespace Go.Proofs.YtodipcgilgigbaaGreatDoor.V
open Go Go.RowKit Go.Proofs.YtodipcgilgigbaaGreatDoor.I
attribute [local go_sem ↓] Go.wp_at_zero Go.wp_at_succ
set_option maxRecDepth 100000 in
theorem setU64S_call (g o x : Nat) (cs : Array Value) (T : TypeId) (hT : T ≠ 166) (b : Bool) (w : World) (hg : w.heap[g]? = some (.cells cs T (0, 0))) (h0 : cs[o]? = some (.bool b)) (h1 : cs[o + 1]? = some (.slice none 0 0)) :
    Calls Tryz.prog 131 #[.pointer (some ⟨g, o, none⟩), .int .u64 x] w fun e w' => e = .returned (.pointer (some ⟨g, o, none⟩)) ∧ (∃ v, Put w' g o cs T false v ∧ Sml w' v x ∧ From w.heap.size v) ∧ Off (· = g) w w' := by
  have c0 := (Lib.cell_of_heap hg o).trans h0
  have c1 := (Lib.cell_of_heap hg (o + 1)).trans h1
  have hgl := (Array.getElem?_eq_some_iff.1 hg).1
  have SC := fun w => natU64S_call x w
  go_enter Tryz.func131, Tryz.ntmps131
  go_wp2_with (go_at_call 135; ((with_reducible refine (SC _).mono ?_); (rintro _ w1 ⟨v1, rfl, hv1, hb1, hf1⟩; obtain ⟨A1, l1, k1, rfl⟩ : ∃ A l k, v1 = .slice A l k := (by rcases hv1 with ⟨_, rfl⟩ | ⟨_, _, rfl, _⟩ <;> exact ⟨_, _, _, rfl⟩); have hg1 := (hb1.block g hgl).trans hg; have d1 := (Lib.cell_of_heap hg1 (o + 1)).trans h1; have z1 := Lib.frozen_of_heap hg1 (o + 1); have p1 := heap_put hg1 (o + 1) (.slice A1 l1 k1); have q0 : (w1.setCell ⟨g, o + 1, none⟩ (.slice A1 l1 k1)).cell? ⟨g, o, none⟩ = some (.bool b) := (World.cell?_setCell_other w1 ⟨g, o + 1, none⟩ ⟨g, o, none⟩ (.slice A1 l1 k1) (by simp)).trans ((Lib.cell_of_heap hg1 o).trans h0); have q1 := Lib.frozen_of_heap p1 o)))
  go_ret
  have p2 := heap_put p1 o (.bool false)
  refine ⟨rfl, ⟨_, p2, ?_, hf1⟩, ?_⟩
  · rcases hv1 with hv1 | ⟨hx0, g', e, hr'⟩
    · exact .inl hv1
    · injection e with e1 e2 e3
      subst e1 e2 e3
      obtain ⟨cs', hg', _⟩ := id hr'
      have hn' : g ≠ g' := fun e => by subst e; rw [hg1] at hg'; injection hg' with hg'; injection hg' with _ hg'; exact hT hg'
      exact .inr ⟨hx0, g', rfl, (hr'.off hn').off hn'⟩
  · exact ((Off.of (S := (· = g)) hb1).setCell (p := ⟨g, o + 1, none⟩) (.inl rfl) _).setCell (p := ⟨g, o, none⟩) (.inl rfl) _
theorem Sml.shape {w : World} {v : Value} {n : Nat} (h : Sml w v n) : ∃ A l k, v = .slice A l k := by
  rcases h with ⟨_, rfl⟩ | ⟨_, _, rfl, _⟩ <;> exact ⟨_, _, _, rfl⟩
theorem Sml.setOther {w : World} {v : Value} {n : Nat} (h : Sml w v n) {b : Nat} {cs : Array Value} {T : TypeId} {m : Nat × Nat} (hb : w.heap[b]? = some (.cells cs T m)) (hT : T ≠ 166) (i : Nat) (u : Value) : Sml (w.setCell ⟨b, i, none⟩ u) v n := by
  rcases h with h | ⟨h0, g, rfl, hr⟩
  · exact .inl h
  · obtain ⟨cs', hg', _⟩ := id hr
    have hn' : b ≠ g := fun e => by subst e; rw [hb] at hg'; injection hg' with hg'; injection hg' with _ hg'; exact hT hg'
    exact .inr ⟨h0, g, rfl, hr.off hn'⟩
theorem Sml.offRat {w w' : World} {v : Value} {n g : Nat} (h : Sml w v n) {cs : Array Value} {T : TypeId} {m : Nat × Nat} (hb : w.heap[g]? = some (.cells cs T m)) (hT : T ≠ 166) (ho : Off (· = g) w w') : Sml w' v n := by
  rcases h with h | ⟨h0, g', rfl, hr⟩
  · exact .inl h
  · obtain ⟨cs', hg', _⟩ := id hr
    have hn' : g' ≠ g := fun e => by subst e; rw [hb] at hg'; injection hg' with hg'; injection hg' with _ hg'; exact hT hg'
    exact .inr ⟨h0, g', rfl, hr.off' ho hn'⟩
theorem shift_is (s : Nat) (h : s ≤ 971) : IntKind.u64.wrap (IntKind.i64.wrap (-(52 - (1075 + (s : Int) - 1023)))) = s := by
  rw [show -(52 - (1075 + (s : Int) - 1023)) = (s : Int) by omega]
  simp [IntKind.wrap, IntKind.bits, IntKind.signed]
  omega
set_option exponentiation.threshold 2000 in
theorem wl_shl (M s : Nat) (hM : M < 18446744073709551616) (h : s ≤ 971) : wl (M * 2 ^ s) ≤ 900 := by
  refine Nat.le_trans (wl_le (k := 17) ?_) (by omega)
  have h2 : 2 ^ s ≤ 18446744073709551616 ^ 16 := by
    rw [show (18446744073709551616 : Nat) = 2 ^ 64 by decide, ← Nat.pow_mul]
    exact Nat.pow_le_pow_right (by omega) (by omega)
  rw [Nat.pow_succ', Nat.mul_comm]
  exact Nat.lt_of_le_of_lt (Nat.mul_le_mul_right _ h2) (by rw [Nat.mul_comm]; exact Nat.mul_lt_mul_of_pos_right hM (Nat.pow_pos (by omega)))
def RatNew (w : World) (g : Nat) (neg : Bool) (n m : Nat) (w' : World) : Prop := (∃ va vb, RatAt w' g neg va false vb ∧ IsW w' va (words n) ∧ IsW w' vb (words m)) ∧ Off (· = g) w w'
set_option maxRecDepth 100000 in
set_option maxHeartbeats 1000000 in
theorem setF64_big (g b : Nat) (e11 frac : Int) (M s : Nat) (neg : Bool) (hexp : bits .and .u64 ((b : Int) / 4503599627370496) 2047 = e11) (hman : bits .and .u64 b 4503599627370495 = frac) (hor : bits .or .u64 frac 4503599627370496 = M) (hs : e11 = 1075 + (s : Int)) (hs0 : 11 ≤ s) (hs1' : s ≤ 971) (hlt : (FloatKind.f64.format.order b 0 == some Ordering.lt) = neg) (hM0 : M ≠ 0) (hM : M < 18446744073709551616) (w : World) (h : RatAt w g false (.slice none 0 0) false (.slice none 0 0)) :
    Calls Tryz.prog 125 #[.pointer (some ⟨g, 0, none⟩), .float .f64 b] w fun e w' => e = .returned (.pointer (some ⟨g, 0, none⟩)) ∧ RatNew w g neg (M * 2 ^ s) 1 w' := by
  have RB := run_bits b
  obtain ⟨p, hp⟩ : ∃ p, bits .and .u64 (M : Int) 1 = p := ⟨_, rfl⟩
  have e1 : (e11 == 2047) = false := by rw [beq_eq_false_iff_ne]; omega
  have e2 : (e11 == 0) = false := by rw [beq_eq_false_iff_ne]; omega
  have e3 : (0 : Int) ≤ e11 := by omega
  have e4 : e11 ≤ 2046 := by omega
  have e5 : decide ((52 : Int) - (e11 - 1023) > 0) = false := decide_eq_false (by omega)
  go_enter Tryz.func125, Tryz.ntmps125
  go_wp2_with fail
  go_loop [6, 8] (fun s6 s8 => s6 = .int .u64 (M : Int) ∧ s8 = .int .i64 (52 - (1075 + (s : Int) - 1023))) (fun _ _ => 0)
  case atStart => exact ⟨rfl, rfl⟩
  case round =>
    have SU := setU64S_call g 0 M _ _ tR false w h rfl rfl
    have hgl := (Array.getElem?_eq_some_iff.1 h).1
    rcases hp0 : (p == 0) with _ | _
    all_goals
      go_wp2_with (go_at_call 131; ((with_reducible refine SU.mono ?_); (rintro _ w1 ⟨rfl, ⟨v1, hp1, hs1, hf1⟩, ho1⟩; have r1 : RatAt w1 g false v1 false (.slice none 0 0) := hp1; have c1 := (Lib.cell_of_heap r1 0).trans (rfl : _ = some (Value.bool false)); have f1 := Lib.frozen_of_heap r1 0)))
      try rw [hlt]
      have r2 : RatAt (w1.setCell ⟨g, 0, none⟩ (.bool neg)) g neg v1 false (.slice none 0 0) := heap_put r1 0 (.bool neg)
      have s2 := hs1.setOther r1 tR 0 (.bool neg)
      have o2 := ho1.setCell (p := ⟨g, 0, none⟩) (.inl rfl) (.bool neg)
      generalize w1.setCell ⟨g, 0, none⟩ (.bool neg) = w2 at *
      have hg2 := (Array.getElem?_eq_some_iff.1 r2).1
      have HX := Lib.hid (And.intro h (And.intro hs1 (And.intro hp1 (And.intro ho1 (And.intro r1 hf1)))))
      clear h hs1 hp1 ho1 r1 hf1 SU c1 f1 RB hexp hman hor e1 e2 e3 e4 e5 hp
      go_region_with (first | (go_at_call 132; ((with_reducible refine (intOne_call _).mono ?_); (rintro _ w3 ⟨g3, v3, rfl, hg3, hI3, hb3⟩; have hb3 := bt (Below.refl w2.heap.size w2).drew hb3 (Nat.le_refl _)))) | (go_at_call 79; ((refine (intSetS_call g 2 g3 1 (by omega) (by omega) false v3 _ _ tR false _ ((hb3.block g hg2).trans r2) rfl rfl hI3 (by have : w2.heap.size ≤ g3 := hg3; omega)).mono ?_); (rintro _ w4 ⟨rfl, ⟨v4, hp4, hs4, hf4⟩, ho4⟩))))
      have r4 : RatAt w4 g neg v1 false v4 := hp4
      have s4 := (s2.below hb3).offRat ((hb3.block g hg2).trans r2) tR ho4
      have o4 := (o2.trans (Off.of hb3)).trans ho4
      have r4d : RatAt w4.drew g neg v1 false v4 := r4
      have LC := intLsh_call g 0 M s hM (by omega) _ _ tR neg v1 w4.drew r4d rfl rfl (s4.below (Below.refl _ _).drew)
      rw [← shift_is s hs1'] at LC
      go_wp2_with fail
      go_region_with (go_at_call 133; refine LC.mono ?_; rintro _ w5 ⟨rfl, ⟨v5, hp5, hw5, hf5⟩, ho5⟩; have HL := Lib.hid (And.intro hp5 (And.intro hw5 ho5)); clear hp5 hw5 hf5 ho5)
      obtain ⟨hp5, hw5, ho5⟩ := HL.out
      have r5 : RatAt w5 g neg v5 false v4 := hp5
      have s5 := ((hs4.below (Below.refl _ _).drew).offRat r4d tR ho5).isw (by omega)
      have NC := norm_prime g (M * 2 ^ s) 1 neg false v5 v4 (Nat.mul_ne_zero hM0 (by have := Nat.pow_pos (n := s) (show 0 < 2 by omega); omega)) (by omega) (wl_shl M s hM hs1') (by rw [wl_1]; omega) (Nat.lt_of_le_of_lt (Nat.min_le_right _ _) (by omega)) (Nat.gcd_one_right _) w5 r5 hw5 s5
      go_wp2_with (go_at_call 134; ((with_reducible refine NC.mono ?_); (rintro _ w6 ⟨rfl, r6, o6⟩)))
      go_ret
      have o5 := o4.trans ((Off.refl (· = g) w4).drew.trans ho5)
      exact ⟨rfl, ⟨v5, v4, r6, hw5.off o6 (hw5.apart r5 tR), s5.off o6 (s5.apart r5 tR)⟩, o5.trans o6⟩
end Go.Proofs.YtodipcgilgigbaaGreatDoor.V
/- Float.rational. -/
set_option linter.unusedVariables false
namespace Go.Proofs.YtodipcgilgigbaaGreatDoor.V
open Go Go.RowKit Go.Proofs.YtodipcgilgigbaaGreatDoor.I
attribute [local go_sem ↓] Go.wp_at_zero Go.wp_at_succ
set_option maxRecDepth 100000 in
theorem rational_big (b : Nat) (e11 frac : Int) (M s : Nat) (neg : Bool) (hexp : bits .and .u64 ((b : Int) / 4503599627370496) 2047 = e11) (hman : bits .and .u64 b 4503599627370495 = frac) (hor : bits .or .u64 frac 4503599627370496 = M) (hs : e11 = 1075 + (s : Int)) (hs0 : 11 ≤ s) (hs1 : s ≤ 971) (hlt : (FloatKind.f64.format.order b 0 == some Ordering.lt) = neg) (hM0 : M ≠ 0) (hM : M < 18446744073709551616) (w : World) :
    Calls Tryz.prog 115 #[.float .f64 b] w fun e w' => ∃ g, e = .returned (.pointer (some ⟨g, 0, none⟩)) ∧ w.heap.size ≤ g ∧ (∃ va vb, RatAt w' g neg va false vb ∧ IsW w' va (words (M * 2 ^ s)) ∧ IsW w' vb (words 1)) ∧ Below w.heap.size w w' := by
  have hn : RatAt (w.alloc (.cells #[.bool false, .slice none 0 0, .bool false, .slice none 0 0] 214)) w.heap.size false (.slice none 0 0) false (.slice none 0 0) := heap_alloc_new w _
  have SC := setF64_big w.heap.size b e11 frac M s neg hexp hman hor hs hs0 hs1 hlt hM0 hM _ hn
  clear hn hexp hman hor
  go_enter Tryz.func115, Tryz.ntmps115
  go_wp2_with fail
  with_reducible refine SC.mono ?_
  rintro _ w1 ⟨rfl, hr, ho⟩
  go_wp2_with fail
  go_ret
  exact ⟨_, rfl, Nat.le_refl _, hr, ((Below.refl w.heap.size w).alloc (Nat.le_refl _) _).trans (ho.below (by simp) (fun k hk => by omega))⟩
end Go.Proofs.YtodipcgilgigbaaGreatDoor.V
/- Num, Denom, Int.Div by 1. -/
set_option linter.unusedVariables false
namespace Go.Proofs.YtodipcgilgigbaaGreatDoor.V
open Go Go.RowKit Go.Proofs.YtodipcgilgigbaaGreatDoor.I
attribute [local go_sem ↓] Go.wp_at_zero Go.wp_at_succ
set_option maxRecDepth 100000 in
theorem num_call (g : Nat) (w : World) (h : g < w.heap.size) : Calls Tryz.prog 226 #[.pointer (some ⟨g, 0, none⟩)] w fun e w' => e = .returned (.pointer (some ⟨g, 0, none⟩)) ∧ w' = w := by
  go_enter Tryz.func226, Tryz.ntmps226
  go_wp2_with fail
  go_ret
  exact ⟨rfl, rfl⟩
set_option maxRecDepth 100000 in
theorem denom_call (g m : Nat) (an bn : Bool) (va vb : Value) (hm : m ≠ 0) (w : World) (h : RatAt w g an va bn vb) (hb : IsW w vb (words m)) : Calls Tryz.prog 227 #[.pointer (some ⟨g, 0, none⟩)] w fun e w' => e = .returned (.pointer (some ⟨g, 2, none⟩)) ∧ w' = w := by
  obtain ⟨A2, c2, rfl, _⟩ := hb.form
  have x3 := (Lib.cell_of_heap h 3).trans (rfl : _ = some (Value.slice A2 (words m).length c2))
  have l2 : ((words m).length == 0) = false := by rw [beq_eq_false_iff_ne]; exact fun e => hm (wl_zero_iff.1 e)
  go_enter Tryz.func227, Tryz.ntmps227
  go_wp2_with fail
  go_ret
  exact ⟨rfl, rfl⟩
set_option maxRecDepth 100000 in
set_option maxHeartbeats 1000000 in
theorem divOne_call (g gx ox gy oy n : Nat) (neg : Bool) (hl : wl n ≤ 900) (w : World) (hg : Fresh w g) (hx : ZAt w gx ox neg n) (hy : ZAt w gy oy false 1) (h2 : g ≠ gx) (h3 : g ≠ gy) :
    Calls Tryz.prog 166 #[.pointer (some ⟨g, 0, none⟩), .pointer (some ⟨gx, ox, none⟩), .pointer (some ⟨gy, oy, none⟩)] w fun e w' => e = .returned (.pointer (some ⟨g, 0, none⟩)) ∧ ZAt w' g 0 (decide (n ≠ 0) && neg) n ∧ Off (· = g) w w' := by
  have hgl := (Array.getElem?_eq_some_iff.1 hg).1
  have hxl := hx.lt
  have hyl := hy.lt
  obtain ⟨Ay, cy, _, y0, _, _, _, _⟩ := hy.cells
  have hA := (Below.refl w.heap.size w).alloc (Nat.le_refl _) (.cells #[.bool false, .slice none 0 0] 147)
  have QC := quoRem_call g w.heap.size gx ox gy oy n 1 neg false (by omega) (by omega) hl _ ((hA.block g hgl).trans hg) (alloc_fresh w) (hx.below hA) (hy.below hA) (by omega) h2 h3 (by omega) (by omega)
  have HH := Lib.hid (And.intro hA (And.intro hx hy))
  clear hA hx hy
  go_enter Tryz.func166, Tryz.ntmps166
  go_wp2_with (go_at_call 176; ((with_reducible refine QC.mono ?_); (rintro _ w1 ⟨rfl, ⟨v1, v2, hz1, hz2, hf1, hf2⟩, ho1⟩; rw [Nat.div_one] at hz1; have c2 := (Lib.cell_of_heap hz2.1 0).trans (rfl : _ = some (Value.bool (decide (n % 1 ≠ 0) && neg))); rw [Nat.mod_one] at c2)))
  go_ret
  have e1 : (neg != false) = neg := by cases neg <;> rfl
  rw [e1] at hz1
  obtain ⟨hA, _, _⟩ := HH.out
  exact ⟨rfl, hz1.z, Off.trans2 (Off.of (S := (· = g)) hA) ho1 (fun i _ h => h) (fun i hi h => by rcases h with h | h <;> omega)⟩
end Go.Proofs.YtodipcgilgigbaaGreatDoor.V
/- finiteFloatToInt of a number outside of int64. -/
set_option linter.unusedVariables false
namespace Go.Proofs.YtodipcgilgigbaaGreatDoor.V
open Go Go.RowKit Go.Proofs.YtodipcgilgigbaaGreatDoor.I
attribute [local go_sem ↓] Go.wp_at_zero Go.wp_at_succ
set_option maxRecDepth 100000 in
set_option maxHeartbeats 1000000 in
theorem floatToInt_big (b n : Nat) (neg : Bool) (hn : n ≠ 0) (hl : wl n ≤ 900) (p q : Bool) (hlo : (FloatKind.f64.format.order 14114281232179134464 b == some Ordering.lt || FloatKind.f64.format.order 14114281232179134464 b == some Ordering.eq) = p) (hhi : (FloatKind.f64.format.order b 4890909195324358656 == some Ordering.lt) = q) (hout : (p && q) = false)
    (RC : ∀ w : World, Calls Tryz.prog 115 #[.float .f64 b] w fun e w' => ∃ g, e = .returned (.pointer (some ⟨g, 0, none⟩)) ∧ w.heap.size ≤ g ∧ (∃ va vb, RatAt w' g neg va false vb ∧ IsW w' va (words n) ∧ IsW w' vb (words 1)) ∧ Below w.heap.size w w') (w : World) :
    Calls Tryz.prog 223 #[.float .f64 b] w fun e w' => ∃ v, e = .returned v ∧ IsS w' w.heap.size v (zn neg n) ∧ Below w.heap.size w w' := by
  cases p <;> cases q
  case true.true => cases hout
  all_goals
    clear hout
    go_enter Tryz.func223, Tryz.ntmps223
    go_wp2_with fail
    with_reducible refine (RC _).mono ?_
    rintro _ w1 ⟨g, rfl, hg, ⟨va, vb, hr, ha, hb⟩, hb1⟩
    have hA : Below w.heap.size w (w.alloc (.cells #[.int .i64 0, .pointer none] 99)) := (Below.refl _ _).alloc (Nat.le_refl _) _
    have hN := heap_alloc_new w (.cells #[.int .i64 0, .pointer none] 99)
    have hsz : (w.alloc (.cells #[.int .i64 0, .pointer none] 99)).heap.size = w.heap.size + 1 := by simp
    generalize w.alloc (.cells #[.int .i64 0, .pointer none] 99) = W at *
    have hN1 := (hb1.block w.heap.size (by omega)).trans hN
    have hB1 := bt hA hb1 (by omega)
    have hg1 := (Array.getElem?_eq_some_iff.1 hr).1
    go_wp2_with fail
    have hA2 := (Below.refl w1.heap.size w1).alloc (Nat.le_refl _) (.cells #[.bool false, .slice none 0 0] 147)
    have hF := alloc_fresh w1
    have hs2 : (w1.alloc (.cells #[.bool false, .slice none 0 0] 147)).heap.size = w1.heap.size + 1 := by simp
    generalize w1.alloc (.cells #[.bool false, .slice none 0 0] 147) = W2 at *
    have hr2 : RatAt W2 g neg va false vb := (hA2.block g hg1).trans hr
    have ha2 := ha.below hA2
    have hb2 := hb.below hA2
    have NC := num_call g W2 (by omega)
    have DC := denom_call g 1 neg false va vb (by omega) W2 hr2 (hb.below hA2)
    have VC := divOne_call w1.heap.size g 0 g 2 n neg hl W2 hF (hr2.a ha2) (hr2.b hb2) (by omega) (by omega)
    have en : (decide (n ≠ 0) && neg) = neg := by rw [decide_eq_true hn]; rfl
    rw [en] at VC
    have HH := Lib.hid (And.intro hA (And.intro hr (And.intro ha hb)))
    clear hA hr ha hb hr2 ha2 hb2 hF
    with_reducible refine NC.mono ?_
    rintro _ w2 ⟨rfl, hw2⟩
    subst hw2
    go_wp2_with fail
    with_reducible refine DC.mono ?_
    rintro _ w3 ⟨rfl, hw3⟩
    subst hw3
    go_wp2_with fail
    with_reducible refine VC.mono ?_
    rintro _ w4 ⟨rfl, hz4, ho4⟩
    have hN4 := (ho4.block w.heap.size (by have := hb1.size; omega) (by have := hb1.size; omega)).trans ((hA2.block w.heap.size (by have := hb1.size; omega)).trans hN1)
    have hB4 : Below w.heap.size w w4 := (bt hB1 hA2 (Nat.le_refl _)).trans (ho4.below (by have := hb1.size; omega) (fun k hk => by have := hb1.size; omega))
    go_wp2_with fail
    refine (makeBigInt_call w1.heap.size 0 n neg (by omega) (fun _ => hn) w4 hz4).mono ?_
    rintro _ w5 ⟨v, rfl, hv, hb5⟩
    have hN5 := (hb5.block w.heap.size (Array.getElem?_eq_some_iff.1 hN4).1).trans hN4
    have d0 := (Lib.cell_of_heap hN5 0).trans (rfl : _ = some _)
    have d1 := (Lib.cell_of_heap hN5 1).trans (rfl : _ = some _)
    have z0 := Lib.frozen_of_heap hN5 0
    have z1 := Lib.frozen_of_heap hN5 1
    have hB5 := bt hB4 hb5 (Nat.le_refl _)
    have hT : 99 ≠ 166 := by decide
    have hw4 := (Array.getElem?_eq_some_iff.1 hN4).1
    rcases hv with ⟨rfl, hs⟩ | ⟨g5, rfl, hs, hz5, hg5⟩
    · go_wp2_with fail
      have p1 := heap_put hN5 0 (.int .i64 (zn neg n))
      have p2 := heap_put p1 1 (.pointer none)
      have q0 := (Lib.cell_of_heap p2 0).trans (rfl : _ = some _)
      have q1 := (Lib.cell_of_heap p2 1).trans (rfl : _ = some _)
      exact bodyPost_ret (v := .agg #[.int .i64 (zn neg n), .pointer none]) (by simp [results, Tryz.results223, go_sem, q0, q1]) rfl ⟨_, rfl, .inl ⟨rfl, hs⟩, ((hB5.setCell (p := ⟨w.heap.size, 0, none⟩) (Nat.le_refl _) _).setCell (p := ⟨w.heap.size, 1, none⟩) (Nat.le_refl _) _)⟩
    · go_wp2_with fail
      have p1 := heap_put hN5 0 (.int .i64 0)
      have p2 := heap_put p1 1 (.pointer (some ⟨g5, 0, none⟩))
      have q0 := (Lib.cell_of_heap p2 0).trans (rfl : _ = some _)
      have q1 := (Lib.cell_of_heap p2 1).trans (rfl : _ = some _)
      obtain ⟨cs, T, v, hzg, hzT, hz0, hz1, hzw⟩ := hz5
      exact bodyPost_ret (v := .agg #[.int .i64 0, .pointer (some ⟨g5, 0, none⟩)]) (by simp [results, Tryz.results223, go_sem, q0, q1]) rfl ⟨_, rfl, .inr ⟨g5, rfl, hs, ⟨cs, T, v, by rw [Below.heap_setCell _ _ _ _ (by show g5 ≠ w.heap.size; omega), Below.heap_setCell _ _ _ _ (by show g5 ≠ w.heap.size; omega)]; exact hzg, hzT, hz0, hz1, (hzw.setOther hN5 hT 0 _).setOther p1 hT 1 _⟩, by omega⟩, ((hB5.setCell (p := ⟨w.heap.size, 0, none⟩) (Nat.le_refl _) _).setCell (p := ⟨w.heap.size, 1, none⟩) (Nat.le_refl _) _)⟩
end Go.Proofs.YtodipcgilgigbaaGreatDoor.V
