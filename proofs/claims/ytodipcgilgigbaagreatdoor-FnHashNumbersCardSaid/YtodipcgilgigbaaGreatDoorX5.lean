/- A number divided by a word: setWord, div, QuoRem. -/
import Derived.Test.YtodipcgilgigbaaGreatDoorX4
import Derived.BigRegion
set_option linter.unusedVariables false
namespace Go.Proofs.YtodipcgilgigbaaGreatDoor.V
open Go Go.RowKit Go.Proofs.YtodipcgilgigbaaGreatDoor.I
attribute [local go_sem ↓] Go.wp_at_zero Go.wp_at_succ
theorem words_one {x : Nat} (h0 : x ≠ 0) (h : x < 18446744073709551616) : words x = [(x : Int)] := by
  rw [words_pos h0, Nat.mod_eq_of_lt h, Nat.div_eq_of_lt h, words_zero]
/-- A new number. -/
def NewW (w : World) (n : Nat) (e : Ending) (w' : World) : Prop := ∃ v, e = .returned v ∧ IsW w' v (words n) ∧ Below w.heap.size w w' ∧ From w.heap.size v
set_option maxRecDepth 100000 in
theorem setWord_call (x : Nat) (h : x < 18446744073709551616) (w : World) : Calls Tryz.prog 126 #[.slice none 0 0, .int .u64 x] w (NewW w x) := by
  unfold NewW
  by_cases h0 : x = 0
  · subst h0
    rw [words_zero]
    go_enter Tryz.func126, Tryz.ntmps126
    go_wp2_with fail
    go_ret
    exact ⟨_, rfl, .inl ⟨rfl, rfl⟩, Below.refl _ _, fun g n c e => by cases e⟩
  · have x0 : ((x : Int) == 0) = false := by rw [beq_eq_false_iff_ne]; omega
    have MC := make_call 1 (by omega) w
    rw [words_one h0 h]
    go_enter Tryz.func126, Tryz.ntmps126
    go_wp2_with fail
    refine MC.mono ?_
    rintro _ w1 ⟨v1, rfl, hv1, hb1, (⟨_, hn, _⟩ | ⟨c1, rfl, hn, hsz, hr1⟩)⟩
    · omega
    have hc := hr1.cell (i := 0) rfl
    have hf := hr1.frozen 0
    have HR := Lib.hid hr1
    clear hr1 hv1 h
    go_wp2_with fail
    go_ret
    have h2 := HR.out.set (i := 0) (x : Int)
    exact ⟨_, rfl, .inr ⟨_, _, rfl, h2⟩, hb1.setCell (p := ⟨w.heap.size, 0, none⟩) (Nat.le_refl _) _, fun g n c e => by injection e with e1; injection e1 with e2; injection e2 with e3; omega⟩
/-- Quotient and remainder, new numbers. -/
def DivN (w : World) (n y : Nat) (e : Ending) (w' : World) : Prop := ∃ v r, e = .returned (.tuple #[v, r]) ∧ IsW w' v (words (n / y)) ∧ IsW w' r (words (n % y)) ∧ Below w.heap.size w w' ∧ From w.heap.size v ∧ From w.heap.size r
set_option maxRecDepth 100000 in
set_option maxHeartbeats 1000000 in
theorem div1_call (n y : Nat) (hy : y ≠ 0) (hy1 : y < 18446744073709551616) (hl : wl n ≤ 900) (A : Option Addr) (c : Nat) (g2 c2 : Nat) (w : World) (h : IsW w (.slice A (wl n) c) (words n)) (h2 : Row w g2 c2 (words y)) :
    Calls Tryz.prog 148 #[.slice none 0 0, .pointer none, .slice none 0 0, .slice A (wl n) c, .slice (some ⟨g2, 0, none⟩) 1 c2] w (DivN w n y) := by
  have DC := divW_call n y hy hy1 hl A c w h
  rw [words_one hy hy1] at h2
  have hc := h2.cell (i := 0) rfl
  have SC := setWord_call (n % y) (Nat.lt_of_lt_of_le (Nat.mod_lt _ (by omega)) (by omega))
  unfold DivN
  unfold DivW at DC
  unfold NewW at SC
  clear h2 hl hy hy1
  generalize wl n = L at *
  generalize n % y = r at *
  generalize n / y = q at *
  go_enter Tryz.func148, Tryz.ntmps148
  go_wp2_with (first | (go_at_call 167; ((with_reducible refine DC.mono ?_); (rintro _ w1 ⟨v1, rfl, hv1, hb1, hf1⟩))) | (go_at_call 126; ((with_reducible refine (SC _).mono ?_); (rintro _ w2 ⟨v2, rfl, hv2, hb2, hf2⟩))))
  go_ret2
  exact ⟨_, _, rfl, hv1.below hb2, hv2, bt hb1 hb2 (Nat.le_refl _), hf1, fun g n c e => Nat.le_trans hb1.size (hf2 g n c e)⟩
/-- A new Int in a block of its own. -/
def Fresh (w : World) (g : Nat) : Prop := w.heap[g]? = some (.cells #[.bool false, .slice none 0 0] 147 (0, 0))
theorem tI : 147 ≠ 166 := by decide
/-- An Int in a block, its slice named. -/
def IntAt (w : World) (g : Nat) (neg : Bool) (v : Value) (n : Nat) : Prop := w.heap[g]? = some (.cells #[.bool neg, v] 147 (0, 0)) ∧ IsW w v (words n)
theorem IntAt.z {w : World} {g n : Nat} {neg : Bool} {v : Value} (h : IntAt w g neg v n) : ZAt w g 0 neg n := ⟨_, _, _, h.1, tI, rfl, rfl, h.2⟩
/-- A length that is not 0, in a spelling by which a guard is decided. -/
def lenOf (k : Nat) : Nat := k + 1
theorem lenOf_pos (k : Nat) : decide ((0 : Int) < ((lenOf k : Nat) : Int)) = true := by unfold lenOf; rw [decide_eq_true_eq]; omega
theorem lenOf_pos' (k : Nat) : decide (0 < lenOf k) = true := by simp [lenOf]
def lenNone : Nat := 0
theorem lenNone_pos : decide ((0 : Int) < ((lenNone : Nat) : Int)) = false := by decide
theorem lenNone_pos' : decide (0 < lenNone) = false := by decide
attribute [local go_sem] lenOf_pos lenOf_pos' lenNone_pos lenNone_pos'
theorem drew_cell (w : World) (p : Addr) : w.drew.cell? p = w.cell? p := rfl
theorem len_pos (q : Nat) : ∃ b, decide (q ≠ 0) = b ∧ ((b = true ∧ ∃ k, (words q).length = lenOf k) ∨ (b = false ∧ (words q).length = lenNone)) := by
  refine ⟨_, rfl, ?_⟩
  rcases Nat.eq_zero_or_pos q with rfl | h
  · exact .inr ⟨by simp, by rw [words_zero]; rfl⟩
  · have := wl_pos (n := q) (by omega)
    exact .inl ⟨by simp; omega, (words q).length - 1, by unfold lenOf; unfold wl at this; omega⟩
def QR1 (w : World) (g gr q r : Nat) (wx : World) : Prop := ∃ v1 v2, IntAt wx g false v1 q ∧ IntAt wx gr false v2 r ∧ From w.heap.size v1 ∧ From w.heap.size v2 ∧ Off (fun k => k = g ∨ k = gr) w wx
theorem qr1 {w w0 w1 : World} {g gr q r : Nat} {v1 v2 : Value} (h0 : Below w.heap.size w w0) (hv1 : IsW w1 v1 (words q)) (hv2 : IsW w1 v2 (words r)) (hb1 : Below w0.heap.size w0 w1) (hf1 : From w0.heap.size v1) (hf2 : From w0.heap.size v2) (hg1 : Fresh w1 g) (hr1 : Fresh w1 gr) (h1 : g ≠ gr) : QR1 w g gr q r ((w1.setCell ⟨g, 1, none⟩ v1).setCell ⟨gr, 1, none⟩ v2) := by
  have p1 := heap_put hg1 1 v1
  have p2 := heap_put ((Below.heap_setCell w1 ⟨g, 1, none⟩ v1 gr (Ne.symm h1)).trans hr1) 1 v2
  refine ⟨v1, v2, ⟨(Below.heap_setCell _ ⟨gr, 1, none⟩ v2 g h1).trans p1, ?_⟩, ⟨p2, ?_⟩, fun g n c e => Nat.le_trans h0.size (hf1 g n c e), fun g n c e => Nat.le_trans h0.size (hf2 g n c e), ?_⟩
  · exact (hv1.setOther hg1 tI 1 _).setOther ((Below.heap_setCell w1 ⟨g, 1, none⟩ v1 gr (Ne.symm h1)).trans hr1) tI 1 _
  · exact (hv2.setOther hg1 tI 1 _).setOther ((Below.heap_setCell w1 ⟨g, 1, none⟩ v1 gr (Ne.symm h1)).trans hr1) tI 1 _
  · exact ((Off.of (bt h0 hb1 (Nat.le_refl _))).setCell (p := ⟨g, 1, none⟩) (.inl (.inl rfl)) _).setCell (p := ⟨gr, 1, none⟩) (.inl (.inr rfl)) _
def QR (w : World) (g gr n y : Nat) (neg ny : Bool) (e : Ending) (w' : World) : Prop := e = .returned (.tuple #[.pointer (some ⟨g, 0, none⟩), .pointer (some ⟨gr, 0, none⟩)]) ∧ (∃ v r, IntAt w' g (decide (n / y ≠ 0) && (neg != ny)) v (n / y) ∧ IntAt w' gr (decide (n % y ≠ 0) && neg) r (n % y) ∧ From w.heap.size v ∧ From w.heap.size r) ∧ Off (fun k => k = g ∨ k = gr) w w'
theorem IntAt.setNeg {w : World} {g n : Nat} {b : Bool} {v : Value} (h : IntAt w g b v n) (b' : Bool) : IntAt (w.setCell ⟨g, 0, none⟩ (.bool b')) g b' v n := ⟨heap_put h.1 0 (.bool b'), h.2.setOther h.1 tI 0 _⟩
theorem IntAt.off {w : World} {g g' i n : Nat} {b : Bool} {v : Value} (h : IntAt w g b v n) (ne : g ≠ g') {cs : Array Value} (hg : w.heap[g']? = some (.cells cs 147 (0, 0))) (u : Value) : IntAt (w.setCell ⟨g', i, none⟩ u) g b v n := ⟨(Below.heap_setCell w ⟨g', i, none⟩ u g ne).trans h.1, h.2.setOther hg tI i u⟩
theorem qr2 {w wc : World} {g gr n y : Nat} {neg ny : Bool} {v1 v2 : Value} (hz : IntAt wc g false v1 (n / y)) (hr : IntAt wc gr false v2 (n % y)) (hf1 : From w.heap.size v1) (hf2 : From w.heap.size v2) (ho : Off (fun k => k = g ∨ k = gr) w wc) (h1 : g ≠ gr) : QR w g gr n y neg ny (.returned (.tuple #[.pointer (some ⟨g, 0, none⟩), .pointer (some ⟨gr, 0, none⟩)])) ((wc.setCell ⟨g, 0, none⟩ (.bool (decide (n / y ≠ 0) && (neg != ny)))).setCell ⟨gr, 0, none⟩ (.bool (decide (n % y ≠ 0) && neg))) := by
  have z := hz.setNeg (decide (n / y ≠ 0) && (neg != ny))
  have r := hr.off (i := 0) (Ne.symm h1) hz.1 (.bool (decide (n / y ≠ 0) && (neg != ny)))
  exact ⟨rfl, ⟨v1, v2, z.off h1 r.1 _, r.setNeg _, hf1, hf2⟩, (ho.setCell (p := ⟨g, 0, none⟩) (.inl (.inl rfl)) _).setCell (p := ⟨gr, 0, none⟩) (.inl (.inr rfl)) _⟩
theorem qr_end {w wc : World} {g gr n y : Nat} {neg ny bq br c d : Bool} {e : Ending} (h : QR w g gr n y neg ny e ((wc.setCell ⟨g, 0, none⟩ (.bool (bq && (neg != ny)))).setCell ⟨gr, 0, none⟩ (.bool (br && neg)))) (hc : ((bq && (!neg == ny)), (br && neg)) = (c, d)) : QR w g gr n y neg ny e ((wc.setCell ⟨g, 0, none⟩ (.bool c)).setCell ⟨gr, 0, none⟩ (.bool d)).drew := by
  injection hc with h1 h2
  subst h1 h2
  have e1 : (bq && (!neg == ny)) = (bq && (neg != ny)) := by cases neg <;> cases ny <;> rfl
  rw [e1]
  obtain ⟨he, ⟨v, r, ⟨z1, z2⟩, ⟨r1, r2⟩, f1, f2⟩, ho⟩ := h
  exact ⟨he, ⟨v, r, ⟨z1, z2.below (Below.refl _ _).drew⟩, ⟨r1, r2.below (Below.refl _ _).drew⟩, f1, f2⟩, ho.drew⟩
set_option maxRecDepth 100000 in
set_option maxHeartbeats 2000000 in
theorem quoRem_call (g gr gx ox gy oy n y : Nat) (neg ny : Bool) (hy : y ≠ 0) (hy1 : y < 18446744073709551616) (hl : wl n ≤ 900) (w : World) (hg : Fresh w g) (hgr : Fresh w gr) (hx : ZAt w gx ox neg n) (hyy : ZAt w gy oy ny y) (h1 : g ≠ gr) (h2 : g ≠ gx) (h3 : g ≠ gy) (h4 : gr ≠ gx) (h5 : gr ≠ gy) :
    Calls Tryz.prog 176 #[.pointer (some ⟨g, 0, none⟩), .pointer (some ⟨gx, ox, none⟩), .pointer (some ⟨gy, oy, none⟩), .pointer (some ⟨gr, 0, none⟩)] w (QR w g gr n y neg ny) := by
  obtain ⟨Ax, cx, hwx, x0, x1, _, _, lx⟩ := hx.cells
  obtain ⟨Ay, cy, hwy, y0, y1, _, _, ly⟩ := hyy.cells
  have hyl : wl y = 1 := by have := wl_one.2 hy1; have := wl_pos hy; omega
  rw [hyl] at hwy y1
  obtain ⟨g2, rfl, hry⟩ : ∃ g2, Ay = some ⟨g2, 0, none⟩ ∧ Row w g2 cy (words y) := by
    have : IsW w (.slice Ay (words y).length cy) (words y) := by rw [show (words y).length = 1 from hyl]; exact hwy
    exact isw_row this hy
  have z0 := (Lib.cell_of_heap hg 0).trans (rfl : _ = some (Value.bool false))
  have z1 := (Lib.cell_of_heap hg 1).trans (rfl : _ = some (Value.slice none 0 0))
  have r0 := (Lib.cell_of_heap hgr 0).trans (rfl : _ = some (Value.bool false))
  have r1 := (Lib.cell_of_heap hgr 1).trans (rfl : _ = some (Value.slice none 0 0))
  have lg := (Array.getElem?_eq_some_iff.1 hg).1
  have lgr := (Array.getElem?_eq_some_iff.1 hgr).1
  have DC := fun (w' : World) (hb : Below w.heap.size w w') => div1_call n y hy hy1 hl Ax cx g2 cy w' (hwx.below hb) (hry.below hb)
  unfold DivN at DC
  have DCW := DC _ (Below.refl _ w).drew
  have HX := Lib.hid (And.intro hg (And.intro hgr (And.intro hx (And.intro hyy (And.intro hwx (And.intro hwy (And.intro hry (And.intro lg (And.intro lgr (And.intro lx (And.intro ly (And.intro x0 (And.intro y0 (And.intro z0 (And.intro r0 h1)))))))))))))))
  clear hg hgr hx hyy hwx hwy hry lg lgr lx ly x0 y0 z0 r0 DC hl hy hy1 hyl
  generalize wl n = L at *
  go_enter Tryz.func176, Tryz.ntmps176
  go_upto_region 1 with fail
  go_cut [10] (fun s10 wx => QR1 w g gr (n / y) (n % y) wx)
  case first =>
   go_region_with (go_at_call 148; ((with_reducible refine DCW.mono ?_); (rintro _ w1 ⟨v1, v2, rfl, hv1, hv2, hb1, hf1, hf2⟩; obtain ⟨A1, k1, rfl, _⟩ := hv1.form; obtain ⟨A2, k2, rfl, _⟩ := hv2.form; have hg1 := (hb1.block g HX.out.2.2.2.2.2.2.2.1).trans HX.out.1; have hr1' := (hb1.block gr HX.out.2.2.2.2.2.2.2.2.1).trans HX.out.2.1; have d1 := (Lib.cell_of_heap hg1 1).trans (rfl : _ = some (Value.slice none 0 0)); have e1 := Lib.frozen_of_heap hg1 1; have d2 := (Lib.cell_of_heap hr1' 1).trans (rfl : _ = some (Value.slice none 0 0)); have e2 := Lib.frozen_of_heap hr1' 1; have HV := Lib.hid (And.intro hv1 (And.intro hv2 (And.intro hb1 (And.intro hf1 (And.intro hf2 (And.intro hg1 hr1')))))); clear hv1 hv2 hb1 hf1 hf2 hg1 hr1' DCW x1 y1 z1 r1)))
   all_goals
    go_wp2_with fail
    go_meet
    case rel =>
      obtain ⟨hv1, hv2, hb1, hf1, hf2, hg1, hr1'⟩ := HV.out
      exact qr1 (Below.refl _ w).drew hv1 hv2 hb1 hf1 hf2 hg1 hr1' h1
  case rest =>
    obtain ⟨hx, hyy, lx, ly, x0, y0⟩ : ZAt w gx ox neg n ∧ ZAt w gy oy ny y ∧ gx < w.heap.size ∧ gy < w.heap.size ∧ w.cell? ⟨gx, ox, none⟩ = some (.bool neg) ∧ w.cell? ⟨gy, oy, none⟩ = some (.bool ny) := ⟨HX.out.2.2.1, HX.out.2.2.2.1, HX.out.2.2.2.2.2.2.2.2.2.1, HX.out.2.2.2.2.2.2.2.2.2.2.1, HX.out.2.2.2.2.2.2.2.2.2.2.2.1, HX.out.2.2.2.2.2.2.2.2.2.2.2.2.1⟩
    obtain ⟨v1, v2, hz, hr, hf1, hf2, ho⟩ := hcut
    have fin := qr2 (neg := neg) (ny := ny) hz hr hf1 hf2 ho h1
    have a0 := (World.cell?_of_block (a := ⟨gx, ox, none⟩) (ho.block gx lx (by rintro (h | h) <;> omega))).trans x0
    have b0 := (World.cell?_of_block (a := ⟨gy, oy, none⟩) (ho.block gy ly (by rintro (h | h) <;> omega))).trans y0
    obtain ⟨A1, k1, rfl, _⟩ := hz.2.form
    obtain ⟨A2, k2, rfl, _⟩ := hr.2.form
    have p0 := (Lib.cell_of_heap hz.1 0).trans (rfl : _ = some (Value.bool false))
    have p1 := (Lib.cell_of_heap hz.1 1).trans (rfl : _ = some (Value.slice A1 (words (n / y)).length k1))
    have q0 := (Lib.cell_of_heap hr.1 0).trans (rfl : _ = some (Value.bool false))
    have q1 := (Lib.cell_of_heap hr.1 1).trans (rfl : _ = some (Value.slice A2 (words (n % y)).length k2))
    have p2 := Lib.frozen_of_heap hz.1 0
    have q2 := Lib.frozen_of_heap hr.1 0
    obtain ⟨bq, ebq, uq⟩ := len_pos (n / y)
    obtain ⟨br, ebr, ur⟩ := len_pos (n % y)
    rw [ebq, ebr] at fin
    have FIN := Lib.hid fin
    clear fin HX hx hyy lx ly x0 y0 hz hr hf1 hf2 ho x1 y1 z1 r1 DCW ebq ebr
    rcases uq with ⟨rfl, kq, uq⟩ | ⟨rfl, uq⟩ <;> rcases ur with ⟨rfl, kr, ur⟩ | ⟨rfl, ur⟩
    all_goals rw [uq] at p1
    all_goals rw [ur] at q1
    all_goals clear uq ur
    all_goals
      go_upto_region 2 with fail
      go_region
      all_goals
        go_wp2_with fail
        go_ret2
        exact qr_end FIN.out rfl
end Go.Proofs.YtodipcgilgigbaaGreatDoor.V
