/- big.Float's SetInt. -/
import Derived.Test.YtodipcgilgigbaaGreatDoorVF
set_option linter.unusedVariables false
namespace Go.Proofs.YtodipcgilgigbaaGreatDoor.V
open Go Go.RowKit Go.Proofs.YtodipcgilgigbaaGreatDoor.I
attribute [local go_sem ↓] Go.wp_at_zero Go.wp_at_succ

theorem FAt.precTo {w : World} {f : Nat} {prec acc form e : Int} {neg : Bool} {sv : Value} (h : FAt w f prec acc form neg sv e) (p : Int) : FAt (w.setCell ⟨f, 0, none⟩ (.int .u32 p)) f p acc form neg sv e := by
  have := heap_put h 0 (.int .u32 p)
  simpa [FAt] using this
theorem FAt.formTo {w : World} {f : Nat} {prec acc form e : Int} {neg : Bool} {sv : Value} (h : FAt w f prec acc form neg sv e) (p : Int) : FAt (w.setCell ⟨f, 3, none⟩ (.int .u8 p)) f prec acc p neg sv e := by
  have := heap_put h 3 (.int .u8 p)
  simpa [FAt] using this
theorem FAt.negTo {w : World} {f : Nat} {prec acc form e : Int} {neg : Bool} {sv : Value} (h : FAt w f prec acc form neg sv e) (b : Bool) : FAt (w.setCell ⟨f, 4, none⟩ (.bool b)) f prec acc form b sv e := by
  have := heap_put h 4 (.bool b)
  simpa [FAt] using this
set_option maxRecDepth 100000 in
set_option maxHeartbeats 2000000 in
/-- z.setExpAndRound(exp, 0), where the mantissa has no more bits than z.prec asks for, but noughts. -/
theorem setExp_call (f g cap N k d : Nat) (hk : wl N = k + 1) (hk2 : k ≤ 900) (hd : d < 64) (hz : N % 2 ^ d = 0) (P acc form e e' : Int) (hP : P = ((k : Int) + 1) * 64 - d) (he0 : 0 ≤ e') (he1 : e' < 2000000000) (neg : Bool) (w : World) (hf : FAt w f P acc form neg (.slice (some ⟨g, 0, none⟩) (k + 1) cap) e) (hr : Row w g cap (words N)) (hne : f ≠ g) :
    Calls Tryz.prog 74 #[.pointer (some ⟨f, 0, none⟩), .int .i64 e', .int .u64 0] w fun en w' => en = .returned (.tuple #[]) ∧ FAt w' f P 0 1 neg (.slice (some ⟨g, 0, none⟩) (k + 1) cap) e' ∧ Row w' g cap (words N) ∧ Off (fun i => i = f ∨ i = g) w w' := by
  obtain ⟨c0, c1, c2, c3, c4, c5, c6⟩ := hf.cells
  have fr := hf.fr
  have h2 := (hf.formTo 1).exp e'
  have hO : Off (fun i => i = f) w ((w.setCell ⟨f, 3, none⟩ (.int .u8 1)).setCell ⟨f, 6, none⟩ (.int .i32 e')) := ((Off.refl (fun i => i = f) w).setCell (p := ⟨f, 3, none⟩) (.inl rfl) _).setCell (p := ⟨f, 6, none⟩) (.inl rfl) _
  have hr2 := hr.off' hO (fun h => hne h.symm)
  have RC := round_exact f g cap N k d hk hk2 hd hz P acc e' hP neg _ h2 hr2 hne
  have n1 : ¬ e' < -2147483648 := by omega
  have n2 : ¬ 2147483647 < e' := by omega
  clear hP
  go_enter Tryz.func74, Tryz.ntmps74
  go_wp2_with (go_at_call 93; refine RC.mono ?_; rintro _ w1 ⟨rfl, hf1, hr1, ho1⟩)
  go_end0
  exact ⟨rfl, hf1, hr1, (hO.mono (fun _ _ h => .inl h)).trans ho1⟩
theorem isw_row {w : World} {A : Option Addr} {c n : Nat} (h : IsW w (.slice A (words n).length c) (words n)) (h0 : n ≠ 0) : ∃ g, A = some ⟨g, 0, none⟩ ∧ Row w g c (words n) := by
  rcases h with ⟨_, hn⟩ | ⟨g, cap, he, hr⟩
  · have := wl_pos h0
    unfold wl at this
    rw [hn] at this
    simp at this
  · simp only [Value.slice.injEq] at he
    obtain ⟨rfl, _, rfl⟩ := he
    exact ⟨g, rfl, hr⟩
/-- What SetInt leaves. -/
def SetF (w : World) (f n : Nat) (neg : Bool) (en : Ending) (w' : World) : Prop :=
  en = .returned (.pointer (some ⟨f, 0, none⟩)) ∧ ∃ g cap, FAt w' f (bl n : Nat) 0 1 neg (.slice (some ⟨g, 0, none⟩) (wl n) cap) (bl n : Nat) ∧ Row w' g cap (words (n * 2 ^ nz n)) ∧ f ≠ g ∧ Off (fun i => i = f) w w'
set_option maxRecDepth 100000 in
set_option maxHeartbeats 2000000 in
theorem setInt_call (f g2 o n : Nat) (neg : Bool) (hb : 64 ≤ bl n) (hl : wl n ≤ 900) (w : World) (hf : FAt w f 0 0 0 false (.slice none 0 0) 0) (h : ZAt w g2 o neg n) (hne : f ≠ g2) :
    Calls Tryz.prog 64 #[.pointer (some ⟨f, 0, none⟩), .pointer (some ⟨g2, o, none⟩)] w (SetF w f n neg) := by
  have h0 : n ≠ 0 := by intro h0; subst h0; simp [bl] at hb
  obtain ⟨c0, c1, c2, c3, c4, c5, c6⟩ := hf.cells
  have fr := hf.fr
  have fl := hf.lt
  obtain ⟨A, c, hw, x0, x1, y0, y1, hgl2⟩ := h.cells
  have hblw := bl_wl h0
  have hwp := wl_pos h0
  have BC := intBitLen_call g2 o n neg (by omega) w h
  have SE : ∀ (g cap : Nat) (wq : World), FAt wq f (bl n : Nat) 0 0 neg (.slice (some ⟨g, 0, none⟩) (wl n) cap) 0 → Row wq g cap (words (n * 2 ^ nz n)) → f ≠ g → Calls Tryz.prog 74 #[.pointer (some ⟨f, 0, none⟩), .int .i64 (bl n : Nat), .int .u64 0] wq fun en w' => en = .returned (.tuple #[]) ∧ FAt w' f (bl n : Nat) 0 1 neg (.slice (some ⟨g, 0, none⟩) (wl n) cap) (bl n : Nat) ∧ Row w' g cap (words (n * 2 ^ nz n)) ∧ Off (fun i => i = f ∨ i = g) wq w' := by
    obtain ⟨k, hk⟩ : ∃ k, wl n = k + 1 := ⟨wl n - 1, by omega⟩
    have hnz : nz n < 64 := by unfold nz; omega
    have hk2 := (wl_nz h0).1
    intro g cap wq hq hrq hnq
    rw [hk] at hq hk2 ⊢
    refine setExp_call f g cap (n * 2 ^ nz n) k (nz n) hk2 (by omega) hnz (by rw [Nat.mul_mod_left]) (bl n : Nat) 0 0 0 (bl n : Nat) ?_ (by omega) (by omega) neg wq hq hrq hnq
    unfold nz
    omega
  have SC := fun w' (hw' : IsW w' (.slice A (wl n) c) (words n)) => set_call (.slice A (wl n) c) (words n) (by show wl n ≤ 1000; omega) w' hw'
  have hFN := fun (g cap : Nat) (w' : World) (hr' : Row w' g cap (words n)) => fnorm_call n g cap h0 (by omega) w' hr'
  have hlen : (words n).length = wl n := rfl
  have hb2 : (64 : Int) ≤ bl n := by omega
  have hb3 : (bl n : Int) ≤ 60000 := by omega
  have hmx : max ((bl n : Nat) : Int) 64 = (bl n : Nat) := by omega
  have k0 : ((wl n : Int) == 0) = false := by rw [beq_eq_false_iff_ne]; omega
  have kk : (wl n : Int) ≤ 900 := by omega
  have hneg : FAt (((w.setCell ⟨f, 0, none⟩ (.int .u32 (bl n : Nat))).setCell ⟨f, 2, none⟩ (.int .i8 0)).setCell ⟨f, 4, none⟩ (.bool neg)) f (bl n : Nat) 0 0 neg (.slice none 0 0) 0 := ((hf.precTo _).acc 0).negTo neg
  have hOA : Off (fun i => i = f) w (((w.setCell ⟨f, 0, none⟩ (.int .u32 (bl n : Nat))).setCell ⟨f, 2, none⟩ (.int .i8 0)).setCell ⟨f, 4, none⟩ (.bool neg)) := (((Off.refl (fun i => i = f) w).setCell (p := ⟨f, 0, none⟩) (.inl rfl) _).setCell (p := ⟨f, 2, none⟩) (.inl rfl) _).setCell (p := ⟨f, 4, none⟩) (.inl rfl) _
  have hwA : IsW (((w.setCell ⟨f, 0, none⟩ (.int .u32 (bl n : Nat))).setCell ⟨f, 2, none⟩ (.int .i8 0)).setCell ⟨f, 4, none⟩ (.bool neg)) (.slice A (wl n) c) (words n) := hw.off hOA (hw.apart hf (by decide))
  have hX1 : (((w.setCell ⟨f, 0, none⟩ (.int .u32 (bl n : Nat))).setCell ⟨f, 2, none⟩ (.int .i8 0)).setCell ⟨f, 4, none⟩ (.bool neg)).cell? ⟨g2, o + 1, none⟩ = some (.slice A (wl n) c) := (World.cell?_of_block (w := w) (hOA.block g2 hgl2 (fun e => hne e.symm))).trans x1
  have hne2 : ¬ (g2 = f) := fun e => hne e.symm
  obtain ⟨W, hW⟩ : ∃ W, (((w.setCell ⟨f, 0, none⟩ (.int .u32 (bl n : Nat))).setCell ⟨f, 2, none⟩ (.int .i8 0)).setCell ⟨f, 4, none⟩ (.bool neg)) = W := ⟨_, rfl⟩
  rw [hW] at hneg hOA hwA hX1
  have WL := hneg.lt
  unfold SetF
  generalize bl n = b at *
  obtain ⟨v0, v1, v2, v3, v4, v5, v6⟩ := hneg.cells
  have vf := hneg.fr
  go_enter Tryz.func64, Tryz.ntmps64
  go_wp2_with (go_at_call 62; refine BC.mono ?_; rintro _ w1 ⟨rfl, rfl⟩)
  clear hW
  go_region_with (go_at_call 72; refine (SC _ (hwA.below (Below.refl _ _).drew)).mono ?_; rintro _ w1 ⟨s1, rfl, hv1, hb1, hf1⟩; obtain ⟨A1, k1, rfl, _⟩ := hv1.form; obtain ⟨g, rfl, hrow1⟩ := isw_row hv1 h0; have hgW : W.heap.size ≤ g := hf1 g _ _ rfl; have hn1 : FAt w1 f b 0 0 neg (.slice none 0 0) 0 := FAt.off (S := fun _ => False) (w := W.drew) hneg (Off.of hb1) (fun h => h); obtain ⟨d0, d1, d2, d3, d4, d5, d6⟩ := hn1.cells; have df := hn1.fr)
  all_goals
    have hfg : f ≠ g := by omega
    have hm1 : FAt (w1.setCell ⟨f, 5, none⟩ (.slice (some ⟨g, 0, none⟩) (wl n) k1)) f b 0 0 neg (.slice (some ⟨g, 0, none⟩) (wl n) k1) 0 := hn1.mant _
    have hO1 : Off (fun i => i = f) W (w1.setCell ⟨f, 5, none⟩ (.slice (some ⟨g, 0, none⟩) (wl n) k1)) := (Off.of (S := fun i => i = f) (bt (Below.refl _ W).drew hb1 (Nat.le_refl _))).setCell (p := ⟨f, 5, none⟩) (.inl rfl) _
    have hrow2 : Row (w1.setCell ⟨f, 5, none⟩ (.slice (some ⟨g, 0, none⟩) (wl n) k1)) g k1 (words n) := hrow1.off' (S := fun i => i = f) ((Off.refl (fun i => i = f) w1).setCell (p := ⟨f, 5, none⟩) (.inl rfl) _) (fun e => hfg e.symm)
    obtain ⟨W1, hW1⟩ : ∃ W1, w1.setCell ⟨f, 5, none⟩ (.slice (some ⟨g, 0, none⟩) (wl n) k1) = W1 := ⟨_, rfl⟩
    rw [hW1] at hm1 hO1 hrow2
    try rw [hlen]
    rw [hW1]
    obtain ⟨m0, m1, m2, m3, m4, m5, m6⟩ := hm1.cells
    have mf := hm1.fr
    clear d0 d1 d2 d3 d4 d5 d6 df hW1 hn1
    go_wp2_with (first | (go_at_call 73; refine (hFN g k1 _ hrow2).mono ?_; rintro _ w2 ⟨rfl, hrow3, ho3⟩; have hm2 := hm1.off ho3 hfg) | (go_at_call 74; refine (SE g k1 _ hm2 hrow3 hfg).mono ?_; rintro _ w3 ⟨rfl, hm3, hrow4, ho4⟩))
    go_ret
    refine ⟨rfl, g, k1, hm3, hrow4, hfg, ?_⟩
    refine (hOA.trans hO1).trans2 ((ho3.mono (S' := fun i => i = f ∨ i = g) (fun _ _ h => .inr h)).trans ho4) (fun _ _ h => h) (fun i hi h => ?_)
    rcases h with h | h
    · exact h
    · have := hOA.size
      omega
end Go.Proofs.YtodipcgilgigbaaGreatDoor.V
