/- big.Float's round to 53 bits. -/
import Derived.Test.YtodipcgilgigbaaGreatDoorVE
import Derived.Deep.CutBlock
import Derived.Deep.DeepCutAuto
import Derived.Deep.RegionHeld3
import Derived.Deep.DrawnRows
import Derived.Outline
namespace Go.Proofs.YtodipcgilgigbaaGreatDoor.V
open Go Go.RowKit Go.Proofs.YtodipcgilgigbaaGreatDoor.I
set_option linter.unusedVariables false
attribute [local go_sem ↓] Go.wp_at_zero Go.wp_at_succ

theorem FAt.mant {w : World} {f : Nat} {prec acc form e : Int} {neg : Bool} {sv : Value} (h : FAt w f prec acc form neg sv e) (v : Value) : FAt (w.setCell ⟨f, 5, none⟩ v) f prec acc form neg v e := by
  have := heap_put h 5 v
  simpa [FAt] using this
theorem FAt.exp {w : World} {f : Nat} {prec acc form e : Int} {neg : Bool} {sv : Value} (h : FAt w f prec acc form neg sv e) (e' : Int) : FAt (w.setCell ⟨f, 6, none⟩ (.int .i32 e')) f prec acc form neg sv e' := by
  have := heap_put h 6 (.int .i32 e')
  simpa [FAt] using this
theorem off_setRow {S : Nat → Prop} {w : World} {g : Nat} {cs : Array Value} (hg : S g) : Off S w (w.setRow g cs) :=
  ⟨rfl, rfl, rfl, by simp [World.setRow], fun k _ hs => setRow_other w g k cs (fun e => hs (e ▸ hg))⟩
theorem row_c52 {w : World} {g cap : Nat} (h : Row w g cap [(9223372036854775808 : Int)]) : Row w g cap [((4503599627370496 * 2048 : Nat) : Int)] := by
  rw [show ((4503599627370496 * 2048 : Nat) : Int) = 9223372036854775808 by decide +kernel]
  exact h
theorem c63 : ((9223372036854775808 : Nat) : Int) = 9223372036854775808 := by simp
theorem makeAcc_ex (b : Bool) : ∃ ac : Int, ∀ w, Calls Tryz.prog 92 #[.bool b] w fun e w' => e = .returned (.int .i8 ac) ∧ w = w' := ⟨_, makeAcc_call b⟩
theorem and2048 {T : Nat} (h : T < 18446744073709551616) : bits .and .u64 (T : Int) 2048 = ((T / 2048 % 2 * 2048 : Nat) : Int) := by
  have := u64_and_nat T 2048 h (by omega)
  rw [show ((2048 : Nat) : Int) = 2048 from rfl] at this
  rw [this, show (2048 : Nat) = 2 ^ 11 from rfl, nat_bit]
/-- Ahead of the rounding itself: the mantissa's last word alone. -/
def At14 (w : World) (f g cap T : Nat) (neg : Bool) (e : Int) (wx : World) : Prop :=
  FAt wx f 53 0 1 neg (.slice (some ⟨g, 0, none⟩) 1 cap) e ∧ Row wx g cap [(T : Int)] ∧ Off (fun i => i = f ∨ i = g) w wx
theorem words_single {N T : Nat} (hk : wl N = 0 + 1) (hT : wd N 0 = T) : words N = [(T : Int)] := by
  have h0 := words_wd (n := N) (i := 0) (by omega)
  have hl : (words N).length = 1 := hk
  match hw : words N, hl with
  | [x], _ =>
    rw [hw] at h0
    simp only [List.getElem?_cons_zero, Option.some.injEq] at h0
    rw [h0, hT]
/-- What is told of the rounded word. -/
def rk (T : Nat) (up : Bool) (e : Int) : Nat × Int := if up = true then (if T / 2048 + 1 = 9007199254740992 then (4503599627370496, e + 1) else (T / 2048 + 1, e)) else (T / 2048, e)
def Rounded (w : World) (f g cap T : Nat) (neg : Bool) (e : Int) (up : Bool) (en : Ending) (w' : World) : Prop :=
  en = .returned (.tuple #[]) ∧ ∃ acc, FAt w' f 53 acc 1 neg (.slice (some ⟨g, 0, none⟩) 1 cap) (rk T up e).2 ∧ Row w' g cap [(((rk T up e).1 * 2048 : Nat) : Int)] ∧ Off (fun i => i = f ∨ i = g) w w'
set_option maxRecDepth 100000 in
set_option maxHeartbeats 8000000 in
theorem round53_00 (f g cap N k T : Nat) (hk : wl N = k + 1) (hk2 : k ≤ 900) (hT : wd N k = T) (h63 : 9223372036854775808 ≤ T) (acc e : Int) (neg : Bool) (w : World) (hf : FAt w f 53 acc 1 neg (.slice (some ⟨g, 0, none⟩) (k + 1) cap) e) (hr : Row w g cap (words N)) (hne : f ≠ g)
    (ha : N / 2 ^ (64 * (k + 1) - 54) % 2 = 0) (hb : stk N (64 * (k + 1) - 54) = 0) :
    Calls Tryz.prog 93 #[.pointer (some ⟨f, 0, none⟩), .int .u64 0] w (Rounded w f g cap T neg e false) := by
  obtain ⟨c0, c1, c2, c3, c4, c5, c6⟩ := hf.cells
  have fr := hf.fr
  have hA := hf.acc 0
  obtain ⟨a0, a1, a2, a3, a4, a5, a6⟩ := hA.cells
  have kk : (k : Int) ≤ 900 := by omega
  have k1 : (53 : Int) < ((k : Int) + 1) * 64 := by omega
  have hr2 : Row (w.setCell ⟨f, 2, none⟩ (.int .i8 0)) g cap (words N) := hr.off' ((Off.refl (fun i => i = f) w).setCell (p := ⟨f, 2, none⟩) (.inl rfl) _) (fun h => hne h.symm)
  have hO : Off (fun i => i = f ∨ i = g) w (w.setCell ⟨f, 2, none⟩ (.int .i8 0)) := (Off.refl (fun i => i = f ∨ i = g) w).setCell (p := ⟨f, 2, none⟩) (.inl (.inl rfl)) _
  have BC : ∀ (r : Int) (wq : World), r = ((64 * (k + 1) - 54 : Nat) : Int) → Row wq g cap (words N) → Calls Tryz.prog 102 #[.slice (some ⟨g, 0, none⟩) (k + 1) cap, .int .u64 r] wq fun e w' => e = .returned (.int .u64 0) ∧ wq = w' := by
    intro r wq hrr hrow
    subst hrr
    have := bit_call N (64 * (k + 1) - 54) g cap (by omega) (by omega) wq hrow
    rw [hk, ha] at this
    exact this
  have TC : ∀ (r : Int) (wq : World), r = ((64 * (k + 1) - 54 : Nat) : Int) → Row wq g cap (words N) → Calls Tryz.prog 75 #[.slice (some ⟨g, 0, none⟩) (k + 1) cap, .int .u64 r] wq fun e w' => e = .returned (.int .u64 0) ∧ wq = w' := by
    intro r wq hrr hrow
    subst hrr
    have := sticky_call N (64 * (k + 1) - 54) g cap (by omega) (by omega) wq hrow
    rw [hk, hb] at this
    exact this
  have l0 : bits .and .u64 0 1 = 0 := by decide +kernel
  have l2 : bits .or .u64 0 0 = 0 := by decide +kernel
  clear ha hb
  go_enter Tryz.func93, Tryz.ntmps93
  go_upto_if 78 with (first | (go_at_call 102; refine (BC _ _ (by omega) hr2).mono ?_; rintro _ w1 ⟨rfl, rfl⟩) | (go_at_call 75; refine (TC _ _ (by omega) hr2).mono ?_; rintro _ w1 ⟨rfl, rfl⟩))
  go_cut [8] (fun s8 wx => s8 = .int .u32 1 ∧ At14 w f g cap T neg e wx)
  case first =>
    by_cases hk0 : k = 0
    · subst hk0
      go_wp2_with fail
      go_meet
      case rel => exact ⟨rfl, by simpa using hA, by rw [← words_single hk hT]; exact hr2, hO⟩
    · obtain ⟨cs, hcs, hz1, hz2, hz3⟩ := id hr2
      have hcapk : k + 1 ≤ cap := by have : (words N).length = wl N := rfl; omega
      have hTk := hr2.cell (i := k) (words_wd (n := N) (i := k) (by omega))
      rw [hT] at hTk
      have hcp := fun ty => run_copy_row (P := Tryz.prog) (w.setCell ⟨f, 2, none⟩ (.int .i8 0)).drew 141 141 ty 166 g 0 (k + 1) cap ⟨g, k, none⟩ 1 (cap - k) cs _ [Value.int .u64 T] Tryz.underlying141 sizeW hcs (by simp) (by intro j v hv; cases j with | zero => cases hv; exact hTk | succ j => cases hv) (by simp; omega) (by intro v hv; simp at hv; subst hv; rfl)
      have q1 : (0 : Int) < k := by omega
      have q2 : (1 : Int) < (k : Int) + 1 := by omega
      have q3 : ¬ cap = k := by omega
      have q4 : (k : Int) ≤ cap := by omega
      have q5 : (k : Int) ≤ (k : Int) + 1 := by omega
      clear hz3
      go_wp2_with fail
      go_region
      obtain ⟨W2, hW2, hO2, hA2, hR2⟩ : ∃ W2, ((w.setCell ⟨f, 2, none⟩ (.int .i8 0)).drew).setRow g (Value.int .u64 T :: cs.toList.tail).toArray = W2 ∧ Off (fun i => i = f ∨ i = g) w W2 ∧ FAt W2 f 53 0 1 neg (.slice (some ⟨g, 0, none⟩) (k + 1) cap) e ∧ Row W2 g cap [(T : Int)] := by
        refine ⟨_, rfl, hO.drew.trans (off_setRow (.inr rfl)), (setRow_other _ g f _ hne).trans hA, ?_⟩
        have := Row.copied (xs := [(T : Int)]) (w := (w.setCell ⟨f, 2, none⟩ (.int .i8 0)).drew) hcs (by simp; omega)
        rw [hz1] at this
        simpa using this
      rw [hW2]
      obtain ⟨x0, x1, x2, x3, x4, x5, x6⟩ := hA2.cells
      have xf := hA2.fr
      clear hcp hcs hTk hW2
      go_wp2_with fail
      go_meet
      case rel => exact ⟨rfl, hA2.mant _, hR2.off' (S := fun i => i = f) ((Off.refl (fun i => i = f) _).setCell (p := ⟨f, 5, none⟩) (.inl rfl) _) (fun h => hne h.symm), hO2.setCell (p := ⟨f, 5, none⟩) (.inl (.inl rfl)) _⟩
  case rest =>
    obtain ⟨rfl, hB, hRB, hOB⟩ := hcut
    obtain ⟨x0, x1, x2, x3, x4, x5, x6⟩ := hB.cells
    have xf := hB.fr
    have y0 := hRB.cell (i := 0) rfl
    have yf := hRB.frozen 0
    clear hA hO hr2 hf hr a0 a1 a2 a3 a4 a5 a6 c0 c1 c2 c3 c4 c5 c6 fr BC TC
    have hTl : T < 18446744073709551616 := hT ▸ wd_lt N k
    have hcl := low_clear (x := T) (d := 11) (by omega) hTl
    rw [show ((2 ^ 11 - 1 : Nat) : Int) = 2047 from rfl] at hcl
    have hset := hRB.set (i := 0) ((2 ^ 11 * (T / 2 ^ 11) : Nat) : Int)
    go_wp2_with fail
    go_end0
    exact ⟨rfl, 0, hB.off (S := fun i => i = g) ((Off.refl (fun i => i = g) _).setCell (p := ⟨g, 0, none⟩) (.inl rfl) _) hne, by rw [show (rk T false e).1 * 2048 = 2 ^ 11 * (T / 2 ^ 11) from (by show T / 2048 * 2048 = 2 ^ 11 * (T / 2 ^ 11); omega)]; simpa using hset, hOB.setCell (p := ⟨g, 0, none⟩) (.inl (.inr rfl)) _⟩
set_option maxRecDepth 100000 in
set_option maxHeartbeats 8000000 in
theorem round53_01 (f g cap N k T : Nat) (hk : wl N = k + 1) (hk2 : k ≤ 900) (hT : wd N k = T) (h63 : 9223372036854775808 ≤ T) (acc e : Int) (neg : Bool) (w : World) (hf : FAt w f 53 acc 1 neg (.slice (some ⟨g, 0, none⟩) (k + 1) cap) e) (hr : Row w g cap (words N)) (hne : f ≠ g)
    (ha : N / 2 ^ (64 * (k + 1) - 54) % 2 = 0) (hb : stk N (64 * (k + 1) - 54) = 1) :
    Calls Tryz.prog 93 #[.pointer (some ⟨f, 0, none⟩), .int .u64 0] w (Rounded w f g cap T neg e false) := by
  obtain ⟨c0, c1, c2, c3, c4, c5, c6⟩ := hf.cells
  have fr := hf.fr
  have hA := hf.acc 0
  obtain ⟨a0, a1, a2, a3, a4, a5, a6⟩ := hA.cells
  have kk : (k : Int) ≤ 900 := by omega
  have k1 : (53 : Int) < ((k : Int) + 1) * 64 := by omega
  have hr2 : Row (w.setCell ⟨f, 2, none⟩ (.int .i8 0)) g cap (words N) := hr.off' ((Off.refl (fun i => i = f) w).setCell (p := ⟨f, 2, none⟩) (.inl rfl) _) (fun h => hne h.symm)
  have hO : Off (fun i => i = f ∨ i = g) w (w.setCell ⟨f, 2, none⟩ (.int .i8 0)) := (Off.refl (fun i => i = f ∨ i = g) w).setCell (p := ⟨f, 2, none⟩) (.inl (.inl rfl)) _
  have BC : ∀ (r : Int) (wq : World), r = ((64 * (k + 1) - 54 : Nat) : Int) → Row wq g cap (words N) → Calls Tryz.prog 102 #[.slice (some ⟨g, 0, none⟩) (k + 1) cap, .int .u64 r] wq fun e w' => e = .returned (.int .u64 0) ∧ wq = w' := by
    intro r wq hrr hrow
    subst hrr
    have := bit_call N (64 * (k + 1) - 54) g cap (by omega) (by omega) wq hrow
    rw [hk, ha] at this
    exact this
  have TC : ∀ (r : Int) (wq : World), r = ((64 * (k + 1) - 54 : Nat) : Int) → Row wq g cap (words N) → Calls Tryz.prog 75 #[.slice (some ⟨g, 0, none⟩) (k + 1) cap, .int .u64 r] wq fun e w' => e = .returned (.int .u64 1) ∧ wq = w' := by
    intro r wq hrr hrow
    subst hrr
    have := sticky_call N (64 * (k + 1) - 54) g cap (by omega) (by omega) wq hrow
    rw [hk, hb] at this
    exact this
  have l0 : bits .and .u64 0 1 = 0 := by decide +kernel
  have l1 : bits .and .u64 1 1 = 1 := by decide +kernel
  have l2 : bits .or .u64 0 1 = 1 := by decide +kernel
  clear ha hb
  go_enter Tryz.func93, Tryz.ntmps93
  go_upto_if 78 with (first | (go_at_call 102; refine (BC _ _ (by omega) hr2).mono ?_; rintro _ w1 ⟨rfl, rfl⟩) | (go_at_call 75; refine (TC _ _ (by omega) hr2).mono ?_; rintro _ w1 ⟨rfl, rfl⟩))
  go_cut [8] (fun s8 wx => s8 = .int .u32 1 ∧ At14 w f g cap T neg e wx)
  case first =>
    by_cases hk0 : k = 0
    · subst hk0
      go_wp2_with fail
      go_meet
      case rel => exact ⟨rfl, by simpa using hA, by rw [← words_single hk hT]; exact hr2, hO⟩
    · obtain ⟨cs, hcs, hz1, hz2, hz3⟩ := id hr2
      have hcapk : k + 1 ≤ cap := by have : (words N).length = wl N := rfl; omega
      have hTk := hr2.cell (i := k) (words_wd (n := N) (i := k) (by omega))
      rw [hT] at hTk
      have hcp := fun ty => run_copy_row (P := Tryz.prog) (w.setCell ⟨f, 2, none⟩ (.int .i8 0)).drew 141 141 ty 166 g 0 (k + 1) cap ⟨g, k, none⟩ 1 (cap - k) cs _ [Value.int .u64 T] Tryz.underlying141 sizeW hcs (by simp) (by intro j v hv; cases j with | zero => cases hv; exact hTk | succ j => cases hv) (by simp; omega) (by intro v hv; simp at hv; subst hv; rfl)
      have q1 : (0 : Int) < k := by omega
      have q2 : (1 : Int) < (k : Int) + 1 := by omega
      have q3 : ¬ cap = k := by omega
      have q4 : (k : Int) ≤ cap := by omega
      have q5 : (k : Int) ≤ (k : Int) + 1 := by omega
      clear hz3
      go_wp2_with fail
      go_region
      obtain ⟨W2, hW2, hO2, hA2, hR2⟩ : ∃ W2, ((w.setCell ⟨f, 2, none⟩ (.int .i8 0)).drew).setRow g (Value.int .u64 T :: cs.toList.tail).toArray = W2 ∧ Off (fun i => i = f ∨ i = g) w W2 ∧ FAt W2 f 53 0 1 neg (.slice (some ⟨g, 0, none⟩) (k + 1) cap) e ∧ Row W2 g cap [(T : Int)] := by
        refine ⟨_, rfl, hO.drew.trans (off_setRow (.inr rfl)), (setRow_other _ g f _ hne).trans hA, ?_⟩
        have := Row.copied (xs := [(T : Int)]) (w := (w.setCell ⟨f, 2, none⟩ (.int .i8 0)).drew) hcs (by simp; omega)
        rw [hz1] at this
        simpa using this
      rw [hW2]
      obtain ⟨x0, x1, x2, x3, x4, x5, x6⟩ := hA2.cells
      have xf := hA2.fr
      clear hcp hcs hTk hW2
      go_wp2_with fail
      go_meet
      case rel => exact ⟨rfl, hA2.mant _, hR2.off' (S := fun i => i = f) ((Off.refl (fun i => i = f) _).setCell (p := ⟨f, 5, none⟩) (.inl rfl) _) (fun h => hne h.symm), hO2.setCell (p := ⟨f, 5, none⟩) (.inl (.inl rfl)) _⟩
  case rest =>
    obtain ⟨rfl, hB, hRB, hOB⟩ := hcut
    obtain ⟨x0, x1, x2, x3, x4, x5, x6⟩ := hB.cells
    have xf := hB.fr
    have y0 := hRB.cell (i := 0) rfl
    have yf := hRB.frozen 0
    clear hA hO hr2 hf hr a0 a1 a2 a3 a4 a5 a6 c0 c1 c2 c3 c4 c5 c6 fr BC TC
    have hTl : T < 18446744073709551616 := hT ▸ wd_lt N k
    have hcl := low_clear (x := T) (d := 11) (by omega) hTl
    rw [show ((2 ^ 11 - 1 : Nat) : Int) = 2047 from rfl] at hcl
    obtain ⟨ac, MC⟩ := makeAcc_ex neg
    have hB2 := hB.acc ac
    obtain ⟨v0, v1, v2, v3, v4, v5, v6⟩ := hB2.cells
    have vf := hB2.fr
    have hRB2 : Row (wc.setCell ⟨f, 2, none⟩ (.int .i8 ac)) g cap [(T : Int)] := hRB.off' (S := fun i => i = f) ((Off.refl (fun i => i = f) _).setCell (p := ⟨f, 2, none⟩) (.inl rfl) _) (fun h => hne h.symm)
    have z0 := hRB2.cell (i := 0) rfl
    have zf := hRB2.frozen 0
    have hset := hRB2.set (i := 0) ((2 ^ 11 * (T / 2 ^ 11) : Nat) : Int)
    go_wp2_with (go_at_call 92; refine (MC _).mono ?_; rintro _ w1 ⟨rfl, rfl⟩)
    go_end0
    exact ⟨rfl, ac, hB2.off (S := fun i => i = g) ((Off.refl (fun i => i = g) _).setCell (p := ⟨g, 0, none⟩) (.inl rfl) _) hne, by rw [show (rk T false e).1 * 2048 = 2 ^ 11 * (T / 2 ^ 11) from (by show T / 2048 * 2048 = 2 ^ 11 * (T / 2 ^ 11); omega)]; simpa using hset, (hOB.setCell (p := ⟨f, 2, none⟩) (.inl (.inl rfl)) _).setCell (p := ⟨g, 0, none⟩) (.inl (.inr rfl)) _⟩
set_option maxRecDepth 100000 in
set_option maxHeartbeats 8000000 in
theorem round53_10e (f g cap N k T : Nat) (hk : wl N = k + 1) (hk2 : k ≤ 900) (hT : wd N k = T) (h63 : 9223372036854775808 ≤ T) (acc e : Int) (neg : Bool) (w : World) (hf : FAt w f 53 acc 1 neg (.slice (some ⟨g, 0, none⟩) (k + 1) cap) e) (hr : Row w g cap (words N)) (hne : f ≠ g)
    (ha : N / 2 ^ (64 * (k + 1) - 54) % 2 = 1) (hb : stk N (64 * (k + 1) - 54) = 0) (hq : T / 2048 % 2 = 0) :
    Calls Tryz.prog 93 #[.pointer (some ⟨f, 0, none⟩), .int .u64 0] w (Rounded w f g cap T neg e false) := by
  obtain ⟨c0, c1, c2, c3, c4, c5, c6⟩ := hf.cells
  have fr := hf.fr
  have hA := hf.acc 0
  obtain ⟨a0, a1, a2, a3, a4, a5, a6⟩ := hA.cells
  have kk : (k : Int) ≤ 900 := by omega
  have k1 : (53 : Int) < ((k : Int) + 1) * 64 := by omega
  have hr2 : Row (w.setCell ⟨f, 2, none⟩ (.int .i8 0)) g cap (words N) := hr.off' ((Off.refl (fun i => i = f) w).setCell (p := ⟨f, 2, none⟩) (.inl rfl) _) (fun h => hne h.symm)
  have hO : Off (fun i => i = f ∨ i = g) w (w.setCell ⟨f, 2, none⟩ (.int .i8 0)) := (Off.refl (fun i => i = f ∨ i = g) w).setCell (p := ⟨f, 2, none⟩) (.inl (.inl rfl)) _
  have BC : ∀ (r : Int) (wq : World), r = ((64 * (k + 1) - 54 : Nat) : Int) → Row wq g cap (words N) → Calls Tryz.prog 102 #[.slice (some ⟨g, 0, none⟩) (k + 1) cap, .int .u64 r] wq fun e w' => e = .returned (.int .u64 1) ∧ wq = w' := by
    intro r wq hrr hrow
    subst hrr
    have := bit_call N (64 * (k + 1) - 54) g cap (by omega) (by omega) wq hrow
    rw [hk, ha] at this
    exact this
  have TC : ∀ (r : Int) (wq : World), r = ((64 * (k + 1) - 54 : Nat) : Int) → Row wq g cap (words N) → Calls Tryz.prog 75 #[.slice (some ⟨g, 0, none⟩) (k + 1) cap, .int .u64 r] wq fun e w' => e = .returned (.int .u64 0) ∧ wq = w' := by
    intro r wq hrr hrow
    subst hrr
    have := sticky_call N (64 * (k + 1) - 54) g cap (by omega) (by omega) wq hrow
    rw [hk, hb] at this
    exact this
  have l0 : bits .and .u64 0 1 = 0 := by decide +kernel
  have l1 : bits .and .u64 1 1 = 1 := by decide +kernel
  have l2 : bits .or .u64 1 0 = 1 := by decide +kernel
  clear ha hb
  go_enter Tryz.func93, Tryz.ntmps93
  go_upto_if 78 with (first | (go_at_call 102; refine (BC _ _ (by omega) hr2).mono ?_; rintro _ w1 ⟨rfl, rfl⟩) | (go_at_call 75; refine (TC _ _ (by omega) hr2).mono ?_; rintro _ w1 ⟨rfl, rfl⟩))
  go_cut [8] (fun s8 wx => s8 = .int .u32 1 ∧ At14 w f g cap T neg e wx)
  case first =>
    by_cases hk0 : k = 0
    · subst hk0
      go_wp2_with fail
      go_meet
      case rel => exact ⟨rfl, by simpa using hA, by rw [← words_single hk hT]; exact hr2, hO⟩
    · obtain ⟨cs, hcs, hz1, hz2, hz3⟩ := id hr2
      have hcapk : k + 1 ≤ cap := by have : (words N).length = wl N := rfl; omega
      have hTk := hr2.cell (i := k) (words_wd (n := N) (i := k) (by omega))
      rw [hT] at hTk
      have hcp := fun ty => run_copy_row (P := Tryz.prog) (w.setCell ⟨f, 2, none⟩ (.int .i8 0)).drew 141 141 ty 166 g 0 (k + 1) cap ⟨g, k, none⟩ 1 (cap - k) cs _ [Value.int .u64 T] Tryz.underlying141 sizeW hcs (by simp) (by intro j v hv; cases j with | zero => cases hv; exact hTk | succ j => cases hv) (by simp; omega) (by intro v hv; simp at hv; subst hv; rfl)
      have q1 : (0 : Int) < k := by omega
      have q2 : (1 : Int) < (k : Int) + 1 := by omega
      have q3 : ¬ cap = k := by omega
      have q4 : (k : Int) ≤ cap := by omega
      have q5 : (k : Int) ≤ (k : Int) + 1 := by omega
      clear hz3
      go_wp2_with fail
      go_region
      obtain ⟨W2, hW2, hO2, hA2, hR2⟩ : ∃ W2, ((w.setCell ⟨f, 2, none⟩ (.int .i8 0)).drew).setRow g (Value.int .u64 T :: cs.toList.tail).toArray = W2 ∧ Off (fun i => i = f ∨ i = g) w W2 ∧ FAt W2 f 53 0 1 neg (.slice (some ⟨g, 0, none⟩) (k + 1) cap) e ∧ Row W2 g cap [(T : Int)] := by
        refine ⟨_, rfl, hO.drew.trans (off_setRow (.inr rfl)), (setRow_other _ g f _ hne).trans hA, ?_⟩
        have := Row.copied (xs := [(T : Int)]) (w := (w.setCell ⟨f, 2, none⟩ (.int .i8 0)).drew) hcs (by simp; omega)
        rw [hz1] at this
        simpa using this
      rw [hW2]
      obtain ⟨x0, x1, x2, x3, x4, x5, x6⟩ := hA2.cells
      have xf := hA2.fr
      clear hcp hcs hTk hW2
      go_wp2_with fail
      go_meet
      case rel => exact ⟨rfl, hA2.mant _, hR2.off' (S := fun i => i = f) ((Off.refl (fun i => i = f) _).setCell (p := ⟨f, 5, none⟩) (.inl rfl) _) (fun h => hne h.symm), hO2.setCell (p := ⟨f, 5, none⟩) (.inl (.inl rfl)) _⟩
  case rest =>
    obtain ⟨rfl, hB, hRB, hOB⟩ := hcut
    obtain ⟨x0, x1, x2, x3, x4, x5, x6⟩ := hB.cells
    have xf := hB.fr
    have y0 := hRB.cell (i := 0) rfl
    have yf := hRB.frozen 0
    clear hA hO hr2 hf hr a0 a1 a2 a3 a4 a5 a6 c0 c1 c2 c3 c4 c5 c6 fr BC TC
    have hTl : T < 18446744073709551616 := hT ▸ wd_lt N k
    have hcl := low_clear (x := T) (d := 11) (by omega) hTl
    rw [show ((2 ^ 11 - 1 : Nat) : Int) = 2047 from rfl] at hcl
    have hpar : (bits .and .u64 (T : Int) 2048 != 0) = false := by rw [and2048 hTl, hq]; rfl
    clear hq
    obtain ⟨ac, MC⟩ := makeAcc_ex neg
    have hB2 := hB.acc ac
    obtain ⟨v0, v1, v2, v3, v4, v5, v6⟩ := hB2.cells
    have vf := hB2.fr
    have hRB2 : Row (wc.setCell ⟨f, 2, none⟩ (.int .i8 ac)) g cap [(T : Int)] := hRB.off' (S := fun i => i = f) ((Off.refl (fun i => i = f) _).setCell (p := ⟨f, 2, none⟩) (.inl rfl) _) (fun h => hne h.symm)
    have z0 := hRB2.cell (i := 0) rfl
    have zf := hRB2.frozen 0
    have hset := hRB2.set (i := 0) ((2 ^ 11 * (T / 2 ^ 11) : Nat) : Int)
    go_wp2_with (go_at_call 92; refine (MC _).mono ?_; rintro _ w1 ⟨rfl, rfl⟩)
    go_end0
    exact ⟨rfl, ac, hB2.off (S := fun i => i = g) ((Off.refl (fun i => i = g) _).setCell (p := ⟨g, 0, none⟩) (.inl rfl) _) hne, by rw [show (rk T false e).1 * 2048 = 2 ^ 11 * (T / 2 ^ 11) from (by show T / 2048 * 2048 = 2 ^ 11 * (T / 2 ^ 11); omega)]; simpa using hset, (hOB.setCell (p := ⟨f, 2, none⟩) (.inl (.inl rfl)) _).setCell (p := ⟨g, 0, none⟩) (.inl (.inr rfl)) _⟩
set_option maxRecDepth 100000 in
set_option maxHeartbeats 8000000 in
theorem round53_10o (f g cap N k T : Nat) (hk : wl N = k + 1) (hk2 : k ≤ 900) (hT : wd N k = T) (h63 : 9223372036854775808 ≤ T) (acc e : Int) (neg : Bool) (w : World) (hf : FAt w f 53 acc 1 neg (.slice (some ⟨g, 0, none⟩) (k + 1) cap) e) (hr : Row w g cap (words N)) (hne : f ≠ g)
    (ha : N / 2 ^ (64 * (k + 1) - 54) % 2 = 1) (hb : stk N (64 * (k + 1) - 54) = 0) (hq : T / 2048 % 2 = 1) (he : e < 2000000000) (he0 : 0 ≤ e) :
    Calls Tryz.prog 93 #[.pointer (some ⟨f, 0, none⟩), .int .u64 0] w (Rounded w f g cap T neg e true) := by
  obtain ⟨c0, c1, c2, c3, c4, c5, c6⟩ := hf.cells
  have fr := hf.fr
  have hA := hf.acc 0
  obtain ⟨a0, a1, a2, a3, a4, a5, a6⟩ := hA.cells
  have kk : (k : Int) ≤ 900 := by omega
  have k1 : (53 : Int) < ((k : Int) + 1) * 64 := by omega
  have hr2 : Row (w.setCell ⟨f, 2, none⟩ (.int .i8 0)) g cap (words N) := hr.off' ((Off.refl (fun i => i = f) w).setCell (p := ⟨f, 2, none⟩) (.inl rfl) _) (fun h => hne h.symm)
  have hO : Off (fun i => i = f ∨ i = g) w (w.setCell ⟨f, 2, none⟩ (.int .i8 0)) := (Off.refl (fun i => i = f ∨ i = g) w).setCell (p := ⟨f, 2, none⟩) (.inl (.inl rfl)) _
  have BC : ∀ (r : Int) (wq : World), r = ((64 * (k + 1) - 54 : Nat) : Int) → Row wq g cap (words N) → Calls Tryz.prog 102 #[.slice (some ⟨g, 0, none⟩) (k + 1) cap, .int .u64 r] wq fun e w' => e = .returned (.int .u64 1) ∧ wq = w' := by
    intro r wq hrr hrow
    subst hrr
    have := bit_call N (64 * (k + 1) - 54) g cap (by omega) (by omega) wq hrow
    rw [hk, ha] at this
    exact this
  have TC : ∀ (r : Int) (wq : World), r = ((64 * (k + 1) - 54 : Nat) : Int) → Row wq g cap (words N) → Calls Tryz.prog 75 #[.slice (some ⟨g, 0, none⟩) (k + 1) cap, .int .u64 r] wq fun e w' => e = .returned (.int .u64 0) ∧ wq = w' := by
    intro r wq hrr hrow
    subst hrr
    have := sticky_call N (64 * (k + 1) - 54) g cap (by omega) (by omega) wq hrow
    rw [hk, hb] at this
    exact this
  have l0 : bits .and .u64 0 1 = 0 := by decide +kernel
  have l1 : bits .and .u64 1 1 = 1 := by decide +kernel
  have l2 : bits .or .u64 1 0 = 1 := by decide +kernel
  clear ha hb
  go_enter Tryz.func93, Tryz.ntmps93
  go_upto_if 78 with (first | (go_at_call 102; refine (BC _ _ (by omega) hr2).mono ?_; rintro _ w1 ⟨rfl, rfl⟩) | (go_at_call 75; refine (TC _ _ (by omega) hr2).mono ?_; rintro _ w1 ⟨rfl, rfl⟩))
  go_cut [8] (fun s8 wx => s8 = .int .u32 1 ∧ At14 w f g cap T neg e wx)
  case first =>
    by_cases hk0 : k = 0
    · subst hk0
      go_wp2_with fail
      go_meet
      case rel => exact ⟨rfl, by simpa using hA, by rw [← words_single hk hT]; exact hr2, hO⟩
    · obtain ⟨cs, hcs, hz1, hz2, hz3⟩ := id hr2
      have hcapk : k + 1 ≤ cap := by have : (words N).length = wl N := rfl; omega
      have hTk := hr2.cell (i := k) (words_wd (n := N) (i := k) (by omega))
      rw [hT] at hTk
      have hcp := fun ty => run_copy_row (P := Tryz.prog) (w.setCell ⟨f, 2, none⟩ (.int .i8 0)).drew 141 141 ty 166 g 0 (k + 1) cap ⟨g, k, none⟩ 1 (cap - k) cs _ [Value.int .u64 T] Tryz.underlying141 sizeW hcs (by simp) (by intro j v hv; cases j with | zero => cases hv; exact hTk | succ j => cases hv) (by simp; omega) (by intro v hv; simp at hv; subst hv; rfl)
      have q1 : (0 : Int) < k := by omega
      have q2 : (1 : Int) < (k : Int) + 1 := by omega
      have q3 : ¬ cap = k := by omega
      have q4 : (k : Int) ≤ cap := by omega
      have q5 : (k : Int) ≤ (k : Int) + 1 := by omega
      clear hz3
      go_wp2_with fail
      go_region
      obtain ⟨W2, hW2, hO2, hA2, hR2⟩ : ∃ W2, ((w.setCell ⟨f, 2, none⟩ (.int .i8 0)).drew).setRow g (Value.int .u64 T :: cs.toList.tail).toArray = W2 ∧ Off (fun i => i = f ∨ i = g) w W2 ∧ FAt W2 f 53 0 1 neg (.slice (some ⟨g, 0, none⟩) (k + 1) cap) e ∧ Row W2 g cap [(T : Int)] := by
        refine ⟨_, rfl, hO.drew.trans (off_setRow (.inr rfl)), (setRow_other _ g f _ hne).trans hA, ?_⟩
        have := Row.copied (xs := [(T : Int)]) (w := (w.setCell ⟨f, 2, none⟩ (.int .i8 0)).drew) hcs (by simp; omega)
        rw [hz1] at this
        simpa using this
      rw [hW2]
      obtain ⟨x0, x1, x2, x3, x4, x5, x6⟩ := hA2.cells
      have xf := hA2.fr
      clear hcp hcs hTk hW2
      go_wp2_with fail
      go_meet
      case rel => exact ⟨rfl, hA2.mant _, hR2.off' (S := fun i => i = f) ((Off.refl (fun i => i = f) _).setCell (p := ⟨f, 5, none⟩) (.inl rfl) _) (fun h => hne h.symm), hO2.setCell (p := ⟨f, 5, none⟩) (.inl (.inl rfl)) _⟩
  case rest =>
    obtain ⟨rfl, hB, hRB, hOB⟩ := hcut
    obtain ⟨x0, x1, x2, x3, x4, x5, x6⟩ := hB.cells
    have xf := hB.fr
    have y0 := hRB.cell (i := 0) rfl
    have yf := hRB.frozen 0
    clear hA hO hr2 hf hr a0 a1 a2 a3 a4 a5 a6 c0 c1 c2 c3 c4 c5 c6 fr BC TC
    have hTl : T < 18446744073709551616 := hT ▸ wd_lt N k
    have hcl := low_clear (x := T) (d := 11) (by omega) hTl
    rw [show ((2 ^ 11 - 1 : Nat) : Int) = 2047 from rfl] at hcl
    have hpar : (bits .and .u64 (T : Int) 2048 != 0) = true := by rw [and2048 hTl, hq]; rfl
    clear hq
    obtain ⟨ac, MC⟩ := makeAcc_ex (!neg)
    have hB2 := hB.acc ac
    obtain ⟨v0, v1, v2, v3, v4, v5, v6⟩ := hB2.cells
    have vf := hB2.fr
    have hRB2 : Row (wc.setCell ⟨f, 2, none⟩ (.int .i8 ac)) g cap [(T : Int)] := hRB.off' (S := fun i => i = f) ((Off.refl (fun i => i = f) _).setCell (p := ⟨f, 2, none⟩) (.inl rfl) _) (fun h => hne h.symm)
    have hOB2 := hOB.setCell (p := ⟨f, 2, none⟩) (.inl (.inl rfl)) (.int .i8 ac)
    have AC := addVW1_call T 2048 g cap hTl (by omega)
    clear hRB hOB
    by_cases hov : T / 2048 + 1 = 9007199254740992
    · have hc1 : (T + 2048) / 18446744073709551616 = 1 := by omega
      have hs1 : (T + 2048) % 18446744073709551616 = T % 2048 := by omega
      rw [hc1, hs1] at AC
      obtain ⟨lo, hlo⟩ : ∃ lo, T % 2048 = lo := ⟨_, rfl⟩
      have hlo2 : lo < 2048 := by omega
      rw [hlo] at AC
      have hrk : rk T true e = (4503599627370496, e + 1) := by unfold rk; rw [if_pos rfl, if_pos hov]
      have HK := Lib.hid hrk
      obtain ⟨l2, hl2⟩ : ∃ l2, lo / 2 = l2 := ⟨_, rfl⟩
      have RC := rsh1_call lo g cap (by omega)
      rw [hl2] at RC
      obtain ⟨T3, hT3⟩ : ∃ T3, l2 + 1 * 9223372036854775808 = T3 := ⟨_, rfl⟩
      have hor3 : bits .or .u64 (l2 : Int) 9223372036854775808 = (T3 : Int) := by
        have := u64_or_nat l2 9223372036854775808 (by omega) (by omega)
        rw [c63] at this
        rw [this, ← hT3, ← or_join 63 l2 1 9223372036854775808 (by decide +kernel) (by omega), Nat.one_mul]
      have hcl3 := low_clear (x := T3) (d := 11) (by omega) (by omega)
      rw [show ((2 ^ 11 - 1 : Nat) : Int) = 2047 from rfl, show 2 ^ 11 * (T3 / 2 ^ 11) = 9223372036854775808 by omega] at hcl3
      rw [c63] at hcl3
      clear hov hc1 hs1 hlo hrk hcl h63 hlo2 hl2 hT3
      go_wp2_with (go_at_call 92; refine (MC _).mono ?_; rintro _ w1 ⟨rfl, rfl⟩)
      go_region_held3 (fun w' => w'.cell? ⟨f, 5, none⟩ = some (.slice (some ⟨g, 0, none⟩) 1 cap)) (first | exact s5 | simpa using v5) (first | (go_at_call 103; refine (AC _ (hRB2.below (Below.refl _ _).drew)).mono ?_; rintro _ w2 ⟨rfl, hR3, hO3⟩; have hB3 : FAt w2 f 53 ac 1 neg (.slice (some ⟨g, 0, none⟩) 1 cap) e := FAt.off (w := (wc.setCell ⟨f, 2, none⟩ (.int .i8 ac)).drew) hB2 hO3 hne; have hOB3 := hOB2.drew.trans (hO3.mono (fun _ _ h => .inr h)); obtain ⟨s0, s1, s2, s3, s4, s5, s6⟩ := hB3.cells; have sf := hB3.fr))
      all_goals as_aux_lemma =>
        have hB4 := hB3.exp (e + 1)
        have hR4 : Row (w2.setCell ⟨f, 6, none⟩ (.int .i32 (e + 1))) g cap [(lo : Int)] := hR3.off' (S := fun i => i = f) ((Off.refl (fun i => i = f) _).setCell (p := ⟨f, 6, none⟩) (.inl rfl) _) (fun h => hne h.symm)
        have hOB4 := hOB3.setCell (p := ⟨f, 6, none⟩) (.inl (.inl rfl)) (.int .i32 (e + 1))
        obtain ⟨u0, u1, u2, u3, u4, u5, u6⟩ := hB4.cells
        have uf := hB4.fr
        go_wp2_with fail
        go_region_held3 (fun w' => w'.cell? ⟨f, 5, none⟩ = some (.slice (some ⟨g, 0, none⟩) 1 cap)) (first | exact m5 | simpa using u5) (first | (go_at_call 104; refine (RC _ (hR4.below (Below.refl _ _).drew)).mono ?_; rintro _ w4 ⟨c4, rfl, hR5, hO5⟩; have hB5 : FAt w4 f 53 ac 1 neg (.slice (some ⟨g, 0, none⟩) 1 cap) (e + 1) := FAt.off (w := (w2.setCell ⟨f, 6, none⟩ (.int .i32 (e + 1))).drew) hB4 hO5 hne; have hOB5 := hOB4.drew.trans (hO5.mono (fun _ _ h => .inr h)); obtain ⟨m0, m1, m2, m3, m4, m5, m6⟩ := hB5.cells; have mf := hB5.fr; have r0 := hR5.cell (i := 0) rfl; have rf := hR5.frozen 0))
        all_goals
          have hset := hR5.set (i := 0) ((T3 : Nat) : Int)
          have hB6 := hB5.off (S := fun i => i = g) ((Off.refl (fun i => i = g) _).setCell (p := ⟨g, 0, none⟩) (.inl rfl) (.int .u64 (T3 : Int))) hne
          have hOB6 := hOB5.setCell (p := ⟨g, 0, none⟩) (.inl (.inr rfl)) (.int .u64 (T3 : Int))
          obtain ⟨n0, n1, n2, n3, n4, n5, n6⟩ := hB6.cells
          have k0 := hset.cell (i := 0) rfl
          have kf := hset.frozen 0
          have hset2 := hset.set (i := 0) (9223372036854775808 : Int)
          go_wp2_with fail
          go_end0
          refine ⟨rfl, ac, ?_, ?_, hOB6.setCell (p := ⟨g, 0, none⟩) (.inl (.inr rfl)) _⟩
          · rw [HK.out]
            exact hB6.off (S := fun i => i = g) ((Off.refl (fun i => i = g) _).setCell (p := ⟨g, 0, none⟩) (.inl rfl) _) hne
          · rw [HK.out]
            exact row_c52 hset2
    · have hc0 : (T + 2048) / 18446744073709551616 = 0 := by omega
      have hs0 : (T + 2048) % 18446744073709551616 = T + 2048 := by omega
      rw [hc0, hs0] at AC
      have hrk : rk T true e = (T / 2048 + 1, e) := by unfold rk; rw [if_pos rfl, if_neg hov]
      have hcl2 := low_clear (x := T + 2048) (d := 11) (by omega) (by omega)
      rw [show ((2 ^ 11 - 1 : Nat) : Int) = 2047 from rfl] at hcl2
      obtain ⟨T2, hT2⟩ : ∃ T2, T + 2048 = T2 := ⟨_, rfl⟩
      rw [hT2] at AC hcl2
      have hfin : (rk T true e).1 * 2048 = 2 ^ 11 * (T2 / 2 ^ 11) := by rw [hrk]; show (T / 2048 + 1) * 2048 = _; omega
      have HK := Lib.hid (And.intro hrk hfin)
      clear hov hc0 hs0 hrk hT2 hfin hcl h63
      go_wp2_with (go_at_call 92; refine (MC _).mono ?_; rintro _ w1 ⟨rfl, rfl⟩)
      go_region_held3 (fun w' => w'.cell? ⟨f, 5, none⟩ = some (.slice (some ⟨g, 0, none⟩) 1 cap)) (first | exact s5 | simpa using v5) (first | (go_at_call 103; refine (AC _ (hRB2.below (Below.refl _ _).drew)).mono ?_; rintro _ w2 ⟨rfl, hR3, hO3⟩; have hB3 : FAt w2 f 53 ac 1 neg (.slice (some ⟨g, 0, none⟩) 1 cap) e := FAt.off (w := (wc.setCell ⟨f, 2, none⟩ (.int .i8 ac)).drew) hB2 hO3 hne; have hOB3 := hOB2.drew.trans (hO3.mono (fun _ _ h => .inr h)); obtain ⟨s0, s1, s2, s3, s4, s5, s6⟩ := hB3.cells; have sf := hB3.fr))
      all_goals
        have r0 := hR3.cell (i := 0) rfl
        have rf := hR3.frozen 0
        have hset := hR3.set (i := 0) ((2 ^ 11 * (T2 / 2 ^ 11) : Nat) : Int)
        go_wp2_with fail
        go_end0
        refine ⟨rfl, ac, ?_, ?_, hOB3.setCell (p := ⟨g, 0, none⟩) (.inl (.inr rfl)) _⟩
        · rw [HK.out.1]
          exact hB3.off (S := fun i => i = g) ((Off.refl (fun i => i = g) _).setCell (p := ⟨g, 0, none⟩) (.inl rfl) _) hne
        · rw [HK.out.2]
          simpa using hset
set_option maxRecDepth 100000 in
set_option maxHeartbeats 8000000 in
theorem round53_11 (f g cap N k T : Nat) (hk : wl N = k + 1) (hk2 : k ≤ 900) (hT : wd N k = T) (h63 : 9223372036854775808 ≤ T) (acc e : Int) (neg : Bool) (w : World) (hf : FAt w f 53 acc 1 neg (.slice (some ⟨g, 0, none⟩) (k + 1) cap) e) (hr : Row w g cap (words N)) (hne : f ≠ g)
    (ha : N / 2 ^ (64 * (k + 1) - 54) % 2 = 1) (hb : stk N (64 * (k + 1) - 54) = 1) (he : e < 2000000000) (he0 : 0 ≤ e) :
    Calls Tryz.prog 93 #[.pointer (some ⟨f, 0, none⟩), .int .u64 0] w (Rounded w f g cap T neg e true) := by
  obtain ⟨c0, c1, c2, c3, c4, c5, c6⟩ := hf.cells
  have fr := hf.fr
  have hA := hf.acc 0
  obtain ⟨a0, a1, a2, a3, a4, a5, a6⟩ := hA.cells
  have kk : (k : Int) ≤ 900 := by omega
  have k1 : (53 : Int) < ((k : Int) + 1) * 64 := by omega
  have hr2 : Row (w.setCell ⟨f, 2, none⟩ (.int .i8 0)) g cap (words N) := hr.off' ((Off.refl (fun i => i = f) w).setCell (p := ⟨f, 2, none⟩) (.inl rfl) _) (fun h => hne h.symm)
  have hO : Off (fun i => i = f ∨ i = g) w (w.setCell ⟨f, 2, none⟩ (.int .i8 0)) := (Off.refl (fun i => i = f ∨ i = g) w).setCell (p := ⟨f, 2, none⟩) (.inl (.inl rfl)) _
  have BC : ∀ (r : Int) (wq : World), r = ((64 * (k + 1) - 54 : Nat) : Int) → Row wq g cap (words N) → Calls Tryz.prog 102 #[.slice (some ⟨g, 0, none⟩) (k + 1) cap, .int .u64 r] wq fun e w' => e = .returned (.int .u64 1) ∧ wq = w' := by
    intro r wq hrr hrow
    subst hrr
    have := bit_call N (64 * (k + 1) - 54) g cap (by omega) (by omega) wq hrow
    rw [hk, ha] at this
    exact this
  have TC : ∀ (r : Int) (wq : World), r = ((64 * (k + 1) - 54 : Nat) : Int) → Row wq g cap (words N) → Calls Tryz.prog 75 #[.slice (some ⟨g, 0, none⟩) (k + 1) cap, .int .u64 r] wq fun e w' => e = .returned (.int .u64 1) ∧ wq = w' := by
    intro r wq hrr hrow
    subst hrr
    have := sticky_call N (64 * (k + 1) - 54) g cap (by omega) (by omega) wq hrow
    rw [hk, hb] at this
    exact this
  have l1 : bits .and .u64 1 1 = 1 := by decide +kernel
  have l2 : bits .or .u64 1 1 = 1 := by decide +kernel
  clear ha hb
  go_enter Tryz.func93, Tryz.ntmps93
  go_upto_if 78 with (first | (go_at_call 102; refine (BC _ _ (by omega) hr2).mono ?_; rintro _ w1 ⟨rfl, rfl⟩) | (go_at_call 75; refine (TC _ _ (by omega) hr2).mono ?_; rintro _ w1 ⟨rfl, rfl⟩))
  go_cut [8] (fun s8 wx => s8 = .int .u32 1 ∧ At14 w f g cap T neg e wx)
  case first =>
    by_cases hk0 : k = 0
    · subst hk0
      go_wp2_with fail
      go_meet
      case rel => exact ⟨rfl, by simpa using hA, by rw [← words_single hk hT]; exact hr2, hO⟩
    · obtain ⟨cs, hcs, hz1, hz2, hz3⟩ := id hr2
      have hcapk : k + 1 ≤ cap := by have : (words N).length = wl N := rfl; omega
      have hTk := hr2.cell (i := k) (words_wd (n := N) (i := k) (by omega))
      rw [hT] at hTk
      have hcp := fun ty => run_copy_row (P := Tryz.prog) (w.setCell ⟨f, 2, none⟩ (.int .i8 0)).drew 141 141 ty 166 g 0 (k + 1) cap ⟨g, k, none⟩ 1 (cap - k) cs _ [Value.int .u64 T] Tryz.underlying141 sizeW hcs (by simp) (by intro j v hv; cases j with | zero => cases hv; exact hTk | succ j => cases hv) (by simp; omega) (by intro v hv; simp at hv; subst hv; rfl)
      have q1 : (0 : Int) < k := by omega
      have q2 : (1 : Int) < (k : Int) + 1 := by omega
      have q3 : ¬ cap = k := by omega
      have q4 : (k : Int) ≤ cap := by omega
      have q5 : (k : Int) ≤ (k : Int) + 1 := by omega
      clear hz3
      go_wp2_with fail
      go_region
      obtain ⟨W2, hW2, hO2, hA2, hR2⟩ : ∃ W2, ((w.setCell ⟨f, 2, none⟩ (.int .i8 0)).drew).setRow g (Value.int .u64 T :: cs.toList.tail).toArray = W2 ∧ Off (fun i => i = f ∨ i = g) w W2 ∧ FAt W2 f 53 0 1 neg (.slice (some ⟨g, 0, none⟩) (k + 1) cap) e ∧ Row W2 g cap [(T : Int)] := by
        refine ⟨_, rfl, hO.drew.trans (off_setRow (.inr rfl)), (setRow_other _ g f _ hne).trans hA, ?_⟩
        have := Row.copied (xs := [(T : Int)]) (w := (w.setCell ⟨f, 2, none⟩ (.int .i8 0)).drew) hcs (by simp; omega)
        rw [hz1] at this
        simpa using this
      rw [hW2]
      obtain ⟨x0, x1, x2, x3, x4, x5, x6⟩ := hA2.cells
      have xf := hA2.fr
      clear hcp hcs hTk hW2
      go_wp2_with fail
      go_meet
      case rel => exact ⟨rfl, hA2.mant _, hR2.off' (S := fun i => i = f) ((Off.refl (fun i => i = f) _).setCell (p := ⟨f, 5, none⟩) (.inl rfl) _) (fun h => hne h.symm), hO2.setCell (p := ⟨f, 5, none⟩) (.inl (.inl rfl)) _⟩
  case rest =>
    obtain ⟨rfl, hB, hRB, hOB⟩ := hcut
    obtain ⟨x0, x1, x2, x3, x4, x5, x6⟩ := hB.cells
    have xf := hB.fr
    have y0 := hRB.cell (i := 0) rfl
    have yf := hRB.frozen 0
    clear hA hO hr2 hf hr a0 a1 a2 a3 a4 a5 a6 c0 c1 c2 c3 c4 c5 c6 fr BC TC
    have hTl : T < 18446744073709551616 := hT ▸ wd_lt N k
    have hcl := low_clear (x := T) (d := 11) (by omega) hTl
    rw [show ((2 ^ 11 - 1 : Nat) : Int) = 2047 from rfl] at hcl
    obtain ⟨ac, MC⟩ := makeAcc_ex (!neg)
    have hB2 := hB.acc ac
    obtain ⟨v0, v1, v2, v3, v4, v5, v6⟩ := hB2.cells
    have vf := hB2.fr
    have hRB2 : Row (wc.setCell ⟨f, 2, none⟩ (.int .i8 ac)) g cap [(T : Int)] := hRB.off' (S := fun i => i = f) ((Off.refl (fun i => i = f) _).setCell (p := ⟨f, 2, none⟩) (.inl rfl) _) (fun h => hne h.symm)
    have hOB2 := hOB.setCell (p := ⟨f, 2, none⟩) (.inl (.inl rfl)) (.int .i8 ac)
    have AC := addVW1_call T 2048 g cap hTl (by omega)
    clear hRB hOB
    by_cases hov : T / 2048 + 1 = 9007199254740992
    · have hc1 : (T + 2048) / 18446744073709551616 = 1 := by omega
      have hs1 : (T + 2048) % 18446744073709551616 = T % 2048 := by omega
      rw [hc1, hs1] at AC
      obtain ⟨lo, hlo⟩ : ∃ lo, T % 2048 = lo := ⟨_, rfl⟩
      have hlo2 : lo < 2048 := by omega
      rw [hlo] at AC
      have hrk : rk T true e = (4503599627370496, e + 1) := by unfold rk; rw [if_pos rfl, if_pos hov]
      have HK := Lib.hid hrk
      obtain ⟨l2, hl2⟩ : ∃ l2, lo / 2 = l2 := ⟨_, rfl⟩
      have RC := rsh1_call lo g cap (by omega)
      rw [hl2] at RC
      obtain ⟨T3, hT3⟩ : ∃ T3, l2 + 1 * 9223372036854775808 = T3 := ⟨_, rfl⟩
      have hor3 : bits .or .u64 (l2 : Int) 9223372036854775808 = (T3 : Int) := by
        have := u64_or_nat l2 9223372036854775808 (by omega) (by omega)
        rw [c63] at this
        rw [this, ← hT3, ← or_join 63 l2 1 9223372036854775808 (by decide +kernel) (by omega), Nat.one_mul]
      have hcl3 := low_clear (x := T3) (d := 11) (by omega) (by omega)
      rw [show ((2 ^ 11 - 1 : Nat) : Int) = 2047 from rfl, show 2 ^ 11 * (T3 / 2 ^ 11) = 9223372036854775808 by omega] at hcl3
      rw [c63] at hcl3
      clear hov hc1 hs1 hlo hrk hcl h63 hlo2 hl2 hT3
      go_wp2_with (go_at_call 92; refine (MC _).mono ?_; rintro _ w1 ⟨rfl, rfl⟩)
      go_region_held3 (fun w' => w'.cell? ⟨f, 5, none⟩ = some (.slice (some ⟨g, 0, none⟩) 1 cap)) (first | exact s5 | simpa using v5) (first | (go_at_call 103; refine (AC _ (hRB2.below (Below.refl _ _).drew)).mono ?_; rintro _ w2 ⟨rfl, hR3, hO3⟩; have hB3 : FAt w2 f 53 ac 1 neg (.slice (some ⟨g, 0, none⟩) 1 cap) e := FAt.off (w := (wc.setCell ⟨f, 2, none⟩ (.int .i8 ac)).drew) hB2 hO3 hne; have hOB3 := hOB2.drew.trans (hO3.mono (fun _ _ h => .inr h)); obtain ⟨s0, s1, s2, s3, s4, s5, s6⟩ := hB3.cells; have sf := hB3.fr))
      all_goals as_aux_lemma =>
        have hB4 := hB3.exp (e + 1)
        have hR4 : Row (w2.setCell ⟨f, 6, none⟩ (.int .i32 (e + 1))) g cap [(lo : Int)] := hR3.off' (S := fun i => i = f) ((Off.refl (fun i => i = f) _).setCell (p := ⟨f, 6, none⟩) (.inl rfl) _) (fun h => hne h.symm)
        have hOB4 := hOB3.setCell (p := ⟨f, 6, none⟩) (.inl (.inl rfl)) (.int .i32 (e + 1))
        obtain ⟨u0, u1, u2, u3, u4, u5, u6⟩ := hB4.cells
        have uf := hB4.fr
        go_wp2_with fail
        go_region_held3 (fun w' => w'.cell? ⟨f, 5, none⟩ = some (.slice (some ⟨g, 0, none⟩) 1 cap)) (first | exact m5 | simpa using u5) (first | (go_at_call 104; refine (RC _ (hR4.below (Below.refl _ _).drew)).mono ?_; rintro _ w4 ⟨c4, rfl, hR5, hO5⟩; have hB5 : FAt w4 f 53 ac 1 neg (.slice (some ⟨g, 0, none⟩) 1 cap) (e + 1) := FAt.off (w := (w2.setCell ⟨f, 6, none⟩ (.int .i32 (e + 1))).drew) hB4 hO5 hne; have hOB5 := hOB4.drew.trans (hO5.mono (fun _ _ h => .inr h)); obtain ⟨m0, m1, m2, m3, m4, m5, m6⟩ := hB5.cells; have mf := hB5.fr; have r0 := hR5.cell (i := 0) rfl; have rf := hR5.frozen 0))
        all_goals
          have hset := hR5.set (i := 0) ((T3 : Nat) : Int)
          have hB6 := hB5.off (S := fun i => i = g) ((Off.refl (fun i => i = g) _).setCell (p := ⟨g, 0, none⟩) (.inl rfl) (.int .u64 (T3 : Int))) hne
          have hOB6 := hOB5.setCell (p := ⟨g, 0, none⟩) (.inl (.inr rfl)) (.int .u64 (T3 : Int))
          obtain ⟨n0, n1, n2, n3, n4, n5, n6⟩ := hB6.cells
          have k0 := hset.cell (i := 0) rfl
          have kf := hset.frozen 0
          have hset2 := hset.set (i := 0) (9223372036854775808 : Int)
          go_wp2_with fail
          go_end0
          refine ⟨rfl, ac, ?_, ?_, hOB6.setCell (p := ⟨g, 0, none⟩) (.inl (.inr rfl)) _⟩
          · rw [HK.out]
            exact hB6.off (S := fun i => i = g) ((Off.refl (fun i => i = g) _).setCell (p := ⟨g, 0, none⟩) (.inl rfl) _) hne
          · rw [HK.out]
            exact row_c52 hset2
    · have hc0 : (T + 2048) / 18446744073709551616 = 0 := by omega
      have hs0 : (T + 2048) % 18446744073709551616 = T + 2048 := by omega
      rw [hc0, hs0] at AC
      have hrk : rk T true e = (T / 2048 + 1, e) := by unfold rk; rw [if_pos rfl, if_neg hov]
      have hcl2 := low_clear (x := T + 2048) (d := 11) (by omega) (by omega)
      rw [show ((2 ^ 11 - 1 : Nat) : Int) = 2047 from rfl] at hcl2
      obtain ⟨T2, hT2⟩ : ∃ T2, T + 2048 = T2 := ⟨_, rfl⟩
      rw [hT2] at AC hcl2
      have hfin : (rk T true e).1 * 2048 = 2 ^ 11 * (T2 / 2 ^ 11) := by rw [hrk]; show (T / 2048 + 1) * 2048 = _; omega
      have HK := Lib.hid (And.intro hrk hfin)
      clear hov hc0 hs0 hrk hT2 hfin hcl h63
      go_wp2_with (go_at_call 92; refine (MC _).mono ?_; rintro _ w1 ⟨rfl, rfl⟩)
      go_region_held3 (fun w' => w'.cell? ⟨f, 5, none⟩ = some (.slice (some ⟨g, 0, none⟩) 1 cap)) (first | exact s5 | simpa using v5) (first | (go_at_call 103; refine (AC _ (hRB2.below (Below.refl _ _).drew)).mono ?_; rintro _ w2 ⟨rfl, hR3, hO3⟩; have hB3 : FAt w2 f 53 ac 1 neg (.slice (some ⟨g, 0, none⟩) 1 cap) e := FAt.off (w := (wc.setCell ⟨f, 2, none⟩ (.int .i8 ac)).drew) hB2 hO3 hne; have hOB3 := hOB2.drew.trans (hO3.mono (fun _ _ h => .inr h)); obtain ⟨s0, s1, s2, s3, s4, s5, s6⟩ := hB3.cells; have sf := hB3.fr))
      all_goals
        have r0 := hR3.cell (i := 0) rfl
        have rf := hR3.frozen 0
        have hset := hR3.set (i := 0) ((2 ^ 11 * (T2 / 2 ^ 11) : Nat) : Int)
        go_wp2_with fail
        go_end0
        refine ⟨rfl, ac, ?_, ?_, hOB3.setCell (p := ⟨g, 0, none⟩) (.inl (.inr rfl)) _⟩
        · rw [HK.out.1]
          exact hB3.off (S := fun i => i = g) ((Off.refl (fun i => i = g) _).setCell (p := ⟨g, 0, none⟩) (.inl rfl) _) hne
        · rw [HK.out.2]
          simpa using hset
end Go.Proofs.YtodipcgilgigbaaGreatDoor.V
