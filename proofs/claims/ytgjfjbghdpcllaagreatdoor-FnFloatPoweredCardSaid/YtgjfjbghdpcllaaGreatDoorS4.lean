/- The walk of spec's Powered. -/
import Derived.Test.YtgjfjbghdpcllaaGreatDoorS3
import Derived.Test.YtgjfjbghdpcllaaGreatDoorW5
namespace Go.Proofs.YtgjfjbghdpcllaaGreatDoor
open Go Go.RowKit U I

/-- One variable of the type Int. -/
structure One (w0 : World) (A : Nat) (x : Int) (w : World) : Prop where
  ha : ∃ b s, w.heap[A]? = some (.cells #[.bool b, s] 37 (0, 0)) ∧ IsI w (.agg #[.bool b, s]) x
  gea : w0.heap.size ≤ A
  below : Below w0.heap.size w0 w
theorem One.keep {w0 : World} {A : Nat} {x : Int} {w w' : World} (h : One w0 A x w) (hb : Below w.heap.size w w') : One w0 A x w' := by
  obtain ⟨⟨ba, sa, ga, ia⟩, gea, bl⟩ := h
  exact ⟨⟨ba, sa, (hb.block A (Array.getElem?_eq_some_iff.1 ga).1).trans ga, ia.below hb⟩, gea, bl.trans (hb.mono bl.size)⟩
theorem One.put {w0 : World} {A : Nat} {x z : Int} {w : World} {b : Bool} {s : Value} (h : One w0 A x w) (hv : IsI w (.agg #[.bool b, s]) z) : One w0 A z ((w.setCell ⟨A, 0, none⟩ (.bool b)).setCell ⟨A, 1, none⟩ s) := by
  obtain ⟨⟨ba, sa, ga, ia⟩, gea, bl⟩ := h
  have g1 := two_put ga 0 (.bool b)
  have g2 := two_put g1 1 s
  exact ⟨⟨b, s, by simpa using g2, (hv.set ga 0 _).set g1 1 _⟩, gea, (bl.setCell (p := ⟨A, 0, none⟩) gea _).setCell (p := ⟨A, 1, none⟩) gea _⟩
theorem One.new (w0 w : World) (x : Int) (b1 : Bool) (s1 : Value) (hb : Below w0.heap.size w0 w) (h1 : IsI w (.agg #[.bool b1, s1]) x) : One w0 w.heap.size x (w.alloc (.cells #[.bool b1, s1] 37)) := by
  have k1 : Below w.heap.size w (w.alloc (.cells #[.bool b1, s1] 37)) := (Below.refl _ w).alloc (Nat.le_refl _) _
  exact ⟨⟨b1, s1, heap_alloc_new w _, h1.below k1⟩, hb.size, hb.trans (k1.mono hb.size)⟩
theorem One.opena {w0 : World} {A : Nat} {x : Int} {w : World} (h : One w0 A x w) : ∃ b s, IsI w (.agg #[.bool b, s]) x ∧ w.cell? ⟨A, 0, none⟩ = some (.bool b) ∧ w.cell? ⟨A, 1, none⟩ = some s ∧ w.frozen? ⟨A, 0, none⟩ = false ∧ w.frozen? ⟨A, 1, none⟩ = false ∧ A < w.heap.size := by
  obtain ⟨⟨b, s, g, i⟩, _, _⟩ := h
  exact ⟨b, s, i, by rw [Lib.cell_of_heap g]; rfl, by rw [Lib.cell_of_heap g]; rfl, Lib.frozen_of_heap g 0, Lib.frozen_of_heap g 1, (Array.getElem?_eq_some_iff.1 g).1⟩
/-- Powered's text out of its parts. -/
def pwText (s7 lt sx : ByteArray) (neg : Bool) (X : Int) : ByteArray :=
  if neg then ⟨#[45]⟩ ++ (s7.extract 0 1 ++ ⟨#[46]⟩ ++ s7.extract 1 7 ++ lt ++ ((if X < 0 then ⟨#[45]⟩ else ⟨#[43]⟩) ++ sx)) else s7.extract 0 1 ++ ⟨#[46]⟩ ++ s7.extract 1 7 ++ lt ++ ((if X < 0 then ⟨#[45]⟩ else ⟨#[43]⟩) ++ sx)
set_option maxHeartbeats 2000000 in
set_option maxRecDepth 100000 in
/-- Powered, where its number has seven digits at the first try (big = false) or at the second. -/
theorem powered_walk (bN : Nat) (neg : Bool) (m : Nat) (q e0 X : Int) (N1 d : Nat) (t1 td s7 tx sx lt : ByteArray) (big : Bool) (w : World) (hP : Parts bN neg m q)
    (hf : (FloatKind.f64.format.order bN 0 != some .eq) = true) (he0 : -400 ≤ e0 ∧ e0 ≤ 400)
    (LD : ∀ w, Calls Tryz.prog 13 #[.float .f64 bN] w fun e w' => e = .returned (.int .i64 e0) ∧ Below w.heap.size w w')
    (S1 : ∀ w, Calls Tryz.prog 14 #[.float .f64 bN, .int .i64 (6 - e0)] w (Gives w (N1 : Int)))
    (T1 : ∀ v w, IsI w v N1 → Calls Tryz.prog 15 #[v] w fun e w' => e = .returned (.string t1) ∧ Below w.heap.size w w')
    (hbig : decide (7 < t1.size) = big)
    (h0 : big = false → X = e0 ∧ d = N1)
    (h1 : big = true → X = e0 + 1 ∧ ∀ w, Calls Tryz.prog 14 #[.float .f64 bN, .int .i64 (6 - (e0 + 1))] w (Gives w (d : Int)))
    (Td : ∀ v w, IsI w v d → Calls Tryz.prog 15 #[v] w fun e w' => e = .returned (.string td) ∧ Below w.heap.size w w')
    (Pd : ∀ w, Calls Tryz.prog 16 #[.string td, .int .i64 7] w fun e w' => e = .returned (.string s7) ∧ ∃ k, w' = w.drewN k) (h7 : s7.size = 7) (hlt : lt.size = 1) (hsx : sx.size ≤ 3)
    (hX : -400 ≤ X ∧ X ≤ 400)
    (Tx : ∀ v w, IsI w v X.natAbs → Calls Tryz.prog 15 #[v] w fun e w' => e = .returned (.string tx) ∧ Below w.heap.size w w')
    (Px : ∀ w, Calls Tryz.prog 16 #[.string tx, .int .i64 2] w fun e w' => e = .returned (.string sx) ∧ ∃ k, w' = w.drewN k) :
    Calls Tryz.prog 8 #[.float .f64 bN, .string lt] w fun e w' => e = .returned (.string (pwText s7 lt sx neg X)) ∧ Below w.heap.size w w' := by
  have P := hP
  obtain ⟨hX1, hX2⟩ := hX
  obtain ⟨he1, he2⟩ := he0
  have H0 := Lib.hid h0
  have H1 := Lib.hid h1
  have HB := Lib.hid hbig
  clear hP h0 h1 hbig
  go_enter Tryz.func8, Tryz.ntmps8
  go_wp2_with fail
  refine (LD _).mono ?_; rintro _ w1 ⟨rfl, b1⟩
  go_wp2_with fail
  refine (S1 _).mono ?_; rintro _ w2 ⟨v2, rfl, i2, b2⟩
  obtain ⟨t2, A2, n2, k2, rfl⟩ := i2.form
  have O0 := One.new w w2 (N1 : Int) t2 (.slice A2 n2 k2) (b1.trans (b2.mono b1.size)) i2
  have j2 : IsI (w2.alloc (.cells #[.bool t2, .slice A2 n2 k2] 37)) (.agg #[.bool t2, .slice A2 n2 k2]) (N1 : Int) := i2.below ((Below.refl _ w2).alloc (Nat.le_refl _) _)
  clear i2 b1 b2
  go_wp2_with fail
  refine (T1 _ _ j2).mono ?_; rintro _ w3 ⟨rfl, b3⟩
  have O3 := O0.keep b3
  clear O0 j2 b3
  go_upto_if 22 with fail
  go_cut [5] (fun s5 wx => s5 = .int .i64 X ∧ One w w2.heap.size (d : Int) wx)
  case first =>
    cases big
    · obtain ⟨rfl, rfl⟩ := H0.out rfl
      have hs : t1.size ≤ 7 := by have := of_decide_eq_false HB.out; omega
      have hs' : ¬ (7 < t1.size) := by omega
      go_wp2_with fail
      go_meet
      exact ⟨rfl, O3⟩
    · obtain ⟨rfl, S2⟩ := H1.out rfl
      have hs : 7 < t1.size := of_decide_eq_true HB.out
      go_wp2_with fail
      refine (S2 _).mono ?_; rintro _ w4 ⟨v4, rfl, i4, b4⟩
      obtain ⟨t4, A4, n4, k4, rfl⟩ := i4.form
      have O4 := O3.keep b4
      obtain ⟨_, _, _, d0, d1, f0, f1, _⟩ := O4.opena
      have O5 := O4.put i4
      clear O3 O4 i4 b4
      go_wp2_with fail
      go_meet
      exact ⟨rfl, O5⟩
  case rest =>
    obtain ⟨rfl, O5⟩ := hcut
    clear O3 H0 H1
    obtain ⟨ba, sa, ia, c0, c1, _, _, hA⟩ := O5.opena
    go_wp2_with fail
    refine (Td _ _ ia).mono ?_; rintro _ w6 ⟨rfl, b6⟩
    have B6 := O5.below.trans (b6.mono O5.below.size)
    clear O5 b6 ia c0 c1 hA
    go_wp2_with fail
    refine (Pd _).mono ?_; rintro _ w7 ⟨rfl, k7, rfl⟩
    go_wp2_with fail
    go_quiet (fail)
    have B6 := below_drewN B6 (k7 + nq)
    clear Td Pd LD S1 T1
    rcases Int.lt_or_le X 0 with hs | hs
    · obtain ⟨e, rfl⟩ : ∃ e : Nat, X = -(e : Int) := ⟨X.natAbs, by omega⟩
      rw [show (-(e : Int)).natAbs = e by omega] at Tx
      have he : (0 : Int) < e := by omega
      have S := small_call (e : Int) (by omega) (by omega)
      have he1 : (e : Int) ≤ 400 := by omega
      clear hX1 hX2 hs
      go_wp2_with fail
      refine (S _).mono ?_; rintro _ w8 ⟨v8, rfl, i8, b8⟩
      have B8 := B6.trans (b8.mono B6.size)
      clear S b8
      go_wp2_with fail
      refine (Tx _ _ i8).mono ?_; rintro _ w9 ⟨rfl, b9⟩
      have B9 := B8.trans (b9.mono B8.size)
      clear Tx i8 b9
      go_wp2_with fail
      refine (Px _).mono ?_; rintro _ wa ⟨rfl, ka, rfl⟩
      go_wp2_with fail
      refine (P _).mono ?_; rintro _ wb ⟨rfl, rfl⟩
      cases neg
      all_goals
        go_wp2_with fail
        go_ret
        exact ⟨by unfold pwText; rw [if_pos (show -(e : Int) < 0 by omega)]; rfl, below_drewN B9 ka⟩
    · obtain ⟨e, rfl⟩ : ∃ e : Nat, X = (e : Int) := ⟨X.natAbs, by omega⟩
      rw [Int.natAbs_natCast] at Tx
      have S := small_call (e : Int) (by omega) (by omega)
      have he1 : (e : Int) ≤ 400 := by omega
      clear hX1 hX2 hs
      go_wp2_with fail
      refine (S _).mono ?_; rintro _ w8 ⟨v8, rfl, i8, b8⟩
      have B8 := B6.trans (b8.mono B6.size)
      clear S b8
      go_wp2_with fail
      refine (Tx _ _ i8).mono ?_; rintro _ w9 ⟨rfl, b9⟩
      have B9 := B8.trans (b9.mono B8.size)
      clear Tx i8 b9
      go_wp2_with fail
      refine (Px _).mono ?_; rintro _ wa ⟨rfl, ka, rfl⟩
      go_wp2_with fail
      refine (P _).mono ?_; rintro _ wb ⟨rfl, rfl⟩
      cases neg
      all_goals
        go_wp2_with fail
        go_ret
        exact ⟨by unfold pwText; rw [if_neg (show ¬ ((e : Int) < 0) by omega)]; rfl, below_drewN B9 ka⟩
set_option maxHeartbeats 2000000 in
set_option maxRecDepth 100000 in
/-- Powered at a zero. -/
theorem powered_zero (bN : Nat) (neg : Bool) (m : Nat) (q : Int) (d : Nat) (td s7 tx sx lt : ByteArray) (w : World) (hP : Parts bN neg m q)
    (hf : (FloatKind.f64.format.order bN 0 != some .eq) = false)
    (S1 : ∀ w, Calls Tryz.prog 14 #[.float .f64 bN, .int .i64 6] w (Gives w (d : Int)))
    (ht : td.size ≤ 7)
    (Td : ∀ v w, IsI w v d → Calls Tryz.prog 15 #[v] w fun e w' => e = .returned (.string td) ∧ Below w.heap.size w w')
    (Pd : ∀ w, Calls Tryz.prog 16 #[.string td, .int .i64 7] w fun e w' => e = .returned (.string s7) ∧ ∃ k, w' = w.drewN k) (h7 : s7.size = 7) (hlt : lt.size = 1) (hsx : sx.size ≤ 3)
    (Tx : ∀ v w, IsI w v 0 → Calls Tryz.prog 15 #[v] w fun e w' => e = .returned (.string tx) ∧ Below w.heap.size w w')
    (Px : ∀ w, Calls Tryz.prog 16 #[.string tx, .int .i64 2] w fun e w' => e = .returned (.string sx) ∧ ∃ k, w' = w.drewN k) :
    Calls Tryz.prog 8 #[.float .f64 bN, .string lt] w fun e w' => e = .returned (.string (pwText s7 lt sx neg 0)) ∧ Below w.heap.size w w' := by
  have P := hP
  clear hP
  go_enter Tryz.func8, Tryz.ntmps8
  go_wp2_with fail
  refine (S1 _).mono ?_; rintro _ w2 ⟨v2, rfl, i2, b2⟩
  obtain ⟨t2, A2, n2, k2, rfl⟩ := i2.form
  have O0 := One.new w w2 (d : Int) t2 (.slice A2 n2 k2) b2 i2
  have j2 : IsI (w2.alloc (.cells #[.bool t2, .slice A2 n2 k2] 37)) (.agg #[.bool t2, .slice A2 n2 k2]) (d : Int) := i2.below ((Below.refl _ w2).alloc (Nat.le_refl _) _)
  clear i2 b2
  go_wp2_with fail
  refine (Td _ _ j2).mono ?_; rintro _ w3 ⟨rfl, b3⟩
  have O3 := O0.keep b3
  clear O0 j2 b3
  have ht' : ¬ (7 < td.size) := by omega
  have O5 := O3
  clear O3
  obtain ⟨ba, sa, ia, c0, c1, _, _, hA⟩ := O5.opena
  go_wp2_with fail
  refine (Td _ _ ia).mono ?_; rintro _ w6 ⟨rfl, b6⟩
  have B6 := O5.below.trans (b6.mono O5.below.size)
  clear O5 b6 ia c0 c1 hA
  go_wp2_with fail
  refine (Pd _).mono ?_; rintro _ w7 ⟨rfl, k7, rfl⟩
  go_wp2_with fail
  go_quiet (fail)
  have B6 := below_drewN B6 (k7 + nq)
  clear Td Pd S1
  have S := small_call 0 (by omega) (by omega)
  go_wp2_with fail
  refine (S _).mono ?_; rintro _ w8 ⟨v8, rfl, i8, b8⟩
  have B8 := B6.trans (b8.mono B6.size)
  clear S b8
  go_wp2_with fail
  refine (Tx _ _ i8).mono ?_; rintro _ w9 ⟨rfl, b9⟩
  have B9 := B8.trans (b9.mono B8.size)
  clear Tx i8 b9
  go_wp2_with fail
  refine (Px _).mono ?_; rintro _ wa ⟨rfl, ka, rfl⟩
  go_wp2_with fail
  refine (P _).mono ?_; rintro _ wb ⟨rfl, rfl⟩
  cases neg
  all_goals
    go_wp2_with fail
    go_ret
    exact ⟨by unfold pwText; rw [if_neg (show ¬ ((0 : Int) < 0) by omega)]; rfl, below_drewN B9 ka⟩
end Go.Proofs.YtgjfjbghdpcllaaGreatDoor
