/- The calls of spec's whole numbers, in numbers. -/
import Derived.Test.YtgjfjbghdpcllaaGreatDoorC9
import Derived.Test.YtgjfjbghdpcllaaGreatDoorC10
import Derived.Test.YtgjfjbghdpcllaaGreatDoorI7
import Derived.Lib.Builder
namespace Go.Proofs.YtgjfjbghdpcllaaGreatDoor.I
open Go Go.RowKit Go.Proofs.YtgjfjbghdpcllaaGreatDoorW.PrintWords Go.Proofs.YtgjfjbghdpcllaaGreatDoorW.PrintMore

/-- The value is spec's Int of the number z. -/
def IsI (w : World) (v : Value) (z : Int) : Prop := ∃ sv, v = .agg #[.bool (ri z).1, sv] ∧ ∃ base, Kd.R (Kd.int .u8) 5 w base (fun _ => True) sv (ri z).2
theorem IsI.below {w w' : World} {v : Value} {z : Int} (h : IsI w v z) (hb : Below w.heap.size w w') : IsI w' v z := by
  obtain ⟨sv, rfl, base, hr⟩ := h
  exact ⟨sv, rfl, base, Kd.R_below hr hb⟩
theorem IsI.set {w : World} {v : Value} {z : Int} (h : IsI w v z) {g : Nat} {cs : Array Value} (hg : w.heap[g]? = some (.cells cs 37 (0, 0))) (i : Nat) (u : Value) : IsI (w.setCell ⟨g, i, none⟩ u) v z := by
  obtain ⟨sv, rfl, base, hr⟩ := h
  exact ⟨sv, rfl, base, Kd.R_mono (Kd.R_far (p := ⟨g, i, none⟩) (Kd.R_types hr hg (by decide)) (fun _ hk => hk.2) u) (fun _ _ => trivial)⟩
theorem IsI.read {w : World} {v : Value} {z : Int} (h : IsI w v z) : ∃ A c, v = .agg #[.bool (ri z).1, .slice A (ri z).2.length c] ∧ Kd.C (Kd.int .u8) w A (ri z).2.length (ri z).2 ∧ (ri z).2.length ≤ c := by
  obtain ⟨sv, rfl, base, hr⟩ := h
  obtain ⟨A, c, rfl⟩ := Kd.R_slice hr
  exact ⟨A, c, rfl, (Kd.R_reads' hr).2.2, (Kd.R_reads' hr).2.1⟩
/-- What a call leaves that gives a number. -/
def Gives (w : World) (z : Int) (e : Ending) (w' : World) : Prop := ∃ v, e = .returned v ∧ IsI w' v z ∧ Below w.heap.size w w'
theorem gives {w w' : World} {z : Int} {e : Ending} (h : ∃ v1_ : Value, e = .returned (.agg #[.bool (ri z).1, v1_]) ∧ Kd.R (Kd.int .u8) 5 w' w.heap.size (fun _ => True) v1_ (ri z).2 ∧ Below w.heap.size w w') : Gives w z e w' := by
  obtain ⟨sv, rfl, hr, hb⟩ := h
  exact ⟨_, rfl, ⟨sv, rfl, _, hr⟩, hb⟩
/-- The eight bytes of a word. -/
def IsB (w : World) (v : Value) (m : Nat) : Prop := ∃ A c, v = .slice A (fix 8 m).length c ∧ Kd.C (Kd.int .u8) w A (fix 8 m).length (fix 8 m) ∧ (fix 8 m).length ≤ c
theorem bytesOf_call (m : Nat) (w : World) : Calls Tryz.prog 23 #[.int .u64 m] w fun e w' => ∃ v, e = .returned v ∧ IsB w' v m ∧ Below w.heap.size w w' := by
  refine (spec_bytesOf.calls 9 m (fix 8 m) w (bytesOf_is m 9 (by omega))).mono ?_
  rintro e w' ⟨v, rfl, hr, hb⟩
  obtain ⟨A, c, rfl⟩ := Kd.R_slice hr
  exact ⟨_, rfl, ⟨A, c, rfl, (Kd.R_reads' hr).2.2, (Kd.R_reads' hr).2.1⟩, hb⟩
theorem of_call (m : Nat) (hm : m < 18446744073709551616) (v : Value) (w : World) (h : IsB w v m) : Calls Tryz.prog 22 #[.bool false, v] w (Gives w (m : Int)) := by
  obtain ⟨A, c, rfl, hC, hc⟩ := h
  have e : spec_Of.f 9 false (fix 8 m) = some ((ri (m : Int)).1, (ri (m : Int)).2) := by
    rw [of_fix false 8 m 9 (by decide) (by omega), Nat.mod_eq_of_lt (by simpa using hm), sg_false]
  exact (spec_Of.calls 9 false A c (fix 8 m) _ _ w hC hc e).mono fun _ _ h => gives h
theorem small_call (z : Int) (h0 : -9223372036854775808 ≤ z) (h1 : z < 9223372036854775808) (w : World) : Calls Tryz.prog 17 #[.int .i64 z] w (Gives w z) := by
  have e : spec_Small.f 9 z = some ((ri z).1, (ri z).2) := by
    rw [small_is z 9 h0 h1 (by omega), sg_ri]
    by_cases hz : z < 0
    · rw [decide_eq_true hz, if_pos rfl, show -((z.natAbs : Nat) : Int) = z by omega]
    · rw [decide_eq_false hz, if_neg (by decide), show ((z.natAbs : Nat) : Int) = z by omega]
  exact (spec_Small.calls 9 z _ _ w e).mono fun _ _ h => gives h
theorem lsh_call (x n : Nat) (hx : len x ≤ 1000) (hn : n ≤ 10000) (v : Value) (w : World) (h : IsI w v x) : Calls Tryz.prog 25 #[v, .int .i64 n] w (Gives w ((x * 2 ^ n : Nat) : Int)) := by
  obtain ⟨A, c, rfl, hC, hc⟩ := h.read
  exact (spec_Int_Lsh.calls _ _ A c _ n _ _ w hC hc (lsh_is x n _ (by omega) (by omega) (Nat.le_refl _))).mono fun _ _ h => gives h
theorem mul_call (x y : Nat) (hx : len x ≤ 1000) (hy : len y ≤ 1000) (v1 v2 : Value) (w : World) (h1 : IsI w v1 x) (h2 : IsI w v2 y) : Calls Tryz.prog 26 #[v1, v2] w (Gives w ((x * y : Nat) : Int)) := by
  obtain ⟨A1, c1, rfl, hC1, hc1⟩ := h1.read
  obtain ⟨A2, c2, rfl, hC2, hc2⟩ := h2.read
  exact (spec_Int_Mul.calls _ _ A1 c1 _ _ A2 c2 _ _ _ w hC1 hc1 hC2 hc2 (mulN_is x y _ (by omega) (by omega) (Nat.le_refl _))).mono fun _ _ h => gives h
theorem tens_call (n : Nat) (hn : n ≤ 10000) (w : World) : Calls Tryz.prog 27 #[.int .i64 n] w (Gives w ((10 ^ n : Nat) : Int)) :=
  (spec_frontTens.calls _ n _ _ w (tens_is n _ hn (Nat.le_refl _))).mono fun _ _ h => gives h
theorem cmp_call (x y : Int) (hx : len x.natAbs ≤ 1000) (hy : len y.natAbs ≤ 1000) (v1 v2 : Value) (w : World) (h1 : IsI w v1 x) (h2 : IsI w v2 y) : Calls Tryz.prog 28 #[v1, v2] w fun e w' => e = .returned (.int .i64 (cmpZ x y)) ∧ Below w.heap.size w w' := by
  obtain ⟨A1, c1, rfl, hC1, hc1⟩ := h1.read
  obtain ⟨A2, c2, rfl, hC2, hc2⟩ := h2.read
  exact spec_Int_Cmp.calls _ _ A1 c1 _ _ A2 c2 _ _ w hC1 hc1 hC2 hc2 (cmp_is x y _ (by omega) (by omega) (Nat.lt_succ_self _))
theorem near_call (a b : Nat) (hb0 : 0 < b) (ha : len a ≤ 1000) (hb : len b ≤ 1000) (v1 v2 : Value) (w : World) (h1 : IsI w v1 a) (h2 : IsI w v2 b) : Calls Tryz.prog 29 #[v1, v2] w (Gives w ((nr a b : Nat) : Int)) := by
  obtain ⟨A1, c1, rfl, hC1, hc1⟩ := h1.read
  obtain ⟨A2, c2, rfl, hC2, hc2⟩ := h2.read
  exact (spec_near.calls _ _ A1 c1 _ _ A2 c2 _ _ _ w hC1 hc1 hC2 hc2 (near_is a b _ hb0 (by omega) (by omega) (Nat.lt_succ_self _))).mono fun _ _ h => gives h
theorem length_call (x : Nat) (hx : len x ≤ 1000) (v : Value) (w : World) (h : IsI w v x) : Calls Tryz.prog 24 #[v] w fun e w' => e = .returned (.int .i64 (bl x : Nat)) ∧ Below w.heap.size w w' := by
  obtain ⟨A, c, rfl, hC, hc⟩ := h.read
  have e : spec_Int_Length.f (8 * len x + 1) (ri (x : Int)).1 (ri (x : Int)).2 = some ((bl x : Nat) : Int) := length_is _ x _ (by omega) (Nat.lt_succ_self _)
  exact spec_Int_Length.calls _ _ A c _ _ w hC hc e
theorem text_call (x j : Nat) (hx : x < 10 ^ j) (hl : len x ≤ 1000) (hj : j ≤ 1000) (v : Value) (w : World) (h : IsI w v x) : Calls Tryz.prog 15 #[v] w fun e w' => e = .returned (.string (strOfNums (decs x))) ∧ Below w.heap.size w w' := by
  obtain ⟨A, c, rfl, hC, hc⟩ := h.read
  exact spec_Int_Text.calls _ _ A c _ _ w hC hc (text_is x j _ hx (by omega) (by omega) (Nat.le_refl _))
theorem pad_call (l : List Int) (n : Nat) (hl : l.length ≤ 1000) (hn : n ≤ 1000) (w : World) : Calls Tryz.prog 16 #[.string (strOfNums l), .int .i64 n] w fun e w' => e = .returned (.string (strOfNums (List.replicate (n - l.length) 48 ++ l))) ∧ ∃ q, w' = w.drewN q := by
  have e : spec_padded.f (n + 1) (strOfNums l) n = some (strOfNums (List.replicate (n - l.length) 48 ++ l)) := pad_is n hn n _ l (by omega) (by omega) (Nat.lt_succ_self _)
  refine (spec_padded.calls _ _ n _ w e).mono ?_
  rintro e w' ⟨rfl, q, h⟩
  exact ⟨rfl, q, h⟩
theorem IsI.form {w : World} {v : Value} {z : Int} (h : IsI w v z) : ∃ b A n c, v = .agg #[.bool b, .slice A n c] := by
  obtain ⟨s, rfl, _, hr⟩ := h
  obtain ⟨A, c, rfl⟩ := Kd.R_slice hr
  exact ⟨_, A, _, c, rfl⟩
/-- Two variables of the type Int, in blocks of their own, that hold x and y; the world at the call's begin was w0. -/
structure Two (w0 : World) (A C : Nat) (x y : Int) (w : World) : Prop where
  ha : ∃ b s, w.heap[A]? = some (.cells #[.bool b, s] 37 (0, 0)) ∧ IsI w (.agg #[.bool b, s]) x
  hc : ∃ b s, w.heap[C]? = some (.cells #[.bool b, s] 37 (0, 0)) ∧ IsI w (.agg #[.bool b, s]) y
  ne : A ≠ C
  gea : w0.heap.size ≤ A
  gec : w0.heap.size ≤ C
  below : Below w0.heap.size w0 w
theorem Two.keep {w0 : World} {A C : Nat} {x y : Int} {w w' : World} (h : Two w0 A C x y w) (hb : Below w.heap.size w w') : Two w0 A C x y w' := by
  obtain ⟨⟨ba, sa, ga, ia⟩, ⟨bc, sc, gc, ic⟩, ne, gea, gec, bl⟩ := h
  have la := (Array.getElem?_eq_some_iff.1 ga).1
  have lc := (Array.getElem?_eq_some_iff.1 gc).1
  exact ⟨⟨ba, sa, (hb.block A la).trans ga, ia.below hb⟩, ⟨bc, sc, (hb.block C lc).trans gc, ic.below hb⟩, ne, gea, gec, bl.trans (hb.mono bl.size)⟩
theorem Two.swap {w0 : World} {A C : Nat} {x y : Int} {w : World} (h : Two w0 A C x y w) : Two w0 C A y x w := ⟨h.hc, h.ha, h.ne.symm, h.gec, h.gea, h.below⟩
theorem two_put {w : World} {A : Nat} {cs : Array Value} (h : w.heap[A]? = some (.cells cs 37 (0, 0))) (i : Nat) (u : Value) : (w.setCell ⟨A, i, none⟩ u).heap[A]? = some (.cells (cs.setIfInBounds i u) 37 (0, 0)) := by
  simp [World.setCell, Array.getElem?_modify, h]
theorem two_off {w : World} {A C : Nat} (ne : A ≠ C) (i : Nat) (u : Value) : (w.setCell ⟨A, i, none⟩ u).heap[C]? = w.heap[C]? := by
  simp [World.setCell, Array.getElem?_modify, ne]
theorem Two.put {w0 : World} {A C : Nat} {x y z : Int} {w : World} {b : Bool} {s : Value} (h : Two w0 A C x y w) (hv : IsI w (.agg #[.bool b, s]) z) : Two w0 A C z y ((w.setCell ⟨A, 0, none⟩ (.bool b)).setCell ⟨A, 1, none⟩ s) := by
  obtain ⟨⟨ba, sa, ga, ia⟩, ⟨bc, sc, gc, ic⟩, ne, gea, gec, bl⟩ := h
  have g1 := two_put ga 0 (.bool b)
  have g2 := two_put g1 1 s
  refine ⟨⟨b, s, by simpa using g2, (hv.set ga 0 _).set g1 1 _⟩, ⟨bc, sc, (two_off ne 1 s).trans ((two_off ne 0 _).trans gc), (ic.set ga 0 _).set g1 1 _⟩, ne, gea, gec, (bl.setCell (p := ⟨A, 0, none⟩) gea _).setCell (p := ⟨A, 1, none⟩) gea _⟩
theorem Two.new (w0 w : World) (x y : Int) (b1 b2 : Bool) (s1 s2 : Value) (hb : Below w0.heap.size w0 w) (h1 : IsI w (.agg #[.bool b1, s1]) x) (h2 : IsI w (.agg #[.bool b2, s2]) y) :
    Two w0 w.heap.size (w.heap.size + 1) x y ((w.alloc (.cells #[.bool b1, s1] 37)).alloc (.cells #[.bool b2, s2] 37)) := by
  have k1 : Below w.heap.size w (w.alloc (.cells #[.bool b1, s1] 37)) := (Below.refl _ w).alloc (Nat.le_refl _) _
  have k2 : Below w.heap.size w ((w.alloc (.cells #[.bool b1, s1] 37)).alloc (.cells #[.bool b2, s2] 37)) := k1.alloc (by simp) _
  have hs := hb.size
  refine ⟨⟨b1, s1, ?_, h1.below k2⟩, ⟨b2, s2, ?_, h2.below k2⟩, by omega, hs, by omega, hb.trans (k2.mono hs)⟩
  · rw [(World.grownBy_alloc (w.alloc (.cells #[.bool b1, s1] 37)) (.cells #[.bool b2, s2] 37) none).block _ (by simp) (by simp)]
    exact heap_alloc_new w _
  · have := heap_alloc_new (w.alloc (.cells #[.bool b1, s1] 37)) (.cells #[.bool b2, s2] 37)
    simpa using this
theorem Two.opena {w0 : World} {A C : Nat} {x y : Int} {w : World} (h : Two w0 A C x y w) : ∃ b s, IsI w (.agg #[.bool b, s]) x ∧ w.cell? ⟨A, 0, none⟩ = some (.bool b) ∧ w.cell? ⟨A, 1, none⟩ = some s ∧ w.frozen? ⟨A, 0, none⟩ = false ∧ w.frozen? ⟨A, 1, none⟩ = false ∧ A < w.heap.size := by
  obtain ⟨⟨b, s, g, i⟩, _, _, _, _, _⟩ := h
  exact ⟨b, s, i, by rw [Lib.cell_of_heap g]; rfl, by rw [Lib.cell_of_heap g]; rfl, Lib.frozen_of_heap g 0, Lib.frozen_of_heap g 1, (Array.getElem?_eq_some_iff.1 g).1⟩
theorem cell_keep {w w' : World} {A i : Nat} {v : Value} (h : w.cell? ⟨A, i, none⟩ = some v) (hb : Below w.heap.size w w') (hA : A < w.heap.size) : w'.cell? ⟨A, i, none⟩ = some v := (hb.cell (p := ⟨A, i, none⟩) hA).trans h
theorem frozen_keep {w w' : World} {A i : Nat} {b : Bool} (h : w.frozen? ⟨A, i, none⟩ = b) (hb : Below w.heap.size w w') (hA : A < w.heap.size) : w'.frozen? ⟨A, i, none⟩ = b := (hb.frozen (p := ⟨A, i, none⟩) hA).trans h
end Go.Proofs.YtgjfjbghdpcllaaGreatDoor.I
