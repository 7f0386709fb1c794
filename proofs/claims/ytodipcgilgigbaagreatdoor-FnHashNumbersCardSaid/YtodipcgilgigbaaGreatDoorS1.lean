/- The calls of spec's whole numbers, in numbers. -/
import Derived.Test.YtodipcgilgigbaaGreatDoorC9
import Derived.Test.YtodipcgilgigbaaGreatDoorCR
import Derived.Test.YtodipcgilgigbaaGreatDoorC4
import Derived.Test.YtodipcgilgigbaaGreatDoorI7
import Derived.Lib.Builder
import Derived.WalkKit
import Derived.Deep.QuietTactic
import Derived.BigQuiet
import Derived.Deep.DeepCutAuto
namespace Go.Proofs.YtodipcgilgigbaaGreatDoor.I
open Go Go.RowKit Go.Proofs.YtodipcgilgigbaaGreatDoorW.PrintWords Go.Proofs.YtodipcgilgigbaaGreatDoorW.PrintMore

/-- The value is spec's Int of the number z. -/
def IsI (w : World) (v : Value) (z : Int) : Prop := ∃ sv, v = .agg #[.bool (ri z).1, sv] ∧ ∃ base, Kd.R (Kd.int .u8) 5 w base (fun _ => True) sv (ri z).2
theorem IsI.below {w w' : World} {v : Value} {z : Int} (h : IsI w v z) (hb : Below w.heap.size w w') : IsI w' v z := by
  obtain ⟨sv, rfl, base, hr⟩ := h
  exact ⟨sv, rfl, base, Kd.R_below hr hb⟩
theorem IsI.set {w : World} {v : Value} {z : Int} (h : IsI w v z) {g : Nat} {cs : Array Value} (hg : w.heap[g]? = some (.cells cs 24 (0, 0))) (i : Nat) (u : Value) : IsI (w.setCell ⟨g, i, none⟩ u) v z := by
  obtain ⟨sv, rfl, base, hr⟩ := h
  exact ⟨sv, rfl, base, Kd.R_mono (Kd.R_far (p := ⟨g, i, none⟩) (Kd.R_types hr hg (by decide)) (fun _ hk => hk.2) u) (fun _ _ => trivial)⟩
theorem IsI.read {w : World} {v : Value} {z : Int} (h : IsI w v z) : ∃ A c, v = .agg #[.bool (ri z).1, .slice A (ri z).2.length c] ∧ Kd.C (Kd.int .u8) w A (ri z).2.length (ri z).2 ∧ (ri z).2.length ≤ c := by
  obtain ⟨sv, rfl, base, hr⟩ := h
  obtain ⟨A, c, rfl⟩ := Kd.R_slice hr
  exact ⟨A, c, rfl, (Kd.R_reads' hr).2.2, (Kd.R_reads' hr).2.1⟩
theorem IsI.form {w : World} {v : Value} {z : Int} (h : IsI w v z) : ∃ b A n c, v = .agg #[.bool b, .slice A n c] := by
  obtain ⟨s, rfl, _, hr⟩ := h
  obtain ⟨A, c, rfl⟩ := Kd.R_slice hr
  exact ⟨_, A, _, c, rfl⟩
/-- What a call leaves that gives a number. -/
def Gives (w : World) (z : Int) (e : Ending) (w' : World) : Prop := ∃ v, e = .returned v ∧ IsI w' v z ∧ Below w.heap.size w w'
theorem gives {w w' : World} {z : Int} {e : Ending} (h : ∃ v1_ : Value, e = .returned (.agg #[.bool (ri z).1, v1_]) ∧ Kd.R (Kd.int .u8) 5 w' w.heap.size (fun _ => True) v1_ (ri z).2 ∧ Below w.heap.size w w') : Gives w z e w' := by
  obtain ⟨sv, rfl, hr, hb⟩ := h
  exact ⟨_, rfl, ⟨sv, rfl, _, hr⟩, hb⟩
/-- The eight bytes of a word. -/
def IsB (w : World) (v : Value) (m : Nat) : Prop := ∃ A c, v = .slice A (fix 8 m).length c ∧ Kd.C (Kd.int .u8) w A (fix 8 m).length (fix 8 m) ∧ (fix 8 m).length ≤ c
theorem bytesOf_call (m : Nat) (w : World) : Calls Tryz.prog 28 #[.int .u64 m] w fun e w' => ∃ v, e = .returned v ∧ IsB w' v m ∧ Below w.heap.size w w' := by
  refine (spec_bytesOf.calls 9 m (fix 8 m) w (bytesOf_is m 9 (by omega))).mono ?_
  rintro e w' ⟨v, rfl, hr, hb⟩
  obtain ⟨A, c, rfl⟩ := Kd.R_slice hr
  exact ⟨_, rfl, ⟨A, c, rfl, (Kd.R_reads' hr).2.2, (Kd.R_reads' hr).2.1⟩, hb⟩
theorem of_call (m : Nat) (hm : m < 18446744073709551616) (v : Value) (w : World) (h : IsB w v m) : Calls Tryz.prog 15 #[.bool false, v] w (Gives w (m : Int)) := by
  obtain ⟨A, c, rfl, hC, hc⟩ := h
  have e : spec_Of.f 9 false (fix 8 m) = some ((ri (m : Int)).1, (ri (m : Int)).2) := by
    rw [of_fix false 8 m 9 (by decide) (by omega), Nat.mod_eq_of_lt (by simpa using hm), sg_false]
  exact (spec_Of.calls 9 false A c (fix 8 m) _ _ w hC hc e).mono fun _ _ h => gives h
theorem small_call (z : Int) (h0 : -9223372036854775808 ≤ z) (h1 : z < 9223372036854775808) (w : World) : Calls Tryz.prog 24 #[.int .i64 z] w (Gives w z) := by
  have e : spec_Small.f 9 z = some ((ri z).1, (ri z).2) := by
    rw [small_is z 9 h0 h1 (by omega), sg_ri]
    by_cases hz : z < 0
    · rw [decide_eq_true hz, if_pos rfl, show -((z.natAbs : Nat) : Int) = z by omega]
    · rw [decide_eq_false hz, if_neg (by decide), show ((z.natAbs : Nat) : Int) = z by omega]
  exact (spec_Small.calls 9 z _ _ w e).mono fun _ _ h => gives h
theorem lsh_call (x n : Nat) (hx : len x ≤ 1000) (hn : n ≤ 10000) (v : Value) (w : World) (h : IsI w v x) : Calls Tryz.prog 19 #[v, .int .i64 n] w (Gives w ((x * 2 ^ n : Nat) : Int)) := by
  obtain ⟨A, c, rfl, hC, hc⟩ := h.read
  exact (spec_Int_Lsh.calls _ _ A c _ n _ _ w hC hc (lsh_is x n _ (by omega) (by omega) (Nat.le_refl _))).mono fun _ _ h => gives h
theorem mul_call (x y : Nat) (hx : len x ≤ 1000) (hy : len y ≤ 1000) (v1 v2 : Value) (w : World) (h1 : IsI w v1 x) (h2 : IsI w v2 y) : Calls Tryz.prog 37 #[v1, v2] w (Gives w ((x * y : Nat) : Int)) := by
  obtain ⟨A1, c1, rfl, hC1, hc1⟩ := h1.read
  obtain ⟨A2, c2, rfl, hC2, hc2⟩ := h2.read
  exact (spec_Int_Mul.calls _ _ A1 c1 _ _ A2 c2 _ _ _ w hC1 hc1 hC2 hc2 (mulN_is x y _ (by omega) (by omega) (Nat.le_refl _))).mono fun _ _ h => gives h
theorem cmp_call (x y : Int) (hx : len x.natAbs ≤ 1000) (hy : len y.natAbs ≤ 1000) (v1 v2 : Value) (w : World) (h1 : IsI w v1 x) (h2 : IsI w v2 y) : Calls Tryz.prog 20 #[v1, v2] w fun e w' => e = .returned (.int .i64 (cmpZ x y)) ∧ Below w.heap.size w w' := by
  obtain ⟨A1, c1, rfl, hC1, hc1⟩ := h1.read
  obtain ⟨A2, c2, rfl, hC2, hc2⟩ := h2.read
  exact spec_Int_Cmp.calls _ _ A1 c1 _ _ A2 c2 _ _ w hC1 hc1 hC2 hc2 (cmp_is x y _ (by omega) (by omega) (Nat.lt_succ_self _))
theorem length_call (x : Nat) (hx : len x ≤ 1000) (v : Value) (w : World) (h : IsI w v x) : Calls Tryz.prog 16 #[v] w fun e w' => e = .returned (.int .i64 (bl x : Nat)) ∧ Below w.heap.size w w' := by
  obtain ⟨A, c, rfl, hC, hc⟩ := h.read
  have e : spec_Int_Length.f (8 * len x + 1) (ri (x : Int)).1 (ri (x : Int)).2 = some ((bl x : Nat) : Int) := length_is _ x _ (by omega) (Nat.lt_succ_self _)
  exact spec_Int_Length.calls _ _ A c _ _ w hC hc e
theorem ofz_call (neg : Bool) (n : Nat) (hn : len n ≤ 1000) (A : Option Addr) (c : Nat) (w : World) (hC : Kd.C (Kd.int .u8) w A (bytes n).length (bytes n)) (hc : (bytes n).length ≤ c) : Calls Tryz.prog 15 #[.bool neg, .slice A (bytes n).length c] w (Gives w (if neg then -(n : Int) else n)) := by
  have e : spec_Of.f (len n + 1) neg (bytes n) = some ((ri (if neg then -(n : Int) else n)).1, (ri (if neg then -(n : Int) else n)).2) := by
    rw [of_bytes neg n _ (by unfold cap; omega) (by omega), sg_ri]
  exact (spec_Of.calls _ neg A c (bytes n) _ _ w hC hc e).mono fun _ _ h => gives h
theorem power_call (n : Nat) (hn : n ≤ 10000) (w : World) : Calls Tryz.prog 21 #[.int .i64 n] w (Gives w ((2 ^ n : Nat) : Int)) := by
  have e : spec_Power.f (n + 2) (n : Int) = some ((ri ((2 ^ n : Nat) : Int)).1, (ri ((2 ^ n : Nat) : Int)).2) := by
    rw [power_is n _ (by omega) (by omega), sg_false]
  exact (spec_Power.calls _ n _ _ w e).mono fun _ _ h => gives h
theorem add_call (x y : Int) (hx : len x.natAbs ≤ 1000) (hy : len y.natAbs ≤ 1000) (v1 v2 : Value) (w : World) (h1 : IsI w v1 x) (h2 : IsI w v2 y) : Calls Tryz.prog 23 #[v1, v2] w (Gives w (x + y)) := by
  obtain ⟨A1, c1, rfl, hC1, hc1⟩ := h1.read
  obtain ⟨A2, c2, rfl, hC2, hc2⟩ := h2.read
  exact (spec_Int_Add.calls _ _ A1 c1 _ _ A2 c2 _ _ _ w hC1 hc1 hC2 hc2 (add_is x y _ (by omega) (by omega) (Nat.lt_succ_self _))).mono fun _ _ h => gives h
theorem minus_is (x : Int) (k : Nat) (hx : len x.natAbs ≤ 1000) (hk : len x.natAbs < k) : spec_Int_Minus.f k (ri x).1 (ri x).2 = some (ri (-x)) := by
  unfold spec_Int_Minus.f
  show (spec_Of.f k (!(decide (x < 0))) (bytes x.natAbs)).bind _ = _
  rw [of_bytes _ _ _ (by unfold cap; omega) hk, sg_ri]
  simp only [Option.bind_some]
  have : (if (!(decide (x < 0))) = true then -(x.natAbs : Int) else (x.natAbs : Int)) = -x := by
    by_cases h : x < 0
    · rw [if_neg (by simp [h])]; omega
    · rw [if_pos (by simp [h])]; omega
  rw [this]
theorem sub_is (x y : Int) (k : Nat) (hx : len x.natAbs ≤ 1000) (hy : len y.natAbs ≤ 1000) (hk : 2 * (len x.natAbs + len y.natAbs + 4) < k) : spec_Int_Sub.f k (ri x).1 (ri x).2 (ri y).1 (ri y).2 = some (ri (x - y)) := by
  unfold spec_Int_Sub.f
  rw [minus_is y k hy (by omega)]
  simp only [Option.bind_some]
  have h := add_is x (-y) k (by omega) (by rw [Int.natAbs_neg]; omega) (by rw [Int.natAbs_neg]; omega)
  rw [h]
  simp only [Option.bind_some, Int.sub_eq_add_neg]
theorem sub_call (x y : Int) (hx : len x.natAbs ≤ 1000) (hy : len y.natAbs ≤ 1000) (v1 v2 : Value) (w : World) (h1 : IsI w v1 x) (h2 : IsI w v2 y) : Calls Tryz.prog 18 #[v1, v2] w (Gives w (x - y)) := by
  obtain ⟨A1, c1, rfl, hC1, hc1⟩ := h1.read
  obtain ⟨A2, c2, rfl, hC2, hc2⟩ := h2.read
  exact (spec_Int_Sub.calls _ _ A1 c1 _ _ A2 c2 _ _ _ w hC1 hc1 hC2 hc2 (sub_is x y _ hx hy (Nat.lt_succ_self _))).mono fun _ _ h => gives h
theorem floor_call (a b : Nat) (hb0 : 0 < b) (ha : len a ≤ 1000) (hb : len b ≤ 2000) (v1 v2 : Value) (w : World) (h1 : IsI w v1 a) (h2 : IsI w v2 b) : Calls Tryz.prog 34 #[v1, v2] w fun e w' => ∃ vq vr, e = .returned (.tuple #[vq, vr]) ∧ IsI w' vq ((a / b : Nat) : Int) ∧ IsI w' vr ((a % b : Nat) : Int) ∧ Below w.heap.size w w' := by
  obtain ⟨A1, c1, rfl, hC1, hc1⟩ := h1.read
  obtain ⟨A2, c2, rfl, hC2, hc2⟩ := h2.read
  refine (spec_Int_Floor.calls _ _ A1 c1 _ _ A2 c2 _ _ _ _ _ w hC1 hc1 hC2 hc2 (floor_is a b _ hb0 (by omega) (by omega) (Nat.lt_succ_self _))).mono ?_
  rintro e w' ⟨q, r, rfl, hq, hr, hB⟩
  exact ⟨_, _, rfl, ⟨q, rfl, _, Kd.R_mono hq fun _ _ => trivial⟩, ⟨r, rfl, _, Kd.R_mono hr fun _ _ => trivial⟩, hB⟩
theorem rsh_is (x n k : Nat) (hx : len x ≤ 1000) (hn : n ≤ 10000) (hk : 17 * len x + 4 * n + 100 < k) : spec_Int_Rsh.f k (ri (x : Int)).1 (ri (x : Int)).2 (n : Int) = some (ri ((x / 2 ^ n : Nat) : Int)) := by
  unfold spec_Int_Rsh.f
  rw [ri_nat x]
  have hl : wrap64 (8 * ((bytes x).length : Int)) = ((8 * len x : Nat) : Int) := by
    show wrap64 (8 * (len x : Int)) = _
    rw [w64 (by omega) (by omega)]; omega
  simp only [hl]
  by_cases h : (n : Int) > ((8 * len x : Nat) : Int)
  · rw [if_pos h, if_neg (by decide)]
    have h1 : x < 2 ^ n := by
      have a := lt_len x
      have b : (256 : Nat) ^ len x = 2 ^ (8 * len x) := by rw [Nat.pow_mul]
      have c : (2 : Nat) ^ (8 * len x) ≤ 2 ^ n := Nat.pow_le_pow_right (by omega) (by omega)
      omega
    rw [Nat.div_eq_of_lt h1, ri_nat, bytes_zero]
  · rw [if_neg h, power_is n k (by omega) (by omega), sg_false]
    simp only [Option.bind_some]
    have l2 := len_pow2 n
    have f := floor_is x (2 ^ n) k (Nat.two_pow_pos n) (by omega) (by omega) (by omega)
    rw [ri_nat x] at f
    rw [f]
    rfl
theorem rsh_call (x n : Nat) (hx : len x ≤ 1000) (hn : n ≤ 10000) (v : Value) (w : World) (h : IsI w v x) : Calls Tryz.prog 17 #[v, .int .i64 n] w (Gives w ((x / 2 ^ n : Nat) : Int)) := by
  obtain ⟨A, c, rfl, hC, hc⟩ := h.read
  exact (spec_Int_Rsh.calls _ _ A c _ n _ _ w hC hc (rsh_is x n _ hx hn (Nat.lt_succ_self _))).mono fun _ _ h => gives h
theorem low_call (x : Nat) (hx : len x ≤ 1000) (v : Value) (w : World) (h : IsI w v x) : Calls Tryz.prog 26 #[v] w fun e w' => e = .returned (.int .u64 (x % 18446744073709551616 : Nat)) ∧ Below w.heap.size w w' := by
  obtain ⟨A, c, rfl, hC, hc⟩ := h.read
  have e : spec_Int_low.f 9 (ri (x : Int)).1 (ri (x : Int)).2 = some ((x % 18446744073709551616 : Nat) : Int) := low_is _ x _ (by omega) (by omega)
  exact spec_Int_low.calls _ _ A c _ _ w hC hc e
theorem lengthz_call (z : Int) (hx : len z.natAbs ≤ 1000) (v : Value) (w : World) (h : IsI w v z) : Calls Tryz.prog 16 #[v] w fun e w' => e = .returned (.int .i64 (bl z.natAbs : Nat)) ∧ Below w.heap.size w w' := by
  obtain ⟨A, c, rfl, hC, hc⟩ := h.read
  have e : spec_Int_Length.f (8 * len z.natAbs + 1) (ri z).1 (ri z).2 = some ((bl z.natAbs : Nat) : Int) := length_is _ z.natAbs _ (by omega) (Nat.lt_succ_self _)
  exact spec_Int_Length.calls _ _ A c _ _ w hC hc e
/-- Two variables of the type Int, in blocks of their own, that hold x and y; the world at the call's begin was w0. -/
structure Two (w0 : World) (A C : Nat) (x y : Int) (w : World) : Prop where
  ha : ∃ b s, w.heap[A]? = some (.cells #[.bool b, s] 24 (0, 0)) ∧ IsI w (.agg #[.bool b, s]) x
  hc : ∃ b s, w.heap[C]? = some (.cells #[.bool b, s] 24 (0, 0)) ∧ IsI w (.agg #[.bool b, s]) y
  ne : A ≠ C
  gea : w0.heap.size ≤ A
  gec : w0.heap.size ≤ C
  below : Below w0.heap.size w0 w
theorem Two.keep {w0 : World} {A C : Nat} {x y : Int} {w w' : World} (h : Two w0 A C x y w) (hb : Below w.heap.size w w') : Two w0 A C x y w' := by
  obtain ⟨⟨ba, sa, ga, ia⟩, ⟨bc, sc, gc, ic⟩, ne, gea, gec, bl⟩ := h
  have la := (Array.getElem?_eq_some_iff.1 ga).1
  have lc := (Array.getElem?_eq_some_iff.1 gc).1
  exact ⟨⟨ba, sa, (hb.block A la).trans ga, ia.below hb⟩, ⟨bc, sc, (hb.block C lc).trans gc, ic.below hb⟩, ne, gea, gec, bl.trans (hb.mono bl.size)⟩
theorem Two.swap {w0 : World} {A C : Nat} {x y : Int} {w : World} (h : Two w0 A C x y w) : Two w0 C A y x w := ⟨h.hc, h.ha, h.ne.symm, h.gec, h.gea, h.below⟩
theorem two_put {w : World} {A : Nat} {cs : Array Value} (h : w.heap[A]? = some (.cells cs 24 (0, 0))) (i : Nat) (u : Value) : (w.setCell ⟨A, i, none⟩ u).heap[A]? = some (.cells (cs.setIfInBounds i u) 24 (0, 0)) := by
  simp [World.setCell, Array.getElem?_modify, h]
theorem two_off {w : World} {A C : Nat} (ne : A ≠ C) (i : Nat) (u : Value) : (w.setCell ⟨A, i, none⟩ u).heap[C]? = w.heap[C]? := by
  simp [World.setCell, Array.getElem?_modify, ne]
theorem Two.put {w0 : World} {A C : Nat} {x y z : Int} {w : World} {b : Bool} {s : Value} (h : Two w0 A C x y w) (hv : IsI w (.agg #[.bool b, s]) z) : Two w0 A C z y ((w.setCell ⟨A, 0, none⟩ (.bool b)).setCell ⟨A, 1, none⟩ s) := by
  obtain ⟨⟨ba, sa, ga, ia⟩, ⟨bc, sc, gc, ic⟩, ne, gea, gec, bl⟩ := h
  have g1 := two_put ga 0 (.bool b)
  have g2 := two_put g1 1 s
  refine ⟨⟨b, s, by simpa using g2, (hv.set ga 0 _).set g1 1 _⟩, ⟨bc, sc, (two_off ne 1 s).trans ((two_off ne 0 _).trans gc), (ic.set ga 0 _).set g1 1 _⟩, ne, gea, gec, (bl.setCell (p := ⟨A, 0, none⟩) gea _).setCell (p := ⟨A, 1, none⟩) gea _⟩
theorem Two.new (w0 w : World) (x y : Int) (b1 b2 : Bool) (s1 s2 : Value) (hb : Below w0.heap.size w0 w) (h1 : IsI w (.agg #[.bool b1, s1]) x) (h2 : IsI w (.agg #[.bool b2, s2]) y) :
    Two w0 w.heap.size (w.heap.size + 1) x y ((w.alloc (.cells #[.bool b1, s1] 24)).alloc (.cells #[.bool b2, s2] 24)) := by
  have k1 : Below w.heap.size w (w.alloc (.cells #[.bool b1, s1] 24)) := (Below.refl _ w).alloc (Nat.le_refl _) _
  have k2 : Below w.heap.size w ((w.alloc (.cells #[.bool b1, s1] 24)).alloc (.cells #[.bool b2, s2] 24)) := k1.alloc (by simp) _
  have hs := hb.size
  refine ⟨⟨b1, s1, ?_, h1.below k2⟩, ⟨b2, s2, ?_, h2.below k2⟩, by omega, hs, by omega, hb.trans (k2.mono hs)⟩
  · rw [(World.grownBy_alloc (w.alloc (.cells #[.bool b1, s1] 24)) (.cells #[.bool b2, s2] 24) none).block _ (by simp) (by simp)]
    exact heap_alloc_new w _
  · have := heap_alloc_new (w.alloc (.cells #[.bool b1, s1] 24)) (.cells #[.bool b2, s2] 24)
    simpa using this
theorem Two.opena {w0 : World} {A C : Nat} {x y : Int} {w : World} (h : Two w0 A C x y w) : ∃ b s, IsI w (.agg #[.bool b, s]) x ∧ w.cell? ⟨A, 0, none⟩ = some (.bool b) ∧ w.cell? ⟨A, 1, none⟩ = some s ∧ w.frozen? ⟨A, 0, none⟩ = false ∧ w.frozen? ⟨A, 1, none⟩ = false ∧ A < w.heap.size := by
  obtain ⟨⟨b, s, g, i⟩, _, _, _, _, _⟩ := h
  exact ⟨b, s, i, by rw [Lib.cell_of_heap g]; rfl, by rw [Lib.cell_of_heap g]; rfl, Lib.frozen_of_heap g 0, Lib.frozen_of_heap g 1, (Array.getElem?_eq_some_iff.1 g).1⟩
theorem cell_keep {w w' : World} {A i : Nat} {v : Value} (h : w.cell? ⟨A, i, none⟩ = some v) (hb : Below w.heap.size w w') (hA : A < w.heap.size) : w'.cell? ⟨A, i, none⟩ = some v := (hb.cell (p := ⟨A, i, none⟩) hA).trans h
theorem frozen_keep {w w' : World} {A i : Nat} {b : Bool} (h : w.frozen? ⟨A, i, none⟩ = b) (hb : Below w.heap.size w w') (hA : A < w.heap.size) : w'.frozen? ⟨A, i, none⟩ = b := (hb.frozen (p := ⟨A, i, none⟩) hA).trans h
end Go.Proofs.YtodipcgilgigbaaGreatDoor.I
