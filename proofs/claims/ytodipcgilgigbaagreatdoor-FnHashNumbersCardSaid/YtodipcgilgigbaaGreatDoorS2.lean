/- The walk of spec's Nearest. -/
import Derived.Test.YtodipcgilgigbaaGreatDoorS1
import Derived.Test.YtodipcgilgigbaaGreatDoorN3
import Derived.Deep.CutBlock
import Derived.Deep.RegionHeld3
import Derived.Deep.DrawnRows
import Derived.WalkLawsBesides
import Derived.Lib.Hide
import Derived.IntWalk
set_option linter.unusedVariables false
namespace Go.Proofs.YtodipcgilgigbaaGreatDoor
open Go Go.RowKit I V Go.Proofs.YtodipcgilgigbaaGreatDoorW.PrintWords
/-- Block a is a variable of the type Int that holds z. -/
def Vr (w : World) (a : Nat) (z : Int) : Prop := ∃ b A n c, w.heap[a]? = some (.cells #[.bool b, .slice A n c] 24 (0, 0)) ∧ IsI w (.agg #[.bool b, .slice A n c]) z
theorem Vr.lt {w : World} {a : Nat} {z : Int} (h : Vr w a z) : a < w.heap.size := by
  obtain ⟨_, _, _, _, g, _⟩ := h
  exact (Array.getElem?_eq_some_iff.1 g).1
theorem Vr.keep {w w' : World} {a : Nat} {z : Int} (h : Vr w a z) (hb : Below w.heap.size w w') : Vr w' a z := by
  have l := h.lt
  obtain ⟨b, A, n, c, g, i⟩ := h
  exact ⟨b, A, n, c, (hb.block a l).trans g, i.below hb⟩
theorem Vr.new {w w' : World} {a : Nat} {z : Int} {b : Bool} {A : Option Addr} {n c : Nat} (hi : IsI w (.agg #[.bool b, .slice A n c]) z) (hb : Below w.heap.size w w') (g : w'.heap[a]? = some (.cells #[.bool b, .slice A n c] 24 (0, 0))) : Vr w' a z :=
  ⟨b, A, n, c, g, hi.below hb⟩
theorem bt {B : Nat} {w w' w'' : World} (h : Below B w w') (b : Below w'.heap.size w' w'') (e : B ≤ w.heap.size) : Below B w w'' := h.trans (b.mono (Nat.le_trans e h.size))
theorem Vr.put {w : World} {a : Nat} {z z' : Int} {b : Bool} {A : Option Addr} {n c : Nat} (h : Vr w a z) (hv : IsI w (.agg #[.bool b, .slice A n c]) z') : Vr ((w.setCell ⟨a, 0, none⟩ (.bool b)).setCell ⟨a, 1, none⟩ (.slice A n c)) a z' := by
  obtain ⟨b', A', n', c', g, i⟩ := h
  have g1 := two_put g 0 (.bool b)
  have g2 := two_put g1 1 (.slice A n c)
  exact ⟨b, A, n, c, by simpa using g2, (hv.set g 0 _).set g1 1 _⟩
theorem Vr.off {w : World} {a a' : Nat} {z z' : Int} {b : Bool} {A : Option Addr} {n c : Nat} (h : Vr w a z) (h' : Vr w a' z') (ne : a ≠ a') : Vr ((w.setCell ⟨a, 0, none⟩ (.bool b)).setCell ⟨a, 1, none⟩ (.slice A n c)) a' z' := by
  obtain ⟨_, _, _, _, ga, _⟩ := h
  obtain ⟨b', A', n', c', g, i⟩ := h'
  exact ⟨b', A', n', c', (two_off ne 1 _).trans ((two_off ne 0 _).trans g), (i.set ga 0 _).set (two_put ga 0 _) 1 _⟩
theorem Vr.cells {w : World} {a : Nat} {z : Int} (h : Vr w a z) : ∃ b A n c, IsI w (.agg #[.bool b, .slice A n c]) z ∧ w.cell? ⟨a, 0, none⟩ = some (.bool b) ∧ w.cell? ⟨a, 1, none⟩ = some (.slice A n c) ∧ w.frozen? ⟨a, 0, none⟩ = false ∧ w.frozen? ⟨a, 1, none⟩ = false := by
  obtain ⟨b, A, n, c, g, i⟩ := h
  exact ⟨b, A, n, c, i, by rw [Lib.cell_of_heap g]; rfl, by rw [Lib.cell_of_heap g]; rfl, Lib.frozen_of_heap g 0, Lib.frozen_of_heap g 1⟩
theorem vr_put {w : World} {a : Nat} {z : Int} {x y : Value} {b : Bool} {A : Option Addr} {n c : Nat} (g : w.heap[a]? = some (.cells #[x, y] 24 (0, 0))) (hv : IsI w (.agg #[.bool b, .slice A n c]) z) : Vr ((w.setCell ⟨a, 0, none⟩ (.bool b)).setCell ⟨a, 1, none⟩ (.slice A n c)) a z := by
  have g1 := two_put g 0 (.bool b)
  have g2 := two_put g1 1 (.slice A n c)
  exact ⟨b, A, n, c, by simpa using g2, (hv.set g 0 _).set g1 1 _⟩
theorem power_at (i : Int) (n : Nat) (h : i = n) (hn : n ≤ 10000) (w : World) : Calls Tryz.prog 21 #[.int .i64 i] w (Gives w ((2 ^ n : Nat) : Int)) := by
  subst h
  exact power_call n hn w
theorem bit0_at (k : Nat) (hk : len k ≤ 1000) (b : Bool) (A : Option Addr) (n c : Nat) (w : World) (h : IsI w (.agg #[.bool b, .slice A n c]) (k : Int)) : Calls Tryz.prog 22 #[.slice A n c, .int .i64 0] w fun e w' => e = .returned (.int .i64 ((k % 2 : Nat) : Int)) ∧ Below w.heap.size w w' := by
  obtain ⟨A', c', e, hC, hc⟩ := h.read
  simp only [Value.agg.injEq, Array.mk.injEq, List.cons.injEq, Value.slice.injEq] at e
  obtain ⟨_, ⟨rfl, rfl, rfl⟩, _⟩ := e
  have e2 : (ri (k : Int)).2 = I.bytes k := by unfold ri; simp
  rw [e2] at hC hc ⊢
  have := spec_bit.calls A c (I.bytes k) 0 _ w hC hc (bit_is k 0 (by unfold cap; omega) (by omega))
  exact (by simpa using this : Calls _ _ _ w fun e w' => e = .returned (.int .i64 ((k : Int) % 2)) ∧ Drawn0 w w').mono fun e w' h => ⟨by rw [h.1]; simp, h.2.below⟩
/-- What stands behind the rounding. -/
def At9 (w : World) (sg : Bool) (sv : Value) (bk : Nat) (zk : Int) (wx : World) : Prop :=
  Below w.heap.size w wx ∧ wx.heap[w.heap.size]? = some (.cells #[.bool sg, sv] 24 (0, 0)) ∧ Vr wx bk zk
theorem at9 {w wq wx : World} {sg : Bool} {sv : Value} {bk : Nat} {zk zn : Int} {b : Bool} {A : Option Addr} {n c : Nat} (B : Below w.heap.size w wq) (B2 : Below wq.heap.size wq wx) (g : wq.heap[w.heap.size]? = some (.cells #[.bool sg, sv] 24 (0, 0))) (nx : w.heap.size ≠ bk) (s3 : w.heap.size ≤ bk) (hk : Vr wx bk zk) (hv : IsI wx (.agg #[.bool b, .slice A n c]) zn) : At9 w sg sv bk zn ((wx.setCell ⟨bk, 0, none⟩ (.bool b)).setCell ⟨bk, 1, none⟩ (.slice A n c)) := by
  refine ⟨((bt B B2 (Nat.le_refl _)).setCell (p := ⟨bk, 0, none⟩) s3 _).setCell (p := ⟨bk, 1, none⟩) s3 _, ?_, hk.put hv⟩
  rw [two_off nx.symm, two_off nx.symm]
  exact (B2.block _ (Array.getElem?_eq_some_iff.1 g).1).trans g
/-- The kept digits and their power. -/
def kq (n : Nat) : Nat × Nat := if 53 < bl (k1 n) then (k1 n / 2, bl n - 53 + 1) else (k1 n, bl n - 53)
theorem kq_bounds (n : Nat) : bl (kq n).1 ≤ 53 ∧ (kq n).2 ≤ bl n - 53 + 1 := by
  rcases Nat.lt_or_ge 53 (bl n) with h | h
  · have e : kq n = kp n := by rw [kp_is h]; rfl
    rw [e]
    have f := kp_full (n := n) (by have := bl_big h; omega)
    rw [bl_full f]
    refine ⟨by omega, ?_⟩
    have := bl_big h
    unfold kp
    simp only
    split <;> (simp only; omega)
  · obtain ⟨h1, h2⟩ := k1_small h
    unfold kq
    rw [if_neg (by omega)]
    exact ⟨h2, by omega⟩
theorem kq_inf {n : Nat} (hi : 1024 < bl (kq n).1 + (kq n).2) : nb false n = 9218868437227405312 := by
  have kb := kq_bounds n
  rcases Nat.lt_or_ge 53 (bl n) with h | h
  · have e : kq n = kp n := by rw [kp_is h]; rfl
    rw [e] at hi
    have f := kp_full (n := n) (by have := bl_big h; omega)
    rw [bl_full f] at hi
    have h9 : ¬ (kp n).2 ≤ 971 := by omega
    rw [nb_kp false (by have := bl_big h; omega)]
    simp [h9]
  · obtain ⟨h1, h2⟩ := k1_small h
    unfold kq at hi
    rw [if_neg (by omega)] at hi
    simp only at hi
    omega
theorem kq_fin {n : Nat} (hi : ¬ 1024 < bl (kq n).1 + (kq n).2) : ((kq n).2 = 0 ∧ nb false n = nb false (kq n).1) ∨ (0 < (kq n).2 ∧ Full (kq n).1 ∧ (kq n).2 ≤ 971 ∧ nb false n = fb (kq n).1 (kq n).2) := by
  rcases Nat.lt_or_ge 53 (bl n) with h | h
  · have e : kq n = kp n := by rw [kp_is h]; rfl
    rw [e] at hi ⊢
    have f := kp_full (n := n) (by have := bl_big h; omega)
    rw [bl_full f] at hi
    have hp : 0 < (kp n).2 := by
      rw [kp_is h]
      split <;> (simp only; omega)
    refine .inr ⟨hp, f, by omega, ?_⟩
    have h9 : (kp n).2 ≤ 971 := by omega
    rw [nb_kp false (by have := bl_big h; omega)]
    simp [h9]
  · obtain ⟨h1, h2⟩ := k1_small h
    have e : kq n = (n, 0) := by unfold kq; rw [if_neg (by omega), h1, show bl n - 53 = 0 by omega]
    rw [e]
    exact .inl ⟨rfl, rfl⟩
theorem run_bits (b : Nat) (w : World) : (callFunc 14 #[.float .f64 b]).run Tryz.prog w = .ok (.value (.int .u64 b)) w := by
  rw [run_callFunc_extern (e := Extern.MathFloatBits.float64bits) Tryz.func14 (by kernel_rfl) (by kernel_rfl) (by kernel_rfl) (by kernel_rfl)]
  rfl
theorem run_frombits (n : Int) (w : World) : (callFunc 13 #[.int .u64 n]).run Tryz.prog w = .ok (.value (.float .f64 n.toNat)) w := by
  rw [run_callFunc_extern (e := Extern.MathFloatBits.float64frombits) Tryz.func13 (by kernel_rfl) (by kernel_rfl) (by kernel_rfl) (by kernel_rfl)]
  rfl
set_option maxRecDepth 100000 in
theorem inf_call (sg : Bool) (w : World) : Calls Tryz.prog 25 #[.bool sg] w fun e w' => e = .returned (.float .f64 ((if sg then 9223372036854775808 else 0) + 9218868437227405312)) ∧ w = w' := by
  have h' := run_frombits
  cases sg
  all_goals
    go_enter Tryz.func25, Tryz.ntmps25
    go_wp2
    go_ret
    exact ⟨rfl, rfl⟩
theorem nb_sign (s : Bool) (n : Nat) : nb s n = (if s then 9223372036854775808 else 0) + nb false n := by
  unfold nb Ieee.Format.nearest
  by_cases h : n = 0
  · rw [if_pos h, if_pos h, word_of, word_of]; simp
  · rw [if_neg h, if_neg h]
    simp only [word_of]
    simp [Ieee.Toward.cut]
theorem nb_lt (n : Nat) : nb false n < 9223372036854775808 := by
  unfold nb Ieee.Format.nearest
  split
  · rw [word_of]; simp
  · simp only [word_of]
    rw [infRung]
    simp
    omega
theorem neg_is (b : Nat) (h : b < 9223372036854775808) : Op.negFloat .f64 b = 9223372036854775808 + b := by
  show b ^^^ 2 ^ 63 = 2 ^ 63 + b
  apply Nat.eq_of_testBit_eq
  intro i
  rw [Nat.testBit_xor, Nat.testBit_two_pow]
  rcases Nat.lt_trichotomy i 63 with hi | hi | hi
  · rw [Nat.testBit_two_pow_add_gt hi, decide_eq_false (by omega)]; simp
  · subst hi
    rw [Nat.testBit_two_pow_add_eq]; simp
  · have e : (2 : Nat) ^ 63 + b < 2 ^ i := Nat.lt_of_lt_of_le (by omega : 2 ^ 63 + b < 2 ^ 64) (Nat.pow_le_pow_right (by omega) (by omega))
    have e2 : b < 2 ^ i := by omega
    rw [Nat.testBit_lt_two_pow e, Nat.testBit_lt_two_pow e2, decide_eq_false (by omega)]; rfl
/-- What stands ahead of the last test. -/
def At13 (w : World) (sg : Bool) (sv : Value) (bk n : Nat) (s4 : Value) (wx : World) : Prop :=
  s4 = .int .i64 ((kq n).2 : Nat) ∧ At9 w sg sv bk ((kq n).1 : Nat) wx
theorem at13 {w wx : World} {sg : Bool} {sv s4 : Value} {bk n a b : Nat} {zk : Int} (hk : kq n = (a, b)) (h : At9 w sg sv bk zk wx) (hb : s4 = .int .i64 (b : Nat)) (ha : zk = (a : Nat) := by rfl) : At13 w sg sv bk n s4 wx := by
  unfold At13
  rw [hk]
  subst ha
  exact ⟨hb, h⟩
/-- What stands behind the line of left. -/
def At5 (w : World) (sg : Bool) (sv : Value) (bm bk : Nat) (zm zk zl : Int) (s7 : Value) (wx : World) : Prop :=
  ∃ h5, s7 = .pointer (some ⟨h5, 0, none⟩) ∧ Below w.heap.size w wx ∧ wx.heap[w.heap.size]? = some (.cells #[.bool sg, sv] 24 (0, 0)) ∧ Vr wx bm zm ∧ Vr wx bk zk ∧ Vr wx h5 zl
theorem at5 {w w4 wx : World} {sg : Bool} {sv : Value} {bm bk h5 : Nat} {zm zk zl : Int} (B4 : Below w.heap.size w w4) (hb : Below w4.heap.size w4 wx) (g : w4.heap[w.heap.size]? = some (.cells #[.bool sg, sv] 24 (0, 0))) (hm : Vr w4 bm zm) (hk : Vr w4 bk zk) (hl : Vr wx h5 zl) : At5 w sg sv bm bk zm zk zl (.pointer (some ⟨h5, 0, none⟩)) wx :=
  ⟨h5, rfl, bt B4 hb (Nat.le_refl _), (hb.block _ (Array.getElem?_eq_some_iff.1 g).1).trans g, hm.keep hb, hk.keep hb, hl⟩
set_option maxHeartbeats 2000000 in
set_option maxRecDepth 100000 in
theorem nearest_walk (z : Int) (hl : len z.natAbs ≤ 300) (v : Value) (w : World) (h : IsI w v z) :
    Calls Tryz.prog 6 #[v] w fun e w' => e = .returned (.float .f64 (nb (decide (z < 0)) z.natAbs)) ∧ Below w.heap.size w w' := by
  have h0 := h
  obtain ⟨A, c, rfl, hC, hc⟩ := h.read
  have e1 : (ri z).2 = I.bytes z.natAbs := rfl
  have e2 : (ri z).1 = decide (z < 0) := rfl
  have e3 : (ri z).2.length = len z.natAbs := rfl
  rw [e3] at h0 ⊢
  rw [e2] at h0 ⊢
  rw [e1] at hC hc
  have hlz : len z.natAbs ≤ 1000 := by omega
  have hbl : bl z.natAbs ≤ 8 * len z.natAbs := by
    unfold bl
    split
    · omega
    · rename_i h0
      have a := lt_len z.natAbs
      rw [show (256 : Nat) ^ len z.natAbs = 2 ^ (8 * len z.natAbs) by rw [Nat.pow_mul]] at a
      have := (Nat.log2_lt h0).2 a
      omega
  have hw : wrap64 ((bl z.natAbs : Int) - 53) = (bl z.natAbs : Int) - 53 := by unfold wrap64; omega
  have hPb : bl z.natAbs - 53 ≤ 2400 := by omega
  have hm : (if (bl z.natAbs : Int) - 53 < 0 then (0 : Int) else (bl z.natAbs : Int) - 53) = ((bl z.natAbs - 53 : Nat) : Int) := by split <;> omega
  have LZ := Lib.hid hlz
  generalize hs : decide (z < 0) = sg at *
  generalize hn : z.natAbs = n at *
  generalize hL : len n = L at *
  generalize hP : bl n - 53 = P at *
  generalize hB : bl n = B at *
  obtain ⟨R, hR⟩ : ∃ R, nb sg n = R := ⟨_, rfl⟩
  rw [hR]
  have HR := Lib.hid hR
  clear hR
  go_enter Tryz.func6, Tryz.ntmps6
  go_wp2_with fail
  have LC := lengthz_call z (by rw [hn, hL]; omega) (.agg #[.bool sg, .slice A L c]) _ (h0.below ((Below.refl _ w).alloc (Nat.le_refl _) (.cells #[.bool sg, .slice A L c] 24)))
  rw [hn, hB] at LC
  refine LC.mono ?_; rintro _ w1 ⟨rfl, b1⟩
  have g1 := (b1.block w.heap.size (by simp)).trans (heap_alloc_new w (.cells #[.bool sg, .slice A L c] 24))
  have r1 : w1.cell? ⟨w.heap.size, 1, none⟩ = some (.slice A L c) := by rw [Lib.cell_of_heap g1]; rfl
  have B1 : Below w.heap.size w w1 := bt ((Below.refl _ w).alloc (Nat.le_refl _) _) b1 (Nat.le_refl _)
  go_wp2_with fail
  have I1 : IsI w1 (.agg #[.bool sg, .slice A L c]) z := h0.below B1
  have hC1 : Kd.C (Kd.int .u8) w1 A (I.bytes n).length (I.bytes n) := by
    obtain ⟨A', c', e, hC', _⟩ := I1.read
    simp only [Value.agg.injEq, Array.mk.injEq, List.cons.injEq, Value.slice.injEq] at e
    obtain ⟨_, ⟨rfl, _, _⟩, _⟩ := e
    have e2 : (ri z).2 = I.bytes n := by rw [← hn]; rfl
    rw [e2] at hC'
    exact hC'
  have OC := ofz_call false n (by rw [hL]; omega) A c w1 hC1 hc
  rw [show (I.bytes n).length = L from hL, if_neg (by decide)] at OC
  refine OC.mono ?_; rintro _ w2 ⟨v2, rfl, i2, b2⟩
  obtain ⟨t2, A2, n2, k2, rfl⟩ := i2.form
  go_wp2_with fail
  have ln : len n ≤ 1000 := by rw [hL]; omega
  have RC := rsh_call n P ln (by omega) (.agg #[.bool t2, .slice A2 n2 k2]) _ (i2.below ((Below.refl _ w2).alloc (Nat.le_refl _) (.cells #[.bool t2, .slice A2 n2 k2] 24)))
  refine RC.mono ?_; rintro _ w3 ⟨v3, rfl, i3, b3⟩
  obtain ⟨t3, A3, n3, k3, rfl⟩ := i3.form
  go_wp2_with fail
  have B2 : Below w.heap.size w w2 := bt B1 b2 (Nat.le_refl _)
  have hs2 : w.heap.size < w2.heap.size := Nat.lt_of_lt_of_le (by have := b1.size; simp at this; omega) b2.size
  have V2 : Vr (w2.alloc (.cells #[.bool t2, .slice A2 n2 k2] 24)) w2.heap.size n := Vr.new i2 ((Below.refl _ w2).alloc (Nat.le_refl _) _) (heap_alloc_new w2 _)
  have V3 : Vr w3 w2.heap.size n := V2.keep b3
  have hs3 : w2.heap.size < w3.heap.size := V3.lt
  have A3' : Below w3.heap.size w3 (w3.alloc (.cells #[.bool t3, .slice A3 n3 k3] 24)) := (Below.refl _ w3).alloc (Nat.le_refl _) _
  have V4 := V3.keep A3'
  have K4 : Vr (w3.alloc (.cells #[.bool t3, .slice A3 n3 k3] 24)) w3.heap.size ((n / 2 ^ P : Nat) : Int) := Vr.new i3 A3' (heap_alloc_new w3 _)
  have B4 : Below w.heap.size w (w3.alloc (.cells #[.bool t3, .slice A3 n3 k3] 24)) := bt (bt (B2.alloc B2.size _) b3 (Nat.le_refl _)) A3' (Nat.le_refl _)
  have g4 : (w3.alloc (.cells #[.bool t3, .slice A3 n3 k3] 24)).heap[w.heap.size]? = some (.cells #[.bool sg, .slice A L c] 24 (0, 0)) :=
    (A3'.block _ (by omega)).trans ((b3.block _ (by simp; omega)).trans ((Below.heap_alloc w2 _ _ hs2).trans ((b2.block _ (Array.getElem?_eq_some_iff.1 g1).1).trans g1)))
  clear RC OC LC
  generalize w3.alloc (.cells #[.bool t3, .slice A3 n3 k3] 24) = w4 at *
  have ne : w2.heap.size ≠ w3.heap.size := by omega
  have s2 : w.heap.size ≤ w2.heap.size := by omega
  have s3 : w.heap.size ≤ w3.heap.size := by omega
  have nx2 : w.heap.size ≠ w2.heap.size := by omega
  have nx3 : w.heap.size ≠ w3.heap.size := by omega
  clear V2 V3 A3' b3 b2 b1 B1 B2 I1 hC1 r1 g1 i2 i3 hs2 hs3
  generalize w2.heap.size = bm at *
  generalize w3.heap.size = bk at *
  clear w1 w2 w3
  obtain ⟨t2', A2', n2', k2', i2, m0, m1, _, _⟩ := V4.cells
  obtain ⟨t3', A3', n3', k3', i3, q0, q1, _, _⟩ := K4.cells
  have l2 := V4.lt
  have l3 := K4.lt
  have lk : len (n / 2 ^ P) ≤ 1000 := Nat.le_trans (len_mono (Nat.div_le_self _ _)) ln
  have lsub : len ((n / 2 ^ P) * 2 ^ P) ≤ 1000 := Nat.le_trans (len_mono (Nat.div_mul_le_self _ _)) ln
  have lz7 : len ((n : Int) - ((n / 2 ^ P * 2 ^ P : Nat) : Int)).natAbs ≤ 1000 := by
    have hq : n / 2 ^ P * 2 ^ P ≤ n := Nat.div_mul_le_self _ _
    generalize n / 2 ^ P * 2 ^ P = q at *
    rw [show ((n : Int) - (q : Int)).natAbs = n - q by omega]
    exact Nat.le_trans (len_mono (Nat.sub_le _ _)) ln
  have lz8 : len (((2 ^ (P - 1) : Nat) : Int)).natAbs ≤ 1000 := by
    rw [Int.natAbs_natCast]
    have := len_pow2 (P - 1)
    exact Nat.le_trans this (by omega)
  go_cut [7] (At5 w sg (.slice A L c) bm bk n ((n / 2 ^ P : Nat) : Int) ((n : Int) - ((n / 2 ^ P * 2 ^ P : Nat) : Int)))
  case first =>
    have mk : ∀ w', Below w4.heap.size w4 w' → (Below w4.heap.size w4 w' ∧ w'.cell? ⟨bm, 0, none⟩ = some (.bool t2') ∧ w'.cell? ⟨bm, 1, none⟩ = some (.slice A2' n2' k2') ∧ w'.cell? ⟨bk, 0, none⟩ = some (.bool t3') ∧ w'.cell? ⟨bk, 1, none⟩ = some (.slice A3' n3' k3')) := by
      intro w' hb
      exact ⟨hb, (hb.cell (p := ⟨bm, 0, none⟩) l2).trans m0, (hb.cell (p := ⟨bm, 1, none⟩) l2).trans m1, (hb.cell (p := ⟨bk, 0, none⟩) l3).trans q0, (hb.cell (p := ⟨bk, 1, none⟩) l3).trans q1⟩
    go_region_held3 (fun w' => Below w4.heap.size w4 w' ∧ w'.cell? ⟨bm, 0, none⟩ = some (.bool t2') ∧ w'.cell? ⟨bm, 1, none⟩ = some (.slice A2' n2' k2') ∧ w'.cell? ⟨bk, 0, none⟩ = some (.bool t3') ∧ w'.cell? ⟨bk, 1, none⟩ = some (.slice A3' n3' k3'))
      (first | exact mk _ (Below.refl _ _).drew | exact mk _ B5 | exact mk _ B6 | exact mk _ ((Below.refl _ _).drew.alloc (Nat.le_refl _) _) | exact mk _ (B5.alloc B5.size _) | exact mk _ (B6.alloc B6.size _) | exact mk _ ((B6.setCell (by first | exact Nat.le_refl _ | exact B5.size) _).setCell (by first | exact Nat.le_refl _ | exact B5.size) _))
      (first | (go_at_call 19; refine (lsh_call (n / 2 ^ P) P lk (by omega) _ _ (i3.below (‹Below w4.heap.size w4 _ ∧ _›).1)).mono ?_; rintro _ w5 ⟨v5, rfl, i5, b5⟩; obtain ⟨t5, A5, n5, k5, rfl⟩ := i5.form; have B5 : Below w4.heap.size w4 w5 := bt (‹Below w4.heap.size w4 _ ∧ _›).1 b5 (Nat.le_refl _); try (have f5 := (b5.block w4.heap.size (by simp)).trans (heap_alloc_new w4 _))) | (go_at_call 18; refine (sub_call n ((n / 2 ^ P * 2 ^ P : Nat) : Int) ln lsub _ _ _ (i2.below (‹Below w4.heap.size w4 _ ∧ _›).1) (by first | exact i5 | exact i5.below ((Below.refl _ _).alloc (Nat.le_refl _) _))).mono ?_; rintro _ w6 ⟨v6, rfl, i6, b6⟩; obtain ⟨t6, A6, n6, k6, rfl⟩ := i6.form; have B6 : Below w4.heap.size w4 w6 := bt (‹Below w4.heap.size w4 _ ∧ _›).1 b6 (Nat.le_refl _); first | (have f6 := (b6.block w5.heap.size (by simp)).trans (heap_alloc_new w5 _); have c60 := (Lib.cell_of_heap f6 0).trans (rfl : _ = some _); have c61 := (Lib.cell_of_heap f6 1).trans (rfl : _ = some _); have z60 := Lib.frozen_of_heap f6 0; have z61 := Lib.frozen_of_heap f6 1) | (have f6 := (b6.block w4.heap.size (Array.getElem?_eq_some_iff.1 f5).1).trans f5; have c60 := (Lib.cell_of_heap f6 0).trans (rfl : _ = some _); have c61 := (Lib.cell_of_heap f6 1).trans (rfl : _ = some _); have z60 := Lib.frozen_of_heap f6 0; have z61 := Lib.frozen_of_heap f6 1) | skip))
    all_goals (go_wp2_with fail; go_meet)
    all_goals (case rel => first | exact at5 B4 (B6.alloc B6.size _) g4 V4 K4 (Vr.new i6 ((Below.refl _ _).alloc (Nat.le_refl _) _) (heap_alloc_new _ _)) | exact at5 B4 ((B6.setCell (by first | exact Nat.le_refl _ | exact B5.size) _).setCell (by first | exact Nat.le_refl _ | exact B5.size) _) g4 V4 K4 (vr_put f6 i6))
  case rest =>
    obtain ⟨h5, rfl, B5, g5, V5, K5, L5⟩ := hcut
    clear B4 g4 V4 K4 i2 m0 m1 i3 q0 q1 l2 l3
    go_upto_if 27 with (fail)
    go_cut [8] (fun s8 wx => At9 w sg (.slice A L c) bk (k1 n : Nat) wx)
    case first =>
      by_cases hP0 : P = 0
      · obtain rfl := hP0
        have hz : bl n ≤ 53 := by rw [hB]; omega
        have e := Lib.hid (k1_small hz).1
        go_wp2_with fail
        go_meet
        case rel => exact ⟨B5, g5, by rw [e.out]; simpa using K5⟩
      · have hP1 : (0 : Int) < P := by omega
        have hP2 : IntKind.i64.wrap ((P : Int) - 1) = (P : Int) - 1 := IntWalk.i64_in _ (by omega)
        obtain ⟨t7, A7, n7, k7, i7, c70, c71, _, _⟩ := L5.cells
        have l7 := L5.lt
        obtain ⟨cv, hcv, hcc⟩ : ∃ cv, cmpZ ((n : Int) - ((n / 2 ^ P * 2 ^ P : Nat) : Int)) ((2 ^ (P - 1) : Nat) : Int) = cv ∧ (cv = 1 ∧ 2 ^ (P - 1) < n % 2 ^ P ∨ cv = 0 ∧ n % 2 ^ P = 2 ^ (P - 1) ∨ cv = -1 ∧ n % 2 ^ P < 2 ^ (P - 1)) := by
          have hd : ((n : Int) - ((n / 2 ^ P * 2 ^ P : Nat) : Int)) = ((n % 2 ^ P : Nat) : Int) := by
            have := Nat.div_add_mod n (2 ^ P)
            rw [Nat.mul_comm] at this
            omega
          rw [hd]
          unfold cmpZ
          generalize n % 2 ^ P = r
          generalize 2 ^ (P - 1) = q
          rcases Nat.lt_trichotomy r q with h | h | h
          · exact ⟨-1, by rw [if_pos (by omega)], .inr (.inr ⟨rfl, h⟩)⟩
          · exact ⟨0, by rw [if_neg (by omega), if_pos (by omega)], .inr (.inl ⟨rfl, h⟩)⟩
          · exact ⟨1, by rw [if_neg (by omega), if_neg (by omega)], .inl ⟨rfl, h⟩⟩
        have CC : ∀ (va vb : Value) (wq : World), IsI wq va ((n : Int) - ((n / 2 ^ P * 2 ^ P : Nat) : Int)) → IsI wq vb ((2 ^ (P - 1) : Nat) : Int) → Calls Tryz.prog 20 #[va, vb] wq fun e w' => e = .returned (.int .i64 cv) ∧ Below wq.heap.size wq w' := by
          intro va vb wq ha hb
          have := cmp_call _ _ lz7 lz8 va vb wq ha hb
          rw [hcv] at this
          exact this
        have hcc := Lib.hid hcc
        clear hcv
        go_wp2_with fail
        have mk : ∀ w', Below wc.heap.size wc w' → (Below wc.heap.size wc w' ∧ w'.cell? ⟨h5, 0, none⟩ = some (.bool t7) ∧ w'.cell? ⟨h5, 1, none⟩ = some (.slice A7 n7 k7)) := by
          intro w' hb
          exact ⟨hb, (hb.cell (p := ⟨h5, 0, none⟩) l7).trans c70, (hb.cell (p := ⟨h5, 1, none⟩) l7).trans c71⟩
        go_region_held3 (fun w' => Below wc.heap.size wc w' ∧ w'.cell? ⟨h5, 0, none⟩ = some (.bool t7) ∧ w'.cell? ⟨h5, 1, none⟩ = some (.slice A7 n7 k7))
          (first | exact mk _ (Below.refl _ _).drew | exact mk _ B8 | exact mk _ B9)
          (first | (go_at_call 21; refine (power_at _ (P - 1) (by omega) (by omega) _).mono ?_; rintro _ w8 ⟨v8, rfl, i8, b8⟩; obtain ⟨t8, A8, n8, k8, rfl⟩ := i8.form; have B8 : Below wc.heap.size wc w8 := bt (‹Below wc.heap.size wc _ ∧ _›).1 b8 (Nat.le_refl _)) | (go_at_call 20; refine (CC _ _ _ (i7.below (‹Below wc.heap.size wc _ ∧ _›).1) i8).mono ?_; rintro _ w9 ⟨rfl, b9⟩; have B9 : Below wc.heap.size wc w9 := bt (‹Below wc.heap.size wc _ ∧ _›).1 b9 (Nat.le_refl _)))
        have g9 := (B9.block _ (Array.getElem?_eq_some_iff.1 g5).1).trans g5
        have K9 := K5.keep B9
        have BB := bt B5 B9 (Nat.le_refl _)
        clear B8 mk i7 c70 c71 i8
        clear b8 b9 B9
        obtain ⟨tk, Ak, nk, ck, ik, ck0, ck1, fk0, fk1⟩ := K9.cells
        have lk9 := K9.lt
        have hup := k1_up (n := n) (by rw [hB]; omega)
        rw [hB, hP] at hup
        rcases hcc.out with ⟨rfl, hr⟩ | ⟨rfl, hr⟩ | ⟨rfl, hr⟩
        · rw [if_pos (.inl hr)] at hup
          have HU := Lib.hid hup
          clear hup hr
          go_wp2_with fail
          have ia := ik
          have ca0 := ck0
          have ca1 := ck1
          have fa0 := fk0
          have fa1 := fk1
          have la := (K9).lt
          have G9 := g9
          have la1 : len (1 : Int).natAbs ≤ 1000 := by decide +kernel
          have la2 : len ((n / 2 ^ P : Nat) : Int).natAbs ≤ 1000 := by rw [Int.natAbs_natCast]; exact lk
          go_region_with (first | (go_at_call 24; refine (small_call 1 (by omega) (by omega) _).mono ?_; rintro _ w11 ⟨v11, rfl, i11, b11⟩; obtain ⟨t11, A11, n11, k11, rfl⟩ := i11.form; have B11 : Below w9.heap.size w9 w11 := bt (Below.refl _ _).drew b11 (Nat.le_refl _); have d0 := (b11.cell (p := ⟨bk, 0, none⟩) la).trans ca0; have d1 := (b11.cell (p := ⟨bk, 1, none⟩) la).trans ca1) | (go_at_call 23; refine (add_call _ 1 la2 la1 _ _ _ (ia.below B11) i11).mono ?_; rintro _ w12 ⟨v12, rfl, i12, b12⟩; obtain ⟨t12, A12, n12, k12, rfl⟩ := i12.form; have B12 := bt B11 b12 (Nat.le_refl _); have e0 := (B12.cell (p := ⟨bk, 0, none⟩) la).trans ca0; have e1 := (B12.cell (p := ⟨bk, 1, none⟩) la).trans ca1; have z0 := (B12.frozen (p := ⟨bk, 0, none⟩) la).trans fa0; have z1 := (B12.frozen (p := ⟨bk, 1, none⟩) la).trans fa1))
          all_goals (go_wp2_with fail; go_meet)
          all_goals (case rel => exact at9 (BB) B12 G9 nx3 (by omega) ((K9).keep B12) (by rw [HU.out]; simpa using i12))
        · rcases Nat.mod_two_eq_zero_or_one (n / 2 ^ P) with he | he
          · rw [if_neg (by omega)] at hup
            have HU := Lib.hid hup
            clear hup hr
            have BC := bit0_at (n / 2 ^ P) lk tk Ak nk ck
            rw [he] at BC
            clear he
            go_wp2_with (go_at_call 22; refine (BC _ ik).mono ?_; rintro _ w10 ⟨rfl, b10⟩)
            go_meet
            case rel => exact ⟨bt BB b10 (Nat.le_refl _), (b10.block _ (Array.getElem?_eq_some_iff.1 g9).1).trans g9, by rw [HU.out]; simpa using K9.keep b10⟩
          · rw [if_pos (.inr ⟨hr, he⟩)] at hup
            have HU := Lib.hid hup
            clear hup hr
            have BC := bit0_at (n / 2 ^ P) lk tk Ak nk ck
            rw [he] at BC
            clear he
            go_wp2_with (go_at_call 22; refine (BC _ ik).mono ?_; rintro _ w10 ⟨rfl, b10⟩)
            obtain ⟨ta, Aa, na, ca, ia, ca0, ca1, fa0, fa1⟩ := (K9.keep b10).cells
            have la := (K9.keep b10).lt
            have G9 := (b10.block _ (Array.getElem?_eq_some_iff.1 g9).1).trans g9
            have la1 : len (1 : Int).natAbs ≤ 1000 := by decide +kernel
            have la2 : len ((n / 2 ^ P : Nat) : Int).natAbs ≤ 1000 := by rw [Int.natAbs_natCast]; exact lk
            go_region_with (first | (go_at_call 24; refine (small_call 1 (by omega) (by omega) _).mono ?_; rintro _ w11 ⟨v11, rfl, i11, b11⟩; obtain ⟨t11, A11, n11, k11, rfl⟩ := i11.form; have B11 : Below w10.heap.size w10 w11 := bt (Below.refl _ _).drew b11 (Nat.le_refl _); have d0 := (b11.cell (p := ⟨bk, 0, none⟩) la).trans ca0; have d1 := (b11.cell (p := ⟨bk, 1, none⟩) la).trans ca1) | (go_at_call 23; refine (add_call _ 1 la2 la1 _ _ _ (ia.below B11) i11).mono ?_; rintro _ w12 ⟨v12, rfl, i12, b12⟩; obtain ⟨t12, A12, n12, k12, rfl⟩ := i12.form; have B12 := bt B11 b12 (Nat.le_refl _); have e0 := (B12.cell (p := ⟨bk, 0, none⟩) la).trans ca0; have e1 := (B12.cell (p := ⟨bk, 1, none⟩) la).trans ca1; have z0 := (B12.frozen (p := ⟨bk, 0, none⟩) la).trans fa0; have z1 := (B12.frozen (p := ⟨bk, 1, none⟩) la).trans fa1))
            all_goals (go_wp2_with fail; go_meet)
            all_goals (case rel => exact at9 (bt BB b10 (Nat.le_refl _)) B12 G9 nx3 (by omega) ((K9.keep b10).keep B12) (by rw [HU.out]; simpa using i12))
        · rw [if_neg (by omega)] at hup
          have HU := Lib.hid hup
          clear hup hr
          go_wp2_with fail
          go_meet
          case rel => exact ⟨BB, g9, by rw [HU.out]; simpa using K9⟩
    case rest =>
      obtain ⟨B9, g9, K9⟩ := hcut
      clear V5 L5 B5 g5 K5 lz7 lz8 lsub
      obtain ⟨tk, Ak, nk, ck, ik, ck0, ck1, fk0, fk1⟩ := K9.cells
      have lk9 := K9.lt
      have lk1 : len (k1 n) ≤ 1000 := by
        rcases Nat.lt_or_ge 53 (bl n) with h | h
        · have := (k1_bounds h).2
          exact Nat.le_trans (len_mono this) (by decide +kernel)
        · rw [(k1_small h).1]; exact ln
      have hbk : bl (k1 n) ≤ 2400 := by
        rcases Nat.lt_or_ge 53 (bl n) with h | h
        · have := (k1_bounds h).2
          have h2 : bl (k1 n) ≤ 54 := by
            unfold bl
            split
            · omega
            · rename_i h0
              have := (Nat.log2_lt h0).2 (show k1 n < 2 ^ 54 by omega)
              omega
          omega
        · have := (k1_small h).2; omega
      go_upto_if 50 with (go_at_call 16; refine (length_call (k1 n) lk1 _ _ ik).mono ?_; rintro _ w10 ⟨rfl, b10⟩)
      have B10 := bt B9 b10 (Nat.le_refl _)
      have g10 := (b10.block _ (Array.getElem?_eq_some_iff.1 g9).1).trans g9
      have K10 := K9.keep b10
      go_cut [4] (At13 w sg (.slice A L c) bk n)
      case first =>
        by_cases h53 : 53 < bl (k1 n)
        · have h53' : (53 : Int) < bl (k1 n) := by omega
          obtain ⟨tk, Ak, nk, ck, ik, ck0, ck1, fk0, fk1⟩ := K10.cells
          have la := K10.lt
          have RC := rsh_call (k1 n) 1 lk1 (by omega)
          have H := Lib.hid h53
          clear h53
          go_wp2_with (go_at_call 17; refine (RC _ _ ik).mono ?_; rintro _ w11 ⟨v11, rfl, i11, b11⟩; obtain ⟨t11, A11, n11, k11, rfl⟩ := i11.form; have e0 := (b11.cell (p := ⟨bk, 0, none⟩) la).trans ck0; have e1 := (b11.cell (p := ⟨bk, 1, none⟩) la).trans ck1; have z0 := (b11.frozen (p := ⟨bk, 0, none⟩) la).trans fk0; have z1 := (b11.frozen (p := ⟨bk, 1, none⟩) la).trans fk1)
          go_meet
          case rel => exact at13 (by unfold kq; rw [if_pos H.out]) (at9 B10 b11 g10 nx3 s3 (K10.keep b11) i11) (by rw [hB, hP]; rfl)
        · have h53' : ¬ (53 : Int) < bl (k1 n) := by omega
          have H := Lib.hid h53
          clear h53
          go_wp2_with fail
          go_meet
          case rel => exact at13 (by unfold kq; rw [if_neg H.out]) ⟨B10, g10, K10⟩ (by rw [hB, hP])
      case rest =>
        obtain ⟨rfl, B13, g13, K13⟩ := hcut
        clear h h0 e2 hs
        have kb := kq_bounds n
        have hp2 : (kq n).2 ≤ 2401 := Nat.le_trans kb.2 (by omega)
        have lkq : len (kq n).1 ≤ 1000 := Nat.le_trans (len_mono (Nat.le_of_lt (bl_small kb.1))) (by decide +kernel)
        have kb1 := kb.1
        clear B9 g9 K9 lk9 ik ck0 ck1 fk0 fk1 lk1 hbk B10 g10 K10 b10
        obtain ⟨tk, Ak, nk, ck, ik, ck0, ck1, fk0, fk1⟩ := K13.cells
        have F1 := Lib.hid (@kq_inf n)
        have F2 := Lib.hid (@kq_fin n)
        generalize hk : (kq n).1 = k at *
        generalize hp : (kq n).2 = p at *
        have xl := (Array.getElem?_eq_some_iff.1 g13).1
        by_cases hi : 1024 < bl k + p
        · have hi' : (1024 : Int) < (bl k : Int) + p := by omega
          have F := F1.out hi
          clear F1 F2
          have HS := HR.out
          rw [nb_sign, F] at HS
          have HS := Lib.hid HS
          clear F HR
          cases sg
          all_goals
            go_wp2_with (first | (go_at_call 16; refine (length_call k lkq _ _ ik).mono ?_; rintro _ w14 ⟨rfl, b14⟩; have x0 := (Lib.cell_of_heap ((b14.block _ xl).trans g13) 0).trans (rfl : _ = some _)) | (go_at_call 25; refine (inf_call _ _).mono ?_; rintro _ w16 ⟨rfl, rfl⟩))
            go_ret
            exact ⟨by rw [← HS.out]; try rfl, bt B13 b14 (Nat.le_refl _)⟩
        · have hi' : ¬ (1024 : Int) < (bl k : Int) + p := by omega
          have F := F2.out hi
          clear F1 F2
          have FV : ∃ fv : Nat → Nat, fv 0 = floatOfInt FloatKind.f64 ((k : Int) % 18446744073709551616) ∧ (∀ j, j < p → FloatKind.f64.format.mul (fv j) 4611686018427387904 = some (fv (j + 1))) ∧ nb false n = fv p := by
            have hk53 := bl_small kb1
            have hf : floatOfInt FloatKind.f64 ((k : Int) % 18446744073709551616) = nb false k := by
              rw [Int.emod_eq_of_lt (by omega) (by omega)]
              show FloatKind.f64.format.nearest _ _ _ = _
              unfold nb
              rw [show decide ((k : Int) < 0) = false by rw [decide_eq_false_iff_not]; omega, Int.natAbs_natCast]
            rcases F with ⟨h0, h1⟩ | ⟨h0, h1, h2, h3⟩
            · exact ⟨fun _ => nb false k, hf.symm, fun j hj => by omega, by rw [h1]⟩
            · exact ⟨fun j => fb k j, by rw [hf]; exact (nb_full h1).symm, fun j hj => double_fb h1 (by omega), h3⟩
          obtain ⟨fv, h0, hd, hn1⟩ := FV
          have HS := HR.out
          rw [nb_sign, hn1] at HS
          have HL := Lib.hid (hn1 ▸ nb_lt n : fv p < 9223372036854775808)
          have HS := Lib.hid HS
          clear F hn1 HR
          go_wp2_with (first | (go_at_call 16; refine (length_call k lkq _ _ ik).mono ?_; rintro _ w14 ⟨rfl, b14⟩; have C14 := K13.keep b14; obtain ⟨tl, Al, nl, cl, il, cl0, cl1, fl0, fl1⟩ := C14.cells) | (go_at_call 26; refine (low_call k lkq _ _ il).mono ?_; rintro _ w15 ⟨rfl, b15⟩))
          have BW := bt (bt B13 b14 (Nat.le_refl _)) b15 (Nat.le_refl _)
          have x0 := (Lib.cell_of_heap ((b15.block _ (Nat.lt_of_lt_of_le xl b14.size)).trans ((b14.block _ xl).trans g13)) 0).trans (rfl : _ = some _)
          have HD := Lib.hid hd
          have H0 := Lib.hid h0
          clear h0 hd
          go_loop [4, 9] (fun s4 s9 => ∃ j : Nat, j ≤ p ∧ s4 = .int .i64 ((p - j : Nat) : Int) ∧ s9 = .float .f64 (fv j)) (fun s4 _ => (intOf s4).toNat)
          case atStart => exact ⟨0, Nat.zero_le _, rfl, by rw [H0.out]⟩
          case round =>
            obtain ⟨j, hj, rfl, rfl⟩ := hrel
            by_cases hjp : j < p
            · have hj1 : (0 : Int) < ((p - j : Nat) : Int) := by omega
              have hm := fun wz => run_float_arith (P := Tryz.prog) wz .mul 31 .f64 (fv j) 4611686018427387904 (fv (j + 1)) (HD.out j hjp)
              go_wp2_with fail
              go_round
              case rel => exact ⟨j + 1, by omega, by rw [show ((p - (j + 1) : Nat) : Int) = ((p - j : Nat) : Int) - 1 by omega], rfl⟩
              case measure => simp [intOf]; omega
            · obtain rfl : j = p := by omega
              cases sg
              · go_wp2_with fail
                go_ret
                exact ⟨by rw [← HS.out]; simp, BW⟩
              · have hg : ∀ wz, (Op.unary UnOp.neg (.float .f64 (fv j))).run Tryz.prog wz = .ok (.float .f64 (Op.negFloat .f64 (fv j))) wz := fun _ => rfl
                go_wp2_with fail
                go_ret
                exact ⟨by rw [← HS.out, neg_is _ HL.out]; rfl, BW⟩
end Go.Proofs.YtodipcgilgigbaaGreatDoor
