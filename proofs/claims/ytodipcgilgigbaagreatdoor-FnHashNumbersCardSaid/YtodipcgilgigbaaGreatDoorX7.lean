/- The greatest common divisor, where the lesser number has one word. -/
import Derived.Test.YtodipcgilgigbaaGreatDoorX6
set_option linter.unusedVariables false
namespace Go.Proofs.YtodipcgilgigbaaGreatDoor.V
open Go Go.RowKit Go.Proofs.YtodipcgilgigbaaGreatDoor.I
attribute [local go_sem ↓] Go.wp_at_zero Go.wp_at_succ
theorem ZAt.off {S : Nat → Prop} {w w' : World} {g o n : Nat} {neg : Bool} (h : ZAt w g o neg n) (ho : Off S w w') (hs : ¬ S g) (hv : ∀ k, S k → ¬ (∃ c xs, Row w k c xs)) : ZAt w' g o neg n := by
  obtain ⟨cs, T, v, hg, hT, h0, h1, hw⟩ := h
  refine ⟨cs, T, v, (ho.block g (Array.getElem?_eq_some_iff.1 hg).1 hs).trans hg, hT, h0, h1, hw.off ho ?_⟩
  intro g2 n2 c2 e hS
  rcases hw with ⟨rfl, _⟩ | ⟨g3, cap, rfl, hr⟩
  · cases e
  · simp only [Value.slice.injEq, Option.some.injEq, Addr.mk.injEq] at e
    obtain ⟨⟨rfl, _⟩, _⟩ := e
    exact hv _ hS ⟨_, _, hr⟩
theorem Fresh.noRow {w : World} {g : Nat} (h : Fresh w g) : ¬ ∃ c xs, Row w g c xs := by
  rintro ⟨c, xs, cs, hg, _⟩
  rw [h] at hg
  injection hg with e
  injection e with e1 e2
  exact tI e2
theorem IntAt.noRow {w : World} {g n : Nat} {b : Bool} {v : Value} (h : IntAt w g b v n) : ¬ ∃ c xs, Row w g c xs := by
  rintro ⟨c, xs, cs, hg, _⟩
  rw [h.1] at hg
  injection hg with e
  injection e with e1 e2
  exact tI e2
/-- One step of Euclid's, by new q and r. -/
def Euc (w : World) (gA gB gq gr n y : Nat) (e : Ending) (w' : World) : Prop := e = .returned (.tuple #[.pointer (some ⟨gB, 0, none⟩), .pointer (some ⟨gr, 0, none⟩), .pointer (some ⟨gA, 0, none⟩), .pointer none, .pointer none]) ∧ (∃ v, IntAt w' gr false v (n % y) ∧ From w.heap.size v) ∧ Off (fun k => k = gq ∨ k = gr) w w'
set_option maxRecDepth 100000 in
theorem euclid_call (gA gB gq gr n y : Nat) (hy : y ≠ 0) (hy1 : y < 18446744073709551616) (hl : wl n ≤ 900) (w : World) (hg : Fresh w gq) (hgr : Fresh w gr) (hx : ZAt w gA 0 false n) (hyy : ZAt w gB 0 false y) (h1 : gq ≠ gr) (h2 : gq ≠ gA) (h3 : gq ≠ gB) (h4 : gr ≠ gA) (h5 : gr ≠ gB) :
    Calls Tryz.prog 163 #[.pointer (some ⟨gA, 0, none⟩), .pointer (some ⟨gB, 0, none⟩), .pointer none, .pointer none, .pointer (some ⟨gq, 0, none⟩), .pointer (some ⟨gr, 0, none⟩), .bool false] w (Euc w gA gB gq gr n y) := by
  have QC := quoRem_call gq gr gA 0 gB 0 n y false false hy hy1 hl w hg hgr hx hyy h1 h2 h3 h4 h5
  have fin : ∀ w' , (∃ v r, IntAt w' gq (decide (n / y ≠ 0) && (false != false)) v (n / y) ∧ IntAt w' gr (decide (n % y ≠ 0) && false) r (n % y) ∧ From w.heap.size v ∧ From w.heap.size r) ∧ Off (fun k => k = gq ∨ k = gr) w w' → (∃ v, IntAt w' gr false v (n % y) ∧ From w.heap.size v) ∧ Off (fun k => k = gq ∨ k = gr) w w' := by
    rintro w' ⟨⟨v, r, i1, i2, f1, f2⟩, ho⟩
    rw [Bool.and_false] at i2
    exact ⟨⟨r, i2, f2⟩, ho⟩
  unfold QR at QC
  have FIN := Lib.hid fin
  clear fin hg hgr hx hyy h1 h2 h3 h4 h5 hy hy1 hl
  unfold Euc
  go_enter Tryz.func163, Tryz.ntmps163
  go_wp2_with (go_at_call 176; ((with_reducible refine QC.mono ?_); (rintro _ w1 ⟨rfl, hq, ho⟩; have F := Lib.hid (FIN.out w1 ⟨hq, ho⟩); clear hq ho)))
  exact bodyPost_ret (v := .tuple #[.pointer (some ⟨gB, 0, none⟩), .pointer (some ⟨gr, 0, none⟩), .pointer (some ⟨gA, 0, none⟩), .pointer none, .pointer none]) (by simp [results, Tryz.results163, go_sem]) rfl ⟨rfl, F.out⟩
/-- A number made since the world w0. -/
def ZN (w0 w : World) (g n : Nat) : Prop := (∃ v, IntAt w g false v n ∧ From w0.heap.size v) ∧ w0.heap.size ≤ g
theorem ZN.z {w0 w : World} {g n : Nat} (h : ZN w0 w g n) : ZAt w g 0 false n := by
  obtain ⟨⟨v, hv, _⟩, _⟩ := h
  exact hv.z
theorem ZN.keep {w0 w w' : World} {g n : Nat} (h : ZN w0 w g n) (hb : Below w.heap.size w w') : ZN w0 w' g n := by
  obtain ⟨⟨v, hv, hf⟩, hg⟩ := h
  exact ⟨⟨v, ⟨(hb.block g (Array.getElem?_eq_some_iff.1 hv.1).1).trans hv.1, hv.2.below hb⟩, hf⟩, hg⟩
theorem ZN.off {S : Nat → Prop} {w0 w w' : World} {g n : Nat} (h : ZN w0 w g n) (ho : Off S w w') (hs : ¬ S g) (hv : ∀ k, S k → ¬ (∃ c xs, Row w k c xs)) : ZN w0 w' g n := by
  obtain ⟨⟨v, hi, hf⟩, hg⟩ := h
  refine ⟨⟨v, ⟨(ho.block g (Array.getElem?_eq_some_iff.1 hi.1).1 hs).trans hi.1, hi.2.off ho ?_⟩, hf⟩, hg⟩
  intro g2 n2 c2 e hS
  rcases hi.2 with ⟨rfl, _⟩ | ⟨g3, cap, rfl, hr⟩
  · cases e
  · simp only [Value.slice.injEq, Option.some.injEq, Addr.mk.injEq] at e
    obtain ⟨⟨rfl, _⟩, _⟩ := e
    exact hv _ hS ⟨_, _, hr⟩
/-- A and B, and two new Ints, all made by the call. -/
structure Four (w0 : World) (gA gB gq gr n m : Nat) (w : World) : Prop where
  a : ZN w0 w gA n
  b : ZN w0 w gB m
  q : Fresh w gq
  r : Fresh w gr
  nq : w0.heap.size ≤ gq
  nr : w0.heap.size ≤ gr
  qr : gq ≠ gr
  qa : gq ≠ gA
  qb : gq ≠ gB
  ra : gr ≠ gA
  rb : gr ≠ gB
  ab : gA ≠ gB
  below : Below w0.heap.size w0 w
theorem Four.swap {w0 : World} {gA gB gq gr n m : Nat} {w : World} (h : Four w0 gA gB gq gr n m w) : Four w0 gB gA gq gr m n w := ⟨h.b, h.a, h.q, h.r, h.nq, h.nr, h.qr, h.qb, h.qa, h.rb, h.ra, h.ab.symm, h.below⟩
theorem Fresh.keep {w w' : World} {g : Nat} (h : Fresh w g) (hb : Below w.heap.size w w') : Fresh w' g := (hb.block g (Array.getElem?_eq_some_iff.1 h).1).trans h
theorem Four.keep {w0 : World} {gA gB gq gr n m : Nat} {w w' : World} (h : Four w0 gA gB gq gr n m w) (hb : Below w.heap.size w w') : Four w0 gA gB gq gr n m w' := ⟨h.a.keep hb, h.b.keep hb, h.q.keep hb, h.r.keep hb, h.nq, h.nr, h.qr, h.qa, h.qb, h.ra, h.rb, h.ab, bt h.below hb (Nat.le_refl _)⟩
/-- The greater one first. -/
def Sorted2 (w0 : World) (gq gr n m : Nat) (s11 s12 s13 s14 : Value) (w : World) : Prop := s13 = .pointer none ∧ s14 = .pointer none ∧ ∃ gA gB, s11 = .pointer (some ⟨gA, 0, none⟩) ∧ s12 = .pointer (some ⟨gB, 0, none⟩) ∧ Four w0 gA gB gq gr (max n m) (min n m) w
theorem sorted_yes {w0 : World} {gA gB gq gr n m : Nat} {w w' : World} (h : Four w0 gA gB gq gr n m w) (hb : Below w.heap.size w w') (hlt : n < m) : Sorted2 w0 gq gr n m (.pointer (some ⟨gB, 0, none⟩)) (.pointer (some ⟨gA, 0, none⟩)) (.pointer none) (.pointer none) w' := by
  refine ⟨rfl, rfl, gB, gA, rfl, rfl, ?_⟩
  rw [Nat.max_eq_right (by omega), Nat.min_eq_left (by omega)]
  exact (h.keep hb).swap
theorem sorted_no {w0 : World} {gA gB gq gr n m : Nat} {w w' : World} (h : Four w0 gA gB gq gr n m w) (hb : Below w.heap.size w w') (hlt : ¬ n < m) : Sorted2 w0 gq gr n m (.pointer (some ⟨gA, 0, none⟩)) (.pointer (some ⟨gB, 0, none⟩)) (.pointer none) (.pointer none) w' := by
  refine ⟨rfl, rfl, gA, gB, rfl, rfl, ?_⟩
  rw [Nat.max_eq_left (by omega), Nat.min_eq_right (by omega)]
  exact h.keep hb
theorem alloc_fresh (w : World) : Fresh (w.alloc (.cells #[.bool false, .slice none 0 0] 147)) w.heap.size := heap_alloc_new w _
theorem four_new {w w2 w4 : World} {n m : Nat} (b2 : Below w.heap.size w w2) (b4 : Below w2.heap.size w2 w4) (s2 : w.heap.size + 1 ≤ w2.heap.size) (s4 : w2.heap.size + 1 ≤ w4.heap.size) (zA : ZN w w2 w.heap.size n) (zB : ZN w w4 w2.heap.size m) :
    Four w w.heap.size w2.heap.size w4.heap.size (w4.heap.size + 1) n m ((w4.alloc (.cells #[.bool false, .slice none 0 0] 147)).alloc (.cells #[.bool false, .slice none 0 0] 147)) := by
  have B : Below w4.heap.size w4 ((w4.alloc (.cells #[.bool false, .slice none 0 0] 147)).alloc (.cells #[.bool false, .slice none 0 0] 147)) := ((Below.refl _ _).alloc (Nat.le_refl _) _).alloc (by simp) _
  have fq := alloc_fresh w4
  have fr := alloc_fresh (w4.alloc (.cells #[.bool false, .slice none 0 0] 147))
  refine ⟨(zA.keep b4).keep B, zB.keep B, ?_, by simpa using fr, by omega, by omega, by omega, by omega, by omega, by omega, by omega, by omega, bt (bt b2 b4 (by omega)) B (by omega)⟩
  exact (Below.heap_alloc _ _ _ (by simp)).trans fq
/-- Two numbers of one word at most, the first of them not 0, whose greatest common divisor is G. -/
def OneW (w0 : World) (G : Nat) (s11 s12 s13 s14 : Value) (w : World) : Prop := s13 = .pointer none ∧ s14 = .pointer none ∧ ∃ gA gB p q, s11 = .pointer (some ⟨gA, 0, none⟩) ∧ s12 = .pointer (some ⟨gB, 0, none⟩) ∧ ZN w0 w gA p ∧ ZN w0 w gB q ∧ gA ≠ gB ∧ p ≠ 0 ∧ p < 18446744073709551616 ∧ q < 18446744073709551616 ∧ Nat.gcd p q = G ∧ Below w0.heap.size w0 w
theorem onew_no {w0 w : World} {gA gB gq gr N M G : Nat} (h : Four w0 gA gB gq gr N M w) (hg : N ≠ 0 ∧ M ≠ 0 ∧ wl N ≤ 900 ∧ Nat.gcd N M = G ∧ M < 18446744073709551616 ∧ wl M = 1) (hN : N < 18446744073709551616) : OneW w0 G (.pointer (some ⟨gA, 0, none⟩)) (.pointer (some ⟨gB, 0, none⟩)) (.pointer none) (.pointer none) w :=
  ⟨rfl, rfl, gA, gB, N, M, rfl, rfl, h.a, h.b, h.ab, hg.1, hN, hg.2.2.2.2.1, hg.2.2.2.1, h.below⟩
theorem onew_yes {w0 w w' : World} {gA gB gq gr N M G : Nat} (h : Four w0 gA gB gq gr N M w) (hg : N ≠ 0 ∧ M ≠ 0 ∧ wl N ≤ 900 ∧ Nat.gcd N M = G ∧ M < 18446744073709551616 ∧ wl M = 1) (h6 : (∃ v, IntAt w' gr false v (N % M) ∧ From w.heap.size v) ∧ Off (fun k => k = gq ∨ k = gr) w w') : OneW w0 G (.pointer (some ⟨gB, 0, none⟩)) (.pointer (some ⟨gr, 0, none⟩)) (.pointer none) (.pointer none) w' := by
  obtain ⟨⟨v, hv, hf⟩, ho⟩ := h6
  have hm := Nat.mod_lt N (show M > 0 by omega)
  have hs := h.below.size
  refine ⟨rfl, rfl, gB, gr, M, N % M, rfl, rfl, h.b.off ho ?_ ?_, ⟨⟨v, hv, fun g n c e => Nat.le_trans hs (hf g n c e)⟩, h.nr⟩, h.rb.symm, hg.2.1, hg.2.2.2.2.1, by omega, ?_, ?_⟩
  · rintro (k | k)
    · exact h.qb k.symm
    · exact h.rb k.symm
  · rintro k (rfl | rfl)
    · exact h.q.noRow
    · exact h.r.noRow
  · rw [← hg.2.2.2.1, Nat.gcd_comm M, ← Nat.gcd_rec, Nat.gcd_comm]
  · exact h.below.trans (ho.below hs (fun k hk => hk.elim (fun e => e ▸ h.nq) (fun e => e ▸ h.nr)))
/-- The words of a number of one word. -/
theorem oneA {w0 w : World} {g p : Nat} (h : ZN w0 w g p) (h0 : p ≠ 0) (h1 : p < 18446744073709551616) : ∃ g5 c5, (Row w g5 c5 [(p : Int)] ∧ w0.heap.size ≤ g5 ∧ g5 ≠ g) ∧ (w.cell? ⟨g, 1, none⟩ = some (.slice (some ⟨g5, 0, none⟩) 1 c5) ∧ w.frozen? ⟨g, 1, none⟩ = false ∧ w.heap[g]? = some (.cells #[.bool false, .slice (some ⟨g5, 0, none⟩) 1 c5] 147 (0, 0))) := by
  obtain ⟨⟨v, hv, hf⟩, hg⟩ := h
  have hw := words_one h0 h1
  rcases hv.2 with ⟨_, e⟩ | ⟨g5, c5, rfl, hr⟩
  · rw [hw] at e; cases e
  · have hr' := hr
    rw [hw] at hr'
    have h1 := hv.1
    rw [hw] at h1
    refine ⟨g5, c5, ⟨hr', hf _ _ _ rfl, ?_⟩, ?_, Lib.frozen_of_heap hv.1 1, h1⟩
    · rintro rfl
      exact hv.noRow ⟨_, _, hr⟩
    · rw [Lib.cell_of_heap h1]; rfl
/-- What a round of Euclid's by words sees. -/
def GcdAt (G : Nat) (s23 s24 : Value) (wc wr : World) : Prop := ∃ x y : Nat, s23 = .int .u64 x ∧ s24 = .int .u64 y ∧ x < 18446744073709551616 ∧ y < 18446744073709551616 ∧ Nat.gcd x y = G ∧ Below wc.heap.size wc wr
theorem gcd_next {x y G : Nat} {wc wr : World} {k : Nat} (h : x < 18446744073709551616 ∧ y < 18446744073709551616 ∧ Nat.gcd x y = G ∧ Below wc.heap.size wc wr ∧ y ≠ 0) : GcdAt G (.int .u64 y) (.int .u64 ((x : Int) % (y : Int))) wc (wr.drewN k) := by
  obtain ⟨h1, h2, h3, h4, h5⟩ := h
  have hm := Nat.mod_lt x (show y > 0 by omega)
  refine ⟨y, x % y, rfl, by rw [Int.natCast_emod], h2, by omega, ?_, below_drewN.2 h4⟩
  rw [Nat.gcd_comm y, ← Nat.gcd_rec, Nat.gcd_comm]
  exact h3
theorem gcd_end {w wc wr : World} {gA g5 c5 p G : Nat} {v : Int} (hA : ZN w wc gA p) (hb : Below w.heap.size w wc) (hr : Row wc g5 c5 [(p : Int)] ∧ w.heap.size ≤ g5 ∧ g5 ≠ gA) (hg : wc.heap[gA]? = some (.cells #[.bool false, .slice (some ⟨g5, 0, none⟩) 1 c5] 147 (0, 0))) (hG : G < 18446744073709551616) (hB : Below wc.heap.size wc wr) (hv : v = (G : Nat)) (hG0 : G ≠ 0) : ZN w (wr.setCell ⟨g5, 0, none⟩ (.int .u64 v)) gA G ∧ Below w.heap.size w (wr.setCell ⟨g5, 0, none⟩ (.int .u64 v)) := by
  subst hv
  obtain ⟨hr1, hr2, hr3⟩ := hr
  have hB2 : Below w.heap.size w wr := bt hb hB (Nat.le_refl _)
  have hr5 := (hr1.below hB).set (i := 0) (G : Int)
  refine ⟨⟨⟨.slice (some ⟨g5, 0, none⟩) 1 c5, ⟨?_, ?_⟩, ?_⟩, hA.2⟩, hB2.setCell (p := ⟨g5, 0, none⟩) hr2 _⟩
  · rw [Below.heap_setCell _ _ _ _ (Ne.symm hr3)]
    exact (hB.block gA (Array.getElem?_eq_some_iff.1 hg).1).trans hg
  · rw [words_one hG0 hG]
    exact .inr ⟨g5, c5, rfl, hr5⟩
  · intro g n c e
    injection e with e1
    injection e1 with e2
    injection e2 with e3
    omega
theorem sorted_facts {n m : Nat} (hn : n ≠ 0) (hm : m ≠ 0) (hln : wl n ≤ 900) (hlm : wl m ≤ 900) : max n m ≠ 0 ∧ min n m ≠ 0 ∧ wl (max n m) ≤ 900 ∧ Nat.gcd (max n m) (min n m) = Nat.gcd n m := by
  refine ⟨by omega, by omega, ?_, ?_⟩
  · rcases Nat.le_total n m with h | h
    · rw [Nat.max_eq_right h]; exact hlm
    · rw [Nat.max_eq_left h]; exact hln
  · rcases Nat.le_total n m with h | h
    · rw [Nat.max_eq_right h, Nat.min_eq_left h, Nat.gcd_comm]
    · rw [Nat.max_eq_left h, Nat.min_eq_right h]
set_option maxRecDepth 100000 in
set_option maxHeartbeats 4000000 in
/-- z.lehmerGCD(nil, nil, a, b), z being new, the lesser of both one word. -/
theorem lehmer_call (gz ga oa gb ob n m : Nat) (hn : n ≠ 0) (hm : m ≠ 0) (hln : wl n ≤ 900) (hlm : wl m ≤ 900) (hmin : min n m < 18446744073709551616) (w : World) (hz : Fresh w gz) (ha : ZAt w ga oa false n) (hb : ZAt w gb ob false m) (h1 : gz ≠ ga) (h2 : gz ≠ gb) :
    Calls Tryz.prog 147 #[.pointer (some ⟨gz, 0, none⟩), .pointer none, .pointer none, .pointer (some ⟨ga, oa, none⟩), .pointer (some ⟨gb, ob, none⟩)] w fun e w' => e = .returned (.pointer (some ⟨gz, 0, none⟩)) ∧ ZAt w' gz 0 false (Nat.gcd n m) ∧ Off (· = gz) w w' := by
  go_enter Tryz.func147, Tryz.ntmps147
  go_wp2_with fail
  have lga := ha.lt
  have lgb := hb.lt
  refine (abs_call w.heap.size ga oa n false (by omega) _ (ha.below ((Below.refl _ w).alloc (Nat.le_refl _) _)) (by omega) (alloc_fresh w)).mono ?_
  rintro _ w2 ⟨rfl, ⟨vA, zA, fA⟩, oA⟩
  have b2 : Below w.heap.size w w2 := ((Below.refl _ w).alloc (Nat.le_refl _) _).trans (oA.below (by simp) (fun k hk => by omega))
  have s2 : w.heap.size + 1 ≤ w2.heap.size := by have := oA.size; simp at this; omega
  go_wp2_with fail
  refine (abs_call w2.heap.size gb ob m false (by omega) _ ((hb.below b2).below ((Below.refl _ w2).alloc (Nat.le_refl _) _)) (by omega) (alloc_fresh w2)).mono ?_
  rintro _ w4 ⟨rfl, ⟨vB, zB, fB⟩, oB⟩
  have b4' : Below w2.heap.size w2 w4 := ((Below.refl _ w2).alloc (Nat.le_refl _) _).trans (oB.below (by simp) (fun k hk => by omega))
  have s4 : w2.heap.size + 1 ≤ w4.heap.size := by have := oB.size; simp at this; omega
  obtain ⟨gA, gB, gq, W, eA, eB, eq, eW, hF⟩ : ∃ gA gB gq W, w.heap.size = gA ∧ w2.heap.size = gB ∧ w4.heap.size = gq ∧ (w4.alloc (.cells #[.bool false, .slice none 0 0] 147)).alloc (.cells #[.bool false, .slice none 0 0] 147) = W ∧ Four w gA gB gq (gq + 1) n m W := ⟨_, _, _, _, rfl, rfl, rfl, rfl, four_new b2 b4' s2 s4 ⟨⟨vA, zA, fun g n c e => by have := fA g n c e; simp at this; omega⟩, Nat.le_refl _⟩ ⟨⟨vB, zB, fun g n c e => by have := fB g n c e; simp at this; omega⟩, by omega⟩⟩
  go_upto_region 10 with fail
  obtain ⟨gr, hgr⟩ : ∃ gr, gq + 1 = gr := ⟨_, rfl⟩
  rw [hgr] at hF ⊢
  clear eW hgr eq eB eA b2 b4' s2 s4 zA zB oA oB fA fB
  have HN := Lib.hid (And.intro (sorted_facts hn hm hln hlm) hmin)
  have HZ := Lib.hid (And.intro hz (And.intro h1 (And.intro h2 ha)))
  have HF := Lib.hid hF
  obtain ⟨A1, c1, hwA, _, xA, _, _, _⟩ := hF.a.z.cells
  obtain ⟨A2, c2, hwB, _, xB, _, _, _⟩ := hF.b.z.cells
  have CC := cmp_call n m (by omega) A1 A2 c1 c2 W.drew (hwA.below (Below.refl _ _).drew) (hwB.below (Below.refl _ _).drew)
  clear hn hm hmin hln hlm hz h1 h2 ha hb lga lgb hF hwA hwB
  generalize wl n = L1 at *
  generalize wl m = L2 at *
  go_cut [60] (fun s60 wx => s60 = .bool (decide (cmpn n m < 0)) ∧ Below W.heap.size W wx)
  case first =>
    as_aux_lemma =>
      go_region_with (go_at_call 130; ((with_reducible refine CC.mono ?_); (rintro _ w5 ⟨rfl, hb5⟩; have HB := Lib.hid hb5; clear hb5)))
      all_goals
        go_wp2_with fail
        go_meet
        case rel => exact ⟨rfl, (bt (Below.refl _ W).drew HB.out (Nat.le_refl _))⟩
  case rest =>
    as_aux_lemma =>
      obtain ⟨rfl, hB⟩ := hcut
      have hlt : decide (cmpn n m < 0) = decide (n < m) := by
        unfold cmpn
        by_cases h : n < m
        · rw [if_pos h, decide_eq_true h]; decide
        · rw [if_neg h, decide_eq_false h]; split <;> decide
      rw [hlt]
      have HB := Lib.hid hB
      clear hlt hB CC xA xB
      go_upto_if 60 with fail
      go_cut [11, 12, 13, 14] (fun s11 s12 s13 s14 wx => Sorted2 w gq gr n m s11 s12 s13 s14 wx)
      case first =>
        as_aux_lemma =>
          by_cases h : n < m
          · rw [decide_eq_true h]
            have HL := Lib.hid h
            clear h
            go_wp2_with fail
            go_meet
            case rel => exact sorted_yes HF.out HB.out HL.out
          · rw [decide_eq_false h]
            have HL := Lib.hid h
            clear h
            go_wp2_with fail
            go_meet
            case rel => exact sorted_no HF.out HB.out HL.out
      case rest =>
        as_aux_lemma =>
          obtain ⟨rfl, rfl, gA', gB', rfl, rfl, hF'⟩ := hcut
          obtain ⟨⟨hN0, hM0, hlN, hG⟩, hmin⟩ := HN.out
          have hMw : wl (min n m) = 1 := by have := wl_one.2 hmin; have := wl_pos hM0; omega
          have HF2 := Lib.hid hF'
          clear HF HB HN
          obtain ⟨A3, c3, hwA, _, yA, _, _, _⟩ := hF'.a.z.cells
          obtain ⟨A4, c4, hwB, _, yB, _, _, _⟩ := hF'.b.z.cells
          rw [hMw] at yB
          have HW := Lib.hid (And.intro hwA hwB)
          generalize max n m = N at *
          generalize min n m = M at *
          have HG := Lib.hid (And.intro hN0 (And.intro hM0 (And.intro hlN (And.intro hG (And.intro hmin hMw)))))
          clear hN0 hM0 hlN hG hmin hMw hwA hwB hF'
          go_wp2_with fail
          go_loop [11, 12, 13, 14, 17] (fun a b c d e => a = .pointer (some ⟨gA', 0, none⟩) ∧ b = .pointer (some ⟨gB', 0, none⟩) ∧ c = .pointer none ∧ d = .pointer none ∧ e = .pointer (some ⟨gr, 0, none⟩)) (fun _ _ _ _ _ => 0)
          case atStart => exact ⟨rfl, rfl, rfl, rfl, rfl⟩
          case round =>
            as_aux_lemma =>
              obtain ⟨rfl, rfl, rfl, rfl, rfl⟩ := hrel
              go_upto_if 128 with fail
              go_cut [11, 12, 13, 14, 17] (fun s11 s12 s13 s14 s17 wx => OneW w (Nat.gcd n m) s11 s12 s13 s14 wx)
              case first =>
                as_aux_lemma =>
                  by_cases h : N < 18446744073709551616
                  · have hw : wl N = 1 := by
                      have := wl_one.2 h
                      have := wl_pos HG.out.1
                      omega
                    have d1 : decide ((1 : Int) < (wl N : Nat)) = false := by rw [hw]; decide
                    rw [d1]
                    have HL := Lib.hid h
                    clear h hw d1
                    go_wp2_with fail
                    go_meet
                    case rel => exact onew_no HF2.out HG.out HL.out
                  · have d1 : (1 : Int) < (wl N : Nat) := by
                      have : ¬ wl N ≤ 1 := fun k => h (wl_one.1 k)
                      omega
                    have EC := euclid_call gA' gB' gq gr N M HG.out.2.1 HG.out.2.2.2.2.1 HG.out.2.2.1 wc HF2.out.q HF2.out.r HF2.out.a.z HF2.out.b.z HF2.out.qr HF2.out.qa HF2.out.qb HF2.out.ra HF2.out.rb
                    have HL := Lib.hid h
                    clear h
                    go_wp2_with fail
                    refine EC.mono ?_
                    rintro _ w6 ⟨rfl, hr6, ho6⟩
                    have H6 := Lib.hid (And.intro hr6 ho6)
                    clear hr6 ho6 EC
                    go_wp2_with fail
                    go_meet
                    case rel => exact onew_yes HF2.out HG.out H6.out
              case rest =>
                as_aux_lemma =>
                  obtain ⟨rfl, rfl, gA2, gB2, p, q, rfl, rfl, hA2, hB2, hab, hp0, hp1, hq1, hgc, hbel⟩ := hcut
                  have HO := Lib.hid (And.intro hA2 (And.intro hab (And.intro hp0 (And.intro hp1 (And.intro hq1 (And.intro hgc hbel))))))
                  have HB2 := Lib.hid hB2
                  obtain ⟨A6, c6, _, _, yB2, _, _, _⟩ := hB2.z.cells
                  clear hA2 hB2 hab hp0 hp1 hq1 hgc hbel
                  go_upto_if 148 with fail
                  go_cut [23] (fun s23 wx => ZN w wx gA2 (Nat.gcd n m) ∧ Below w.heap.size w wx)
                  case first =>
                    as_aux_lemma =>
                      by_cases hq0 : q = 0
                      · have d1 : decide (0 < wl q) = false := by rw [hq0, wl_zero]; decide
                        rw [d1]
                        have HQ := Lib.hid hq0
                        clear hq0 d1
                        go_wp2_with fail
                        go_meet
                        case rel => exact ⟨by have := HO.out.2.2.2.2.2.1; rw [HQ.out, Nat.gcd_zero_right] at this; rw [← this]; exact HO.out.1, HO.out.2.2.2.2.2.2⟩
                      · obtain ⟨g6, c6', hrB, yB3, _, _⟩ := oneA HB2.out hq0 HO.out.2.2.2.2.1
                        have e6 := yB2.symm.trans yB3
                        injection e6 with e6
                        injection e6 with e61 e62 e63
                        obtain ⟨g5, c5, hrA, yA2, fA2, hgA2⟩ := oneA HO.out.1 HO.out.2.2.1 HO.out.2.2.2.1
                        rw [e61, e62, e63]
                        clear e61 e62 e63 yB2
                        have cA := hrA.1.cell (i := 0) rfl
                        have cB := hrB.1.cell (i := 0) rfl
                        have fA := hrA.1.frozen 0
                        have lA := hrA.1.lt
                        have HR := Lib.hid (And.intro hrA (And.intro hrB (And.intro hgA2 (And.intro lA hq0))))
                        clear hrA hrB hgA2 lA hq0 fA
                        go_wp2_with fail
                        go_quiet (fail)
                        go_wp2_with fail
                        go_loopw [23, 24] (fun s23 s24 wr => GcdAt (Nat.gcd n m) s23 s24 wc wr) (fun _ s24 _ => (intOf s24).toNat)
                        case atStart => exact ⟨p, q, rfl, rfl, HO.out.2.2.2.1, HO.out.2.2.2.2.1, HO.out.2.2.2.2.2.1, (drewn_below _ _)⟩
                        case round =>
                          as_aux_lemma =>
                            obtain ⟨x, y, rfl, rfl, hx1, hy1, hgc, hB⟩ := hrel
                            by_cases hy0 : y = 0
                            · subst hy0
                              rw [Nat.gcd_zero_right] at hgc
                              subst hgc
                              have zA := (hB.cell (p := ⟨gA2, 1, none⟩) (Array.getElem?_eq_some_iff.1 HR.out.2.2.1).1).trans yA2
                              have zC := (hB.cell (p := ⟨g5, 0, none⟩) HR.out.2.2.2.1).trans cA
                              have zF := (hB.frozen (p := ⟨g5, 0, none⟩) HR.out.2.2.2.1).trans (HR.out.1.1.frozen 0)
                              have HE := Lib.hid (And.intro hx1 hB)
                              have HE2 := Lib.hid (show Nat.gcd n m ≠ 0 from fun h => HO.out.2.2.1 (Nat.eq_zero_of_gcd_eq_zero_left (HO.out.2.2.2.2.2.1.trans h)))
                              clear hx1 hB yA2 cA
                              go_wp2_with fail
                              go_meet
                              case rel => exact gcd_end HO.out.1 HO.out.2.2.2.2.2.2 HR.out.1 HR.out.2.2.1 HE.out.1 HE.out.2 rfl HE2.out
                            · have hy0' : ((y : Int) != 0) = true := by simp; omega
                              have hy0'' : ((y : Int) == 0) = false := by rw [beq_eq_false_iff_ne]; omega
                              have u0 : (0 : Int) ≤ x := by omega
                              have u1 : (0 : Int) < y := by omega
                              have u3 : (x : Int) < 18446744073709551616 := by omega
                              have u4 : (y : Int) < 18446744073709551616 := by omega
                              have HE := Lib.hid (And.intro hx1 (And.intro hy1 (And.intro hgc (And.intro hB hy0))))
                              clear hx1 hy1 hgc hB hy0
                              generalize hX : (x : Int) = X at *
                              generalize hY : (y : Int) = Y at *
                              have HXY := Lib.hid (And.intro hX hY)
                              clear hX hY
                              go_wp2_with fail
                              go_quiet (fail)
                              go_wp2_with fail
                              go_roundw
                              case rel =>
                                rw [← HXY.out.1, ← HXY.out.2]
                                exact gcd_next HE.out
                              case measure =>
                                have := Nat.mod_lt x (show y > 0 by have := HE.out.2.2.2.2; omega)
                                rw [← HXY.out.1, ← HXY.out.2]
                                simp [intOf]; omega
                  case rest =>
                    as_aux_lemma =>
                      obtain ⟨hZ, hB⟩ := hcut
                      obtain ⟨hz, h1, h2, ha⟩ := HZ.out
                      obtain ⟨_, _, _, xa, _, _, _, lga⟩ := ha.cells
                      have xa2 := (hB.cell (p := ⟨ga, oa, none⟩) lga).trans xa
                      have lgz := (Array.getElem?_eq_some_iff.1 hz).1
                      have hfz : Fresh wc gz := (hB.block gz lgz).trans hz
                      have hne : gz ≠ gA2 := by have := hZ.2; omega
                      have hGl : Nat.gcd n m < 18446744073709551616 := by
                        have := HO.out
                        have := Nat.le_of_dvd (Nat.pos_of_ne_zero this.2.2.1) (this.2.2.2.2.2.1 ▸ Nat.gcd_dvd_left p q)
                        omega
                      have hGw : wl (Nat.gcd n m) ≤ 1000 := by have := wl_one.2 hGl; omega
                      have SC := intSet_call gz gA2 0 (Nat.gcd n m) false hGw wc hZ.z hne hfz
                      have HE := Lib.hid hB
                      clear xa ha hz h1 h2 hB hZ hGl hGw hfz lga lgz hne
                      go_wp2_with fail
                      refine SC.mono ?_
                      rintro _ w9 ⟨rfl, hz9, ho9⟩
                      go_wp2_with fail
                      go_ret
                      exact ⟨rfl, hz9, (Off.of (S := (· = gz)) HE.out).trans ho9⟩
end Go.Proofs.YtodipcgilgigbaaGreatDoor.V
