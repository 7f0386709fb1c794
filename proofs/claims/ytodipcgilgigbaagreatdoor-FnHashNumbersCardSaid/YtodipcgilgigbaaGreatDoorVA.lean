/- impl.whole: a Val's number as starlark's Int. -/
import Derived.Test.YtodipcgilgigbaaGreatDoorV9
set_option linter.unusedVariables false
namespace Go.Proofs.YtodipcgilgigbaaGreatDoor.V
open Go Go.RowKit Go.Proofs.YtodipcgilgigbaaGreatDoor.I
theorem IsS.form {w : World} {B : Nat} {v : Value} {z : Int} (h : IsS w B v z) : ∃ i p, v = .agg #[.int .i64 i, .pointer p] := by
  rcases h with ⟨rfl, _⟩ | ⟨g, rfl, _⟩
  · exact ⟨_, _, rfl⟩
  · exact ⟨_, _, rfl⟩
set_option maxRecDepth 100000 in
set_option maxHeartbeats 1000000 in
theorem whole_call (kd : Int) (neg : Bool) (mA : Option Addr) (mn mc : Nat) (bits : Int) (tx : ByteArray) (kA : Option Addr) (kn kc : Nat) (m : List Int) (hm : Bytes m) (hl : m.length ≤ 1000) (w : World) (h : IsBy w (.slice mA mn mc) m) (hcap : mc ≤ 9223372036854775807) :
    Calls Tryz.prog 51 #[.agg #[.int .i64 kd, .bool neg, .slice mA mn mc, .int .u64 bits, .string tx, .slice kA kn kc]] w fun e w' => ∃ v, e = .returned v ∧ IsS w' w.heap.size v (zn (neg && decide (val m ≠ 0)) (val m)) ∧ Below w.heap.size w w' := by
  have hwl : wl (val m) ≤ 1000 := by
    have h1 := val_lt _ _ rfl hm
    have h2 : val m < 18446744073709551616 ^ m.length := Nat.lt_of_lt_of_le h1 (by rw [← pow256]; exact Nat.pow_le_pow_right (by omega) (by omega))
    exact Nat.le_trans (wl_le h2) hl
  obtain ⟨W, hW⟩ : ∃ W, ((w.alloc (.cells #[.int .i64 kd, .bool neg, .slice mA mn mc, .int .u64 bits, .string tx, .slice kA kn kc] 28)).alloc (.cells #[.int .i64 0, .pointer none] 99)).alloc (.cells #[.bool false, .slice none 0 0] 147) = W := ⟨_, rfl⟩
  have hWs : W.heap.size = w.heap.size + 3 := by subst hW; simp
  have hWB : Below w.heap.size w W := by subst hW; exact (((Below.refl _ _).alloc (Nat.le_refl _) _).alloc (by simp) _).alloc (by simp; omega) _
  have hWx : W.heap[w.heap.size]? = some (.cells #[.int .i64 kd, .bool neg, .slice mA mn mc, .int .u64 bits, .string tx, .slice kA kn kc] 28 (0, 0)) := by
    subst hW
    exact (Below.heap_alloc _ _ _ (by simp; omega)).trans ((Below.heap_alloc _ _ _ (by simp)).trans (heap_alloc_new w _))
  have hWr : W.heap[w.heap.size + 1]? = some (.cells #[.int .i64 0, .pointer none] 99 (0, 0)) := by
    subst hW
    refine (Below.heap_alloc _ _ _ (by simp)).trans ?_
    have := heap_alloc_new (w.alloc (.cells #[.int .i64 kd, .bool neg, .slice mA mn mc, .int .u64 bits, .string tx, .slice kA kn kc] 28)) (.cells #[.int .i64 0, .pointer none] 99)
    simpa using this
  have hWz : W.heap[w.heap.size + 2]? = some (.cells #[.bool false, .slice none 0 0] 147 (0, 0)) := by
    subst hW
    have := heap_alloc_new ((w.alloc (.cells #[.int .i64 kd, .bool neg, .slice mA mn mc, .int .u64 bits, .string tx, .slice kA kn kc] 28)).alloc (.cells #[.int .i64 0, .pointer none] 99)) (.cells #[.bool false, .slice none 0 0] 147)
    simpa using this
  have SB := intSetBytes_call (w.heap.size + 2) (.slice mA mn mc) m hm hl W (h.below hWB) (fun A n c e => by injection e with _ _ e3; omega) hWz
  have fin : ∀ (ng : Bool) (wq w2 : World) (i : Int) (p : Option Addr), Off (· = w.heap.size + 2) W wq → Below wq.heap.size wq w2 → IsS w2 wq.heap.size (.agg #[.int .i64 i, .pointer p]) (zn ng (val m)) →
      w2.cell? ⟨w.heap.size + 1, 0, none⟩ = some (.int .i64 0) ∧ w2.cell? ⟨w.heap.size + 1, 1, none⟩ = some (.pointer none) ∧ w2.frozen? ⟨w.heap.size + 1, 0, none⟩ = false ∧ w2.frozen? ⟨w.heap.size + 1, 1, none⟩ = false ∧
      ((w2.setCell ⟨w.heap.size + 1, 0, none⟩ (.int .i64 i)).setCell ⟨w.heap.size + 1, 1, none⟩ (.pointer p)).cell? ⟨w.heap.size + 1, 0, none⟩ = some (.int .i64 i) ∧
      ((w2.setCell ⟨w.heap.size + 1, 0, none⟩ (.int .i64 i)).setCell ⟨w.heap.size + 1, 1, none⟩ (.pointer p)).cell? ⟨w.heap.size + 1, 1, none⟩ = some (.pointer p) ∧
      IsS ((w2.setCell ⟨w.heap.size + 1, 0, none⟩ (.int .i64 i)).setCell ⟨w.heap.size + 1, 1, none⟩ (.pointer p)) w.heap.size (.agg #[.int .i64 i, .pointer p]) (zn ng (val m)) ∧ Below w.heap.size w ((w2.setCell ⟨w.heap.size + 1, 0, none⟩ (.int .i64 i)).setCell ⟨w.heap.size + 1, 1, none⟩ (.pointer p)) := by
    intro ng wq w2 i p ho hb hs
    have hs1 := ho.size
    have g1 := (hb.block (w.heap.size + 1) (by omega)).trans ((ho.block (w.heap.size + 1) (by omega) (by omega)).trans hWr)
    have p1 := heap_put g1 0 (.int .i64 i)
    have p2 := heap_put p1 1 (.pointer p)
    have hT : 99 ≠ 166 := by decide
    have hB1 : Below w.heap.size w wq := hWB.trans (ho.below (by omega) (fun k hk => by omega))
    refine ⟨(Lib.cell_of_heap g1 0).trans rfl, (Lib.cell_of_heap g1 1).trans rfl, Lib.frozen_of_heap g1 0, Lib.frozen_of_heap g1 1, (Lib.cell_of_heap p2 0).trans rfl, (Lib.cell_of_heap p2 1).trans rfl, ?_, ((bt hB1 hb (Nat.le_refl _)).setCell (p := ⟨w.heap.size + 1, 0, none⟩) (by show w.heap.size ≤ w.heap.size + 1; omega) _).setCell (p := ⟨w.heap.size + 1, 1, none⟩) (by show w.heap.size ≤ w.heap.size + 1; omega) _⟩
    rcases hs with hs | ⟨g, he, hsm, hz, hge⟩
    · exact .inl hs
    · refine .inr ⟨g, he, hsm, ?_, by omega⟩
      obtain ⟨cs, T, v, hzg, hzT, hz0, hz1', hzw⟩ := hz
      exact ⟨cs, T, v, by rw [Below.heap_setCell _ _ _ _ (by show g ≠ w.heap.size + 1; omega), Below.heap_setCell _ _ _ _ (by show g ≠ w.heap.size + 1; omega)]; exact hzg, hzT, hz0, hz1', (hzw.setOther g1 hT 0 _).setOther p1 hT 1 _⟩
  have FIN := Lib.hid fin
  clear fin
  have HW := Lib.hid (And.intro hWs (And.intro hWB (And.intro hWr hWz)))
  clear hWs hWB hWr hWz
  have x2 := (Lib.cell_of_heap hWx 2).trans (rfl : _ = some (Value.slice mA mn mc))
  cases neg
  · go_enter Tryz.func51, Tryz.ntmps51
    go_wp2_with fail
    refine SB.mono ?_
    rintro _ w1 ⟨rfl, hz1, ho1⟩
    obtain ⟨hWs, hWB, hWr, hWz⟩ := HW.out
    have hg1 := (ho1.block w.heap.size (by omega) (by omega)).trans hWx
    have x1 := (Lib.cell_of_heap hg1 1).trans (rfl : _ = some (Value.bool false))
    clear hWs hWB hWr hWz hWx hg1 x2
    go_wp2_with (go_at_call 68; refine (makeBigInt_call _ _ _ _ hwl (fun e => by cases e) _ hz1).mono ?_; rintro _ w2 ⟨v2, rfl, hs2, hb2⟩; obtain ⟨i2, p2, rfl⟩ := IsS.form hs2; obtain ⟨d0, d1, z0, z1, q0, q1, hq, hB⟩ := FIN.out _ _ _ i2 p2 ho1 hb2 hs2)
    exact bodyPost_ret (v := .agg #[.int .i64 i2, .pointer p2]) (by simp [results, Tryz.results51, go_sem, q0, q1]) rfl ⟨_, rfl, hq, hB⟩
  · rw [Bool.true_and]
    obtain ⟨q, hq⟩ : ∃ q, decide (val m ≠ 0) = q := ⟨_, rfl⟩
    rw [hq]
    have HQ := Lib.hid hq
    clear hq
    go_enter Tryz.func51, Tryz.ntmps51
    go_wp2_with fail
    refine SB.mono ?_
    rintro _ w1 ⟨rfl, hz1, ho1⟩
    obtain ⟨hWs, hWB, hWr, hWz⟩ := HW.out
    have hg1 := (ho1.block w.heap.size (by omega) (by omega)).trans hWx
    have x1 := (Lib.cell_of_heap hg1 1).trans (rfl : _ = some (Value.bool true))
    clear hWs hWB hWr hWz hWx hg1 x2
    go_wp2_with (first | (go_at_call 67; refine (negSelf_call _ _ _ _ hz1).mono ?_; rintro _ w3 ⟨rfl, hz3, ho3⟩; rw [Bool.not_false, Bool.and_true, HQ.out] at hz3; have ho4 := ho1.trans ho3) | (go_at_call 68; refine (makeBigInt_call _ _ _ _ hwl (fun e => by rw [← HQ.out] at e; simpa using e) _ hz3).mono ?_; rintro _ w2 ⟨v2, rfl, hs2, hb2⟩; obtain ⟨i2, p2, rfl⟩ := IsS.form hs2; obtain ⟨d0, d1, z0, z1, q0, q1, hq, hB⟩ := FIN.out _ _ _ i2 p2 ho4 hb2 hs2))
    exact bodyPost_ret (v := .agg #[.int .i64 i2, .pointer p2]) (by simp [results, Tryz.results51, go_sem, q0, q1]) rfl ⟨_, rfl, hq, hB⟩
end Go.Proofs.YtodipcgilgigbaaGreatDoor.V
