/- Bytes as words: beUint32, beUint64, bigEndianWord. -/
import Derived.Test.YtodipcgilgigbaaGreatDoorV4
set_option linter.unusedVariables false
namespace Go.Proofs.YtodipcgilgigbaaGreatDoor.V
open Go Go.RowKit Go.Proofs.YtodipcgilgigbaaGreatDoor.I

/-- Bytes lie in block g from o on. -/
def BRow (w : World) (g o : Nat) (l : List Int) : Prop := ∀ (i : Nat) (x : Int), l[i]? = some x → w.cell? ⟨g, o + i, none⟩ = some (.int .u8 x)
theorem BRow.get {w : World} {g o : Nat} {l : List Int} (h : BRow w g o l) (i : Nat) (hi : i < l.length) : w.cell? ⟨g, o + i, none⟩ = some (.int .u8 l[i]) := h i _ (List.getElem?_eq_getElem hi)
theorem BRow.drop {w : World} {g o : Nat} {l : List Int} (h : BRow w g o l) (k : Nat) : BRow w g (o + k) (l.drop k) := fun i x hx => by
  rw [List.getElem?_drop] at hx
  have := h _ x hx
  rwa [Nat.add_assoc]
theorem BRow.take {w : World} {g o : Nat} {l : List Int} (h : BRow w g o l) (k : Nat) : BRow w g o (l.take k) := fun i x hx => by
  rw [List.getElem?_take] at hx
  split at hx
  · exact h i x hx
  · cases hx
theorem cell_lt {w : World} {g o : Nat} {v : Value} (h : w.cell? ⟨g, o, none⟩ = some v) : g < w.heap.size := by
  unfold World.cell? at h
  cases hg : w.heap[g]? with
  | none => simp [hg] at h
  | some ob => exact (Array.getElem?_eq_some_iff.1 hg).1
theorem BRow.below {w w' : World} {g o : Nat} {l : List Int} (h : BRow w g o l) (hb : Below w.heap.size w w') : BRow w' g o l := fun i x hx => (hb.cell (p := ⟨g, o + i, none⟩) (cell_lt (h i x hx))).trans (h i x hx)
/-- The slice of bytes. -/
def IsBy (w : World) (v : Value) (l : List Int) : Prop := (v = .slice none 0 0 ∧ l = []) ∨ ∃ g c, v = .slice (some ⟨g, 0, none⟩) l.length c ∧ l.length ≤ c ∧ BRow w g 0 l
theorem IsBy.below {w w' : World} {v : Value} {l : List Int} (h : IsBy w v l) (hb : Below w.heap.size w w') : IsBy w' v l := by
  rcases h with h | ⟨g, c, rfl, hc, hr⟩
  · exact .inl h
  · exact .inr ⟨g, c, rfl, hc, hr.below hb⟩
theorem or_join (k : Nat) (a b q : Nat) (hk : q = 2 ^ k) (ha : a < 2 ^ k) : a ||| b * q = a + b * q := by
  subst hk
  rw [Nat.or_comm, Nat.mul_comm b, ← Nat.two_pow_add_eq_or_of_lt ha]
  omega
theorem eight {l : List Int} (hb : Bytes l) (hl : l.length = 8) : ∃ b0 b1 b2 b3 b4 b5 b6 b7 : Nat, l = [(b0 : Int), b1, b2, b3, b4, b5, b6, b7] ∧ b0 < 256 ∧ b1 < 256 ∧ b2 < 256 ∧ b3 < 256 ∧ b4 < 256 ∧ b5 < 256 ∧ b6 < 256 ∧ b7 < 256 := by
  match l, hl with
  | [x0, x1, x2, x3, x4, x5, x6, x7], _ =>
    have g : ∀ x ∈ [x0, x1, x2, x3, x4, x5, x6, x7], (0 : Int) ≤ x ∧ x < 256 := hb
    simp only [List.mem_cons, List.not_mem_nil, or_false, forall_eq_or_imp, forall_eq] at g
    refine ⟨x0.toNat, x1.toNat, x2.toNat, x3.toNat, x4.toNat, x5.toNat, x6.toNat, x7.toNat, ?_, by omega, by omega, by omega, by omega, by omega, by omega, by omega, by omega⟩
    simp only [List.cons.injEq, and_true]
    omega
theorem or32 (a b q k : Nat) (hk : q = 2 ^ k) (ha : a < q) (hs : a + b * q < 4294967296) : ∃ s : Nat, s = a + b * q ∧ bits .or .u32 (a : Int) ((b : Int) * (q : Int)) = (s : Int) := by
  refine ⟨_, rfl, ?_⟩
  have e : (b : Int) * (q : Int) = ((b * q : Nat) : Int) := by rw [Int.natCast_mul]
  rw [e, u32_or_nat a (b * q) (by omega) (by omega), or_join k a b q hk (hk ▸ ha)]
theorem or64 (a b q k : Nat) (hk : q = 2 ^ k) (ha : a < q) (hs : a + b * q < 18446744073709551616) : ∃ s : Nat, s = b * q + a ∧ bits .or .u64 ((b : Int) * (q : Int)) (a : Int) = (s : Int) := by
  refine ⟨_, rfl, ?_⟩
  have e : (b : Int) * (q : Int) = ((b * q : Nat) : Int) := by rw [Int.natCast_mul]
  rw [e, u64_or_nat (b * q) a (by omega) (by omega), Nat.or_comm, or_join k a b q hk (hk ▸ ha), Nat.add_comm]
set_option maxRecDepth 100000 in
set_option maxHeartbeats 1000000 in
theorem be32_call (g o c : Nat) (n : Nat) (hn : 4 ≤ n) (b0 b1 b2 b3 : Nat) (h0 : b0 < 256) (h1 : b1 < 256) (h2 : b2 < 256) (h3 : b3 < 256) (w : World) (c0 : w.cell? ⟨g, o, none⟩ = some (.int .u8 b0)) (c1 : w.cell? ⟨g, o + 1, none⟩ = some (.int .u8 b1)) (c2 : w.cell? ⟨g, o + 2, none⟩ = some (.int .u8 b2)) (c3 : w.cell? ⟨g, o + 3, none⟩ = some (.int .u8 b3)) :
    Calls Tryz.prog 106 #[.slice (some ⟨g, o, none⟩) n c] w fun e w' => e = .returned (.int .u32 ((b0 * 16777216 + b1 * 65536 + b2 * 256 + b3 : Nat) : Int)) ∧ ∃ m, w' = w.drewN m := by
  have e0 : (3 : Int) < n := by omega
  have e1 : (2 : Int) < n := by omega
  have e2 : (1 : Int) < n := by omega
  have e3 : (0 : Int) < n := by omega
  have f0 : 3 < n := by omega
  have f1 : 2 < n := by omega
  have f2 : 1 < n := by omega
  have f3 : 0 < n := by omega
  obtain ⟨s1, d1, o1⟩ := or32 b3 b2 256 8 (by decide) h3 (by omega)
  obtain ⟨s2, d2, o2⟩ := or32 s1 b1 65536 16 (by decide) (by omega) (by omega)
  obtain ⟨s3, d3, o3⟩ := or32 s2 b0 16777216 24 (by decide +kernel) (by omega) (by omega)
  simp only [Int.cast_ofNat_Int] at o1 o2 o3
  have HD : b0 * 16777216 + b1 * 65536 + b2 * 256 + b3 = s3 := by omega
  rw [HD]
  clear HD d1 d2 d3
  go_enter Tryz.func106, Tryz.ntmps106
  go_wp2_with fail
  go_quiet (fail)
  go_wp2_with fail
  go_ret
  exact ⟨rfl, _, rfl⟩
theorem drewn_cell (w : World) (n : Nat) (p : Addr) : (w.drewN n).cell? p = w.cell? p := by
  simp
set_option maxRecDepth 100000 in
set_option maxHeartbeats 1000000 in
theorem be64_call (g o c : Nat) (hc : 8 ≤ c) (hc2 : c ≤ 9223372036854775807) (l : List Int) (hb : Bytes l) (hl : l.length = 8) (w : World) (h : BRow w g o l) :
    Calls Tryz.prog 105 #[.slice (some ⟨g, o, none⟩) 8 c] w fun e w' => e = .returned (.int .u64 ((val l : Nat) : Int)) ∧ ∃ m, w' = w.drewN m := by
  obtain ⟨b0, b1, b2, b3, b4, b5, b6, b7, rfl, h0, h1, h2, h3, h4, h5, h6, h7⟩ := eight hb hl
  obtain ⟨hi, hhi⟩ : ∃ hi, b0 * 16777216 + b1 * 65536 + b2 * 256 + b3 = hi := ⟨_, rfl⟩
  obtain ⟨lo, hlo⟩ : ∃ lo, b4 * 16777216 + b5 * 65536 + b6 * 256 + b7 = lo := ⟨_, rfl⟩
  have x0 : hi < 4294967296 := by omega
  have x1 : lo < 4294967296 := by omega
  have hv : (val [(b0 : Int), b1, b2, b3, b4, b5, b6, b7] : Nat) = hi * 4294967296 + lo := by
    subst hhi hlo
    simp [val]
    omega
  have k0 := h 0 _ rfl
  have k1 := h 1 _ rfl
  have k2 := h 2 _ rfl
  have k3 := h 3 _ rfl
  have k4 := h 4 _ rfl
  have k5 := h 5 _ rfl
  have k6 := h 6 _ rfl
  have k7 := h 7 _ rfl
  simp only [Nat.add_zero] at k0
  have r1 := be32_call g o c 8 (by omega) b0 b1 b2 b3 h0 h1 h2 h3
  have r2 := be32_call g (o + 4) (c - 4) 4 (by omega) b4 b5 b6 b7 h4 h5 h6 h7
  rw [hhi] at r1
  rw [hlo] at r2
  rw [hv]
  clear hv h0 h1 h2 h3 h4 h5 h6 h7 hhi hlo
  obtain ⟨s4, d4, o4⟩ := or64 lo hi 4294967296 32 (by decide +kernel) x1 (by omega)
  rw [← d4]
  clear d4
  simp only [Int.cast_ofNat_Int] at o4
  have hcc : (4 : Int) ≤ c := by omega
  have hc4 : ¬ c = 4 := by omega
  go_enter Tryz.func105, Tryz.ntmps105
  go_wp2_with fail
  go_quiet ((go_at_call 106; first | ((with_reducible refine Calls.quiet_of (r1 _ ?_ ?_ ?_ ?_)); (simpa using k0); (simpa using k1); (simpa using k2); (simpa using k3)) | ((with_reducible refine Calls.quiet_of (r2 _ ?_ ?_ ?_ ?_)); (simpa using k4); (simpa [Nat.add_assoc] using k5); (simpa [Nat.add_assoc] using k6); (simpa [Nat.add_assoc] using k7))))
  go_wp2_with fail
  go_ret
  exact ⟨rfl, _, rfl⟩
theorem drewn_below (w : World) (m : Nat) : Below w.heap.size w (w.drewN m) := by
  exact (Go.Proofs.YtodipcgilgigbaaGreatDoorW.PrintWords.Drawn0.mk ⟨m, rfl⟩).below
theorem beW_call (g o c : Nat) (hc : 8 ≤ c) (hc2 : c ≤ 9223372036854775807) (l : List Int) (hb : Bytes l) (hl : l.length = 8) (w : World) (h : BRow w g o l) :
    Calls Tryz.prog 94 #[.slice (some ⟨g, o, none⟩) 8 c] w fun e w' => e = .returned (.int .u64 ((val l : Nat) : Int)) ∧ Below w.heap.size w w' := by
  have hv : val l < 18446744073709551616 := by
    have := val_lt _ _ hl hb
    simpa using this
  have r := be64_call g o c hc hc2 l hb hl w h
  generalize val l = x at *
  go_enter Tryz.func94, Tryz.ntmps94
  go_wp2_with (go_at_call 105; refine r.mono ?_; rintro _ w1 ⟨rfl, m, rfl⟩)
  go_ret
  exact ⟨rfl, (drewn_below w m)⟩
end Go.Proofs.YtodipcgilgigbaaGreatDoor.V

