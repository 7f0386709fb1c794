/- The walk of setDigits. -/
import Derived.Test.YtgjfjbghdpcllaaGreatDoorW3
namespace Go.Proofs.YtgjfjbghdpcllaaGreatDoor
open Go Go.RowKit U

/-- The i-th of the seven digits. -/
def dgt (d i : Nat) : Nat := d / 10 ^ (6 - i) % 10
theorem dgt_lt (d i : Nat) : dgt d i < 10 := Nat.mod_lt _ (by decide)
def enc8 (b : UInt8) : Value := Value.int .u8 (b.toNat : Int)
/-- A block of 24 bytes that begins with the seven digits. -/
def Buf (d g : Nat) (T : TypeId) (w : World) : Prop := ∃ cs, w.heap[g]? = some (.cells cs T (0, 0)) ∧ cs.size = 24 ∧ ∀ i, i < 7 → cs[i]? = some (.int .u8 ((48 + dgt d i : Nat) : Int))
theorem put_buf (d g v' : Nat) (T : TypeId) (w : World) (cs : Array Value) (dk : Array UInt8) (hb : w.heap[g]? = some (.cells cs T (0, 0))) (hs : cs.size = 24) (hf : Lib.FmtInv 7 d 0 v' dk) : Buf d g T (Sort.putRow enc8 w g 0 dk) := by
  refine ⟨Sort.putCells enc8 0 dk cs, ?_, by simp [Sort.putCells, hs], fun i hi => ?_⟩
  · simp [Sort.putRow, Sort.mapBlock, Array.getElem?_modify, hb, Sort.onCells]
  · have hdone := hf.done i (by omega) hi
    have hc : i < cs.size := by omega
    simp only [Sort.putCells, Array.getElem?_mapIdx, Array.getElem?_eq_getElem hc, Option.map_some]
    rw [if_pos ⟨by omega, by rw [hf.size]; omega⟩, Nat.sub_zero, hdone]
    unfold enc8 Lib.dg dgt
    rw [show 7 - 1 - i = 6 - i by omega]
    have : d / 10 ^ (6 - i) % 10 < 10 := Nat.mod_lt _ (by decide)
    generalize d / 10 ^ (6 - i) % 10 = z at *
    simp only [UInt8.toNat_ofNat']
    rw [Nat.mod_eq_of_lt (by omega)]
theorem Buf.cell {d g : Nat} {T : TypeId} {w : World} (h : Buf d g T w) (i : Nat) (hi : i < 7) : w.cell? ⟨g, i, none⟩ = some (.int .u8 ((48 + dgt d i : Nat) : Int)) := by
  obtain ⟨cs, hb, _, hc⟩ := h
  rw [Lib.cell_of_heap hb]; exact hc i hi
theorem Buf.drewN {d g : Nat} {T : TypeId} {w : World} (h : Buf d g T w) (n : Nat) : Buf d g T (w.drewN n) := by
  obtain ⟨cs, hb, hr⟩ := h
  exact ⟨cs, by simpa using hb, hr⟩
theorem put_below (enc : UInt8 → Value) (w : World) (g : Nat) (dk : Array UInt8) : Below g w (Sort.putRow enc w g 0 dk) := by
  refine ⟨rfl, rfl, rfl, by simp, fun k hk => ?_⟩
  simp only [Sort.putRow, Sort.mapBlock, Array.getElem?_modify]
  rw [if_neg (by omega)]
def SetPost (d g : Nat) (p : Int) (T : TypeId) (w : World) (e : Ending) (w' : World) : Prop := ∃ nd : Nat, 1 ≤ nd ∧ nd ≤ 7 ∧ (∀ i, nd ≤ i → i < 7 → dgt d i = 0) ∧ e = .returned (.tuple #[.int .i64 (7 + p), .int .i64 nd]) ∧ Buf d g T w' ∧ Below g w w'
set_option maxRecDepth 100000 in
theorem setDigits_walk (g d : Nat) (p : Int) (T : TypeId) (w : World) (hb : w.heap[g]? = some (.cells (Array.replicate 24 (.int .u8 0)) T (0, 0))) (hd0 : 1000000 ≤ d) (hd1 : d < 10000000) (hp0 : -1000 ≤ p) (hp1 : p ≤ 1000) :
    Calls Tryz.prog 62 #[.slice (some ⟨g, 0, none⟩) 24 24, .int .u64 d, .int .i64 p, .int .i64 7] w (SetPost d g p T w) := by
  have hH : Sort.Holds enc8 w g 0 (Array.replicate 7 0) := by
    intro j hj
    have hj : j < 7 := by simpa using hj
    refine ⟨?_, Lib.frozen_of_heap hb _⟩
    rw [Lib.cell_of_heap hb]
    have : (Array.replicate 24 (Value.int .u8 0))[0 + j]? = some (.int .u8 0) := by
      rw [Array.getElem?_replicate, if_pos (by omega)]
    rw [this]
    simp [enc8, hj]
  have F := Tryz.internal_strconv_formatBase10 g 0 24 d (Array.replicate 7 0) w hH (by simpa using hd1) (by omega) (by simp)
  clear hH
  have F' : Calls Tryz.prog 81 #[.slice (some ⟨g, 0, none⟩) 7 24, .int .u64 d] w fun e w1 => e = .returned (.tuple #[]) ∧ Buf d g T w1 ∧ Below g w w1 := by
    refine F.mono ?_
    rintro e w1 ⟨rfl, n, v', dk, rfl, hf⟩
    exact ⟨rfl, (put_buf d g v' T w _ dk hb (by simp) hf).drewN n, below_drewN (put_below enc8 w g dk) n⟩
  have h0 : dgt d 0 ≠ 0 := by unfold dgt; omega
  clear F hd0 hd1 hb
  go_enter Tryz.func62, Tryz.ntmps62
  go_wp2_with fail
  refine F'.mono ?_
  rintro e w1 ⟨rfl, hbuf, hbel⟩
  clear F'
  go_wp2_with fail
  go_loop [3] (fun t => ∃ k : Nat, 1 ≤ k ∧ k ≤ 7 ∧ t = .int .i64 k ∧ ∀ i, k ≤ i → i < 7 → dgt d i = 0) (fun t => (intOf t).toNat)
  case atStart => exact ⟨7, by omega, by omega, rfl, fun i h1 h2 => by omega⟩
  case round =>
    obtain ⟨k, hk1, hk7, rfl, hz⟩ := hrel
    have HZ := Lib.hid hz
    clear hz
    have hc := hbuf.cell (k - 1) (by omega)
    have hl := dgt_lt d (k - 1)
    have hk1' : (0 : Int) < k := by omega
    have hk2' : (0 : Int) ≤ (k : Int) - 1 := by omega
    have hk3' : (k : Int) - 1 < 24 := by omega
    by_cases hd : dgt d (k - 1) = 0
    · have hc' : w1.cell? ⟨g, k - 1, none⟩ = some (.int .u8 48) := by rw [hc, hd]; rfl
      have hk2 : 2 ≤ k := by
        rcases Nat.lt_or_ge k 2 with h | h
        · exfalso; apply h0; rw [show k - 1 = 0 by omega] at hd; exact hd
        · exact h
      have HD := Lib.hid hd
      clear hd hc hl
      go_wp2_with fail
      go_round
      case rel =>
        refine ⟨k - 1, by omega, by omega, by go_num, fun i h1 h2 => ?_⟩
        rcases Nat.lt_or_ge i k with h | h
        · rw [show i = k - 1 by omega]; exact HD.out
        · exact HZ.out i h h2
      case measure => simp [intOf]; omega
    · have hb1 : (((48 + dgt d (k - 1) : Nat) : Int) == 48) = false := by
        rw [beq_eq_false_iff_ne]; omega
      generalize ((48 + dgt d (k - 1) : Nat) : Int) = z at hc hb1
      clear hd hl
      go_wp2_with fail
      go_ret2
      exact ⟨k, hk1, hk7, HZ.out, rfl, hbuf, hbel⟩
end Go.Proofs.YtgjfjbghdpcllaaGreatDoor
