/- Contracts of this claim's functions: each call gives what the plain mirror (in the text D) gives; the proofs are the kit's print, over D's definitions. -/
import Derived.Test.YtodipcgilgigbaaGreatDoorProg
import Derived.Below
import Derived.Deep.Draws
import Derived.Deep.AppendLies
import Derived.Maps.AppendAt
import Derived.OwnWalk
import Derived.Laws.BytesArg
import Derived.Laws.MakeOwn
import Derived.Laws.OwnMore
import Derived.Deep.OwnRows
import Derived.Tactics
import Derived.Lib.ConvBytes
import Derived.Laws.Slices
import Derived.WalkKit
import Derived.KernelRfl
import Derived.RowKit3
import Derived.Deep.LoopGhost
import Derived.Deep.QuietTactic
import Derived.BigQuiet
import Derived.WideLaws
import Derived.Deep.DeepCutAuto
import Derived.Deep.CutBlock
import Derived.Deep.RegionHeld3
import Derived.Laws.Rows
import Derived.Lib.AppendStr
import Derived.ArgAppend
import Derived.Laws.IdiomCopy
import Derived.OrdersHeld
import Derived.Laws.BitsLemmas
import Derived.RowKit
import Derived.Test.YtodipcgilgigbaaGreatDoorWK
import Derived.Test.YtodipcgilgigbaaGreatDoorD
namespace Go.Proofs.YtodipcgilgigbaaGreatDoor.I
open Go.RowKit Go.Proofs.YtodipcgilgigbaaGreatDoorW.PrintWords Go.Proofs.YtodipcgilgigbaaGreatDoorW.PrintLast Go.Proofs.YtodipcgilgigbaaGreatDoorW.PrintMore
attribute [local go_sem] max2_int min2_int max_two min_two max_three min_three max_four min_four
set_option linter.unusedVariables false
set_option linter.unusedSimpArgs false

def errW : Option Int → Value
  | none => .nilIface
  | some c => .iface 0 (.int .i64 c)
theorem errW_none : errW none = .nilIface := rfl
theorem errW_some (c : Int) : errW (some c) = .iface 0 (.int .i64 c) := rfl

theorem info3 : (Tryz.prog.info? 3).map (fun i => (i.zero, i.size, i.bytes)) = some (some (.int .i64 0), 1, 8) := by kernel_rfl
theorem info5 : (Tryz.prog.info? 5).map (fun i => (i.zero, i.size, i.bytes)) = some (some (.int .u8 0), 1, 1) := by kernel_rfl
theorem info166 : (Tryz.prog.info? 166).map (fun i => (i.zero, i.size, i.bytes)) = some (some (.int .u64 0), 1, 8) := by kernel_rfl
def rd_L3 (xs : List (List Int)) (i : Int) : (List Int) := xs.getD i.toNat ([] : List Int)
theorem at_L3 {w : World} {A : Option Addr} {n : Nat} {xs : List (List Int)} (h : Kd.C (Kd.slice 5 (Kd.int .u8)) w A n xs) (i : Int) (h0 : 0 ≤ i) (h1 : i < n) : ∃ ad A0 c0, A = some ad ∧ w.cell? (ad.add i.toNat) = some (.slice A0 (rd_L3 xs i).length c0) ∧ (rd_L3 xs i).length ≤ c0 ∧ (Kd.int .u8).C w A0 (rd_L3 xs i).length (rd_L3 xs i) := by
  obtain ⟨ad, c, e, _, hK, hc0⟩ := Kd.C_get h ([] : List Int) i h0 h1
  have hc : ∀ j u, c[j]? = some u → w.cell? (ad.add (i.toNat * 1 + j)) = some u := hc0
  obtain ⟨A0, c0, rfl, l0, g0⟩ := hK
  exact ⟨ad, A0, c0, e, by have hq := hc 0 _ rfl; rwa [Nat.mul_one, Nat.add_zero] at hq, l0, g0⟩

/-! #### struct type 28, nested in itself -/
structure S28 where
  f0 : Int
  f1 : Bool
  f2 : (List Int)
  f3 : Int
  f4 : ByteArray
  f5 : (List S28)
def z28 : S28 := ⟨(0 : Int), false, ([] : List Int), (0 : Int), (⟨#[]⟩ : ByteArray), ([] : List S28)⟩
def F28 (d : Kd S28) : Kd S28 := Kd.iso (Kd.pair (Kd.int .i64) (Kd.pair Kd.bool (Kd.pair (Kd.slice 5 (Kd.int .u8)) (Kd.pair (Kd.int .u64) (Kd.pair Kd.string (Kd.slice 28 d)))))) (fun x : S28 => (x.f0, x.f1, x.f2, x.f3, x.f4, x.f5))
theorem mono28 : Kd.Mono F28 := Kd.mono_iso _ (Kd.mono_pair (Kd.mono_const _) (Kd.mono_pair (Kd.mono_const _) (Kd.mono_pair (Kd.mono_const _) (Kd.mono_pair (Kd.mono_const _) (Kd.mono_pair (Kd.mono_const _) (Kd.mono_slice 28 Kd.mono_id))))))
theorem sub28 : Kd.Sub F28 [5, 28] := Kd.sub_iso _ (Kd.sub_pair (Kd.sub_const _ (by decide)) (Kd.sub_pair (Kd.sub_const _ (by decide)) (Kd.sub_pair (Kd.sub_const _ (by decide)) (Kd.sub_pair (Kd.sub_const _ (by decide)) (Kd.sub_pair (Kd.sub_const _ (by decide)) (Kd.sub_slice 28 (by decide) Kd.sub_id))))))
theorem sz28 : ∀ n, (Kd.upto F28 6 [5, 28] n).sz = 6 := Kd.upto_sz (fun _ => rfl)
def k28 : Kd S28 := Kd.fix F28 6 [5, 28] sz28 (Kd.upto_E sub28)
theorem k28_open {w : World} {x : S28} {cs : List Value} (h : k28.K w x cs) : ∃ A2 c2 A5 c5, cs = [.int .i64 x.f0, .bool x.f1, .slice A2 x.f2.length c2, .int .u64 x.f3, .string x.f4, .slice A5 x.f5.length c5] ∧ x.f2.length ≤ c2 ∧ (Kd.int .u8).C w A2 x.f2.length x.f2 ∧ x.f5.length ≤ c5 ∧ k28.C w A5 x.f5.length x.f5 := by
  obtain ⟨n, h⟩ := h
  cases n with
  | zero => exact h.elim
  | succ n =>
    obtain ⟨_, _, rfl, rfl, ⟨_, _, rfl, rfl, ⟨_, _, rfl, ⟨A2, c2, rfl, l2, g2⟩, ⟨_, _, rfl, rfl, ⟨_, _, rfl, rfl, ⟨A5, c5, rfl, l5, g5⟩⟩⟩⟩⟩⟩ := h
    exact ⟨A2, c2, A5, c5, rfl, l2, g2, l5, Kd.fix_C g5⟩
theorem k28_openM {w : World} {base : Nat} {ok : Nat → Prop} {x : S28} {cs : List Value} (h : k28.M w base ok x cs) : ∃ v2 v5, cs = [.int .i64 x.f0, .bool x.f1, v2, .int .u64 x.f3, .string x.f4, v5] ∧ (Kd.int .u8).R 5 w base ok v2 x.f2 ∧ k28.R 28 w base ok v5 x.f5 := by
  obtain ⟨n, h⟩ := h
  cases n with
  | zero => exact h.elim
  | succ n =>
    obtain ⟨_, _, rfl, rfl, ⟨_, _, rfl, rfl, ⟨_, _, rfl, ⟨v2, rfl, g2⟩, ⟨_, _, rfl, rfl, ⟨_, _, rfl, rfl, ⟨v5, rfl, g5⟩⟩⟩⟩⟩⟩ := h
    exact ⟨v2, v5, rfl, g2, Kd.fix_R g5⟩
theorem k28_mk (w : World) (x : S28) {A2 : Option Addr} {c2 : Nat} (l2 : x.f2.length ≤ c2) (g2 : (Kd.int .u8).C w A2 x.f2.length x.f2) {A5 : Option Addr} {c5 : Nat} (l5 : x.f5.length ≤ c5) (g5 : k28.C w A5 x.f5.length x.f5) : k28.K w x [.int .i64 x.f0, .bool x.f1, .slice A2 x.f2.length c2, .int .u64 x.f3, .string x.f4, .slice A5 x.f5.length c5] := by
  obtain ⟨n5, q5⟩ := Kd.fix_C_back mono28 g5
  have r5 := Kd.upto_C_le mono28 sz28 (show n5 ≤ n5 by omega) q5
  exact ⟨n5 + 1, ⟨[.int .i64 x.f0], [.bool x.f1, .slice A2 x.f2.length c2, .int .u64 x.f3, .string x.f4, .slice A5 x.f5.length c5], rfl, rfl, ⟨[.bool x.f1], [.slice A2 x.f2.length c2, .int .u64 x.f3, .string x.f4, .slice A5 x.f5.length c5], rfl, rfl, ⟨[.slice A2 x.f2.length c2], [.int .u64 x.f3, .string x.f4, .slice A5 x.f5.length c5], rfl, ⟨A2, c2, rfl, l2, g2⟩, ⟨[.int .u64 x.f3], [.string x.f4, .slice A5 x.f5.length c5], rfl, rfl, ⟨[.string x.f4], [.slice A5 x.f5.length c5], rfl, rfl, ⟨A5, c5, rfl, l5, r5⟩⟩⟩⟩⟩⟩⟩
theorem k28_mkM (w : World) (base : Nat) (ok : Nat → Prop) (x : S28) {v2 : Value} (g2 : (Kd.int .u8).R 5 w base ok v2 x.f2) {v5 : Value} (g5 : k28.R 28 w base ok v5 x.f5) : k28.M w base ok x [.int .i64 x.f0, .bool x.f1, v2, .int .u64 x.f3, .string x.f4, v5] := by
  obtain ⟨n5, q5⟩ := Kd.fix_R_back mono28 g5
  have r5 := Kd.upto_R_le mono28 sz28 (show n5 ≤ n5 by omega) q5
  exact ⟨n5 + 1, ⟨[.int .i64 x.f0], [.bool x.f1, v2, .int .u64 x.f3, .string x.f4, v5], rfl, rfl, ⟨[.bool x.f1], [v2, .int .u64 x.f3, .string x.f4, v5], rfl, rfl, ⟨[v2], [.int .u64 x.f3, .string x.f4, v5], rfl, ⟨v2, rfl, g2⟩, ⟨[.int .u64 x.f3], [.string x.f4, v5], rfl, rfl, ⟨[.string x.f4], [v5], rfl, rfl, ⟨v5, rfl, r5⟩⟩⟩⟩⟩⟩⟩
def rd_T28 (xs : List S28) (i : Int) : S28 := xs.getD i.toNat z28
theorem at_T28 {w : World} {A : Option Addr} {n : Nat} {xs : List S28} (h : Kd.C k28 w A n xs) (i : Int) (h0 : 0 ≤ i) (h1 : i < n) : ∃ ad A2 c2 A5 c5, A = some ad ∧ w.cell? (ad.add (i.toNat * 6)) = some (.int .i64 (rd_T28 xs i).f0) ∧ w.cell? ⟨(ad.add (i.toNat * 6)).block, (ad.add (i.toNat * 6)).off + 1, none⟩ = some (.bool (rd_T28 xs i).f1) ∧ w.cell? ⟨(ad.add (i.toNat * 6)).block, (ad.add (i.toNat * 6)).off + 2, none⟩ = some (.slice A2 (rd_T28 xs i).f2.length c2) ∧ w.cell? ⟨(ad.add (i.toNat * 6)).block, (ad.add (i.toNat * 6)).off + 3, none⟩ = some (.int .u64 (rd_T28 xs i).f3) ∧ w.cell? ⟨(ad.add (i.toNat * 6)).block, (ad.add (i.toNat * 6)).off + 4, none⟩ = some (.string (rd_T28 xs i).f4) ∧ w.cell? ⟨(ad.add (i.toNat * 6)).block, (ad.add (i.toNat * 6)).off + 5, none⟩ = some (.slice A5 (rd_T28 xs i).f5.length c5) ∧ (rd_T28 xs i).f2.length ≤ c2 ∧ (Kd.int .u8).C w A2 (rd_T28 xs i).f2.length (rd_T28 xs i).f2 ∧ (rd_T28 xs i).f5.length ≤ c5 ∧ k28.C w A5 (rd_T28 xs i).f5.length (rd_T28 xs i).f5 := by
  obtain ⟨ad, c, e, _, hK, hc0⟩ := Kd.C_get h z28 i h0 h1
  have hc : ∀ j u, c[j]? = some u → w.cell? (ad.add (i.toNat * 6 + j)) = some u := hc0
  obtain ⟨A2, c2, A5, c5, rfl, l2, g2, l5, g5⟩ := k28_open hK
  exact ⟨ad, A2, c2, A5, c5, e, hc 0 _ rfl, by rw [← add_field _ _ 1 (by omega)]; exact hc 1 _ rfl, by rw [← add_field _ _ 2 (by omega)]; exact hc 2 _ rfl, by rw [← add_field _ _ 3 (by omega)]; exact hc 3 _ rfl, by rw [← add_field _ _ 4 (by omega)]; exact hc 4 _ rfl, by rw [← add_field _ _ 5 (by omega)]; exact hc 5 _ rfl, l2, g2, l5, g5⟩

end Go.Proofs.YtodipcgilgigbaaGreatDoor.I
