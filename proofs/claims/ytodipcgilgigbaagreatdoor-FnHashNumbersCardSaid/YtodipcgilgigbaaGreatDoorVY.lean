/- impl.value of a float and of an int. -/
import Derived.Test.YtodipcgilgigbaaGreatDoorVX
import Derived.Test.YtodipcgilgigbaaGreatDoorVA
import Derived.Test.YtodipcgilgigbaaGreatDoorS2
set_option linter.unusedVariables false
namespace Go.Proofs.YtodipcgilgigbaaGreatDoor.V
open Go Go.RowKit Go.Proofs.YtodipcgilgigbaaGreatDoor.I Go.Proofs.YtodipcgilgigbaaGreatDoorW.PrintWords
set_option maxRecDepth 100000 in
theorem floatOf_call (b : Int) (w : World) : Calls Tryz.prog 52 #[.int .u64 b] w fun e w' => e = .returned (.float .f64 b.toNat) ∧ w = w' := by
  have h' := run_frombits
  go_enter Tryz.func52, Tryz.ntmps52
  go_wp2
  go_ret
  exact ⟨rfl, rfl⟩
attribute [local go_sem ↓] Go.wp_at_zero Go.wp_at_succ
abbrev vval (kd : Int) (neg : Bool) (mA : Option Addr) (mn mc : Nat) (bits : Int) (tx : ByteArray) (kA : Option Addr) (kn kc : Nat) : Value := .agg #[.int .i64 kd, .bool neg, .slice mA mn mc, .int .u64 bits, .string tx, .slice kA kn kc]
theorem box_below (w : World) (kd : Int) (neg : Bool) (mA : Option Addr) (mn mc : Nat) (bits : Int) (tx : ByteArray) (kA : Option Addr) (kn kc : Nat) : Below w.heap.size w (w.alloc (.cells #[.int .i64 kd, .bool neg, .slice mA mn mc, .int .u64 bits, .string tx, .slice kA kn kc] 28)) := (Below.refl _ w).alloc (Nat.le_refl _) _
set_option maxRecDepth 100000 in
set_option maxHeartbeats 1000000 in
theorem scalar_float (neg : Bool) (mA : Option Addr) (mn mc : Nat) (bits : Int) (tx : ByteArray) (kA : Option Addr) (kn kc : Nat) (w : World) :
    Calls Tryz.prog 44 #[.int .i64 3, vval 3 neg mA mn mc bits tx kA kn kc] w fun e w' => e = .returned (.tuple #[.iface 69 (.float .f64 bits.toNat), .bool true]) ∧ Below w.heap.size w w' := by
  go_enter Tryz.func44, Tryz.ntmps44
  go_wp2_with (go_at_call 52; refine (floatOf_call bits _).mono ?_; rintro _ w1 ⟨rfl, rfl⟩)
  go_ret2
  exact ⟨rfl, box_below w 3 neg mA mn mc bits tx kA kn kc⟩
set_option maxRecDepth 100000 in
set_option maxHeartbeats 1000000 in
theorem value_float (neg : Bool) (mA : Option Addr) (mn mc : Nat) (bits : Int) (tx : ByteArray) (kA : Option Addr) (kn kc : Nat) (w : World) :
    Calls Tryz.prog 29 #[vval 3 neg mA mn mc bits tx kA kn kc] w fun e w' => e = .returned (.tuple #[.iface 69 (.float .f64 bits.toNat), .bool true]) ∧ Below w.heap.size w w' := by
  go_enter Tryz.func29, Tryz.ntmps29
  go_wp2_with (go_at_call 44; refine (scalar_float neg mA mn mc bits tx kA kn kc _).mono ?_; rintro _ w1 ⟨rfl, hb1⟩)
  go_ret2
  exact ⟨rfl, bt (box_below w 3 neg mA mn mc bits tx kA kn kc) hb1 (Nat.le_refl _)⟩
theorem IsS.low {w : World} {B B' : Nat} {v : Value} {z : Int} (h : IsS w B v z) (hb : B' ≤ B) : IsS w B' v z := by
  rcases h with h | ⟨g, rfl, hs, hz, hB⟩
  · exact .inl h
  · exact .inr ⟨g, rfl, hs, hz, by omega⟩
/-- An interface that holds the number z, and true. -/
def SI (w : World) (z : Int) (e : Ending) (w' : World) : Prop := ∃ v, e = .returned (.tuple #[.iface 99 v, .bool true]) ∧ IsS w' w.heap.size v z ∧ Below w.heap.size w w'
set_option maxRecDepth 100000 in
set_option maxHeartbeats 1000000 in
theorem scalar_int (neg : Bool) (mA : Option Addr) (mn mc : Nat) (bits : Int) (tx : ByteArray) (kA : Option Addr) (kn kc : Nat) (m : List Int) (hm : Bytes m) (hl : m.length ≤ 1000) (w : World) (h : IsBy w (.slice mA mn mc) m) (hcap : mc ≤ 9223372036854775807) :
    Calls Tryz.prog 44 #[.int .i64 2, vval 2 neg mA mn mc bits tx kA kn kc] w (SI w (zn (neg && decide (val m ≠ 0)) (val m))) := by
  have hA := box_below w 2 neg mA mn mc bits tx kA kn kc
  have hx := whole_call 2 neg mA mn mc bits tx kA kn kc m hm hl _ (h.below hA) hcap
  go_enter Tryz.func44, Tryz.ntmps44
  go_wp2_with (go_at_call 51; refine hx.mono ?_; rintro _ w1 ⟨v, rfl, hv, hb1⟩; obtain ⟨i, p, rfl⟩ := hv.form)
  go_ret2
  exact ⟨_, rfl, hv.low hA.size, bt hA hb1 (Nat.le_refl _)⟩
set_option maxRecDepth 100000 in
set_option maxHeartbeats 1000000 in
theorem value_int (neg : Bool) (mA : Option Addr) (mn mc : Nat) (bits : Int) (tx : ByteArray) (kA : Option Addr) (kn kc : Nat) (m : List Int) (hm : Bytes m) (hl : m.length ≤ 1000) (w : World) (h : IsBy w (.slice mA mn mc) m) (hcap : mc ≤ 9223372036854775807) :
    Calls Tryz.prog 29 #[vval 2 neg mA mn mc bits tx kA kn kc] w (SI w (zn (neg && decide (val m ≠ 0)) (val m))) := by
  have hA := box_below w 2 neg mA mn mc bits tx kA kn kc
  have hx := scalar_int neg mA mn mc bits tx kA kn kc m hm hl _ (h.below hA) hcap
  go_enter Tryz.func29, Tryz.ntmps29
  go_wp2_with (go_at_call 44; refine hx.mono ?_; rintro _ w1 ⟨v, rfl, hv, hb1⟩; obtain ⟨i, p, rfl⟩ := hv.form)
  go_ret2
  exact ⟨_, rfl, hv.low hA.size, bt hA hb1 (Nat.le_refl _)⟩
end Go.Proofs.YtodipcgilgigbaaGreatDoor.V
