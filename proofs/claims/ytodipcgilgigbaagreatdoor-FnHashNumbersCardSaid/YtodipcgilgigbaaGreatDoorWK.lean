/- The printed words that the contracts of spec's Int lean on, taken out of the words that the kit printed for this seat. -/
import Derived.Test.YtodipcgilgigbaaGreatDoorWWords
import Derived.Test.YtodipcgilgigbaaGreatDoorWLast
import Derived.Test.YtodipcgilgigbaaGreatDoorWTab
namespace Go.Proofs.YtodipcgilgigbaaGreatDoorW.PrintMore
open Go.RowKit Go.Proofs.YtodipcgilgigbaaGreatDoorW.PrintWords
theorem max2_int (k k' : IntKind) (x y : Int) : Builtin.max2 (.int k x) (.int k' y) = pure (.int k (if x < y then y else x)) := by simp only [Builtin.max2, gt_iff_lt]
theorem min2_int (k k' : IntKind) (x y : Int) : Builtin.min2 (.int k x) (.int k' y) = pure (.int k (if y < x then y else x)) := by simp only [Builtin.min2]
theorem max_two (ats : Array TypeId) (ty : TypeId) (a b : Value) : Builtin.max_ ats ty #[a, b] = (Builtin.max2 a b >>= fun s => pure s) := by simp only [Builtin.max_, List.foldlM_cons, List.foldlM_nil]
theorem min_two (ats : Array TypeId) (ty : TypeId) (a b : Value) : Builtin.min_ ats ty #[a, b] = (Builtin.min2 a b >>= fun s => pure s) := by simp only [Builtin.min_, List.foldlM_cons, List.foldlM_nil]
theorem max_three (ats : Array TypeId) (ty : TypeId) (a b c : Value) : Builtin.max_ ats ty #[a, b, c] = (Builtin.max2 a b >>= fun s => Builtin.max2 s c >>= fun s => pure s) := by simp only [Builtin.max_, List.foldlM_cons, List.foldlM_nil]
theorem min_three (ats : Array TypeId) (ty : TypeId) (a b c : Value) : Builtin.min_ ats ty #[a, b, c] = (Builtin.min2 a b >>= fun s => Builtin.min2 s c >>= fun s => pure s) := by simp only [Builtin.min_, List.foldlM_cons, List.foldlM_nil]
theorem max_four (ats : Array TypeId) (ty : TypeId) (a b c d : Value) : Builtin.max_ ats ty #[a, b, c, d] = (Builtin.max2 a b >>= fun s => Builtin.max2 s c >>= fun s => Builtin.max2 s d >>= fun s => pure s) := by simp only [Builtin.max_, List.foldlM_cons, List.foldlM_nil]
theorem min_four (ats : Array TypeId) (ty : TypeId) (a b c d : Value) : Builtin.min_ ats ty #[a, b, c, d] = (Builtin.min2 a b >>= fun s => Builtin.min2 s c >>= fun s => Builtin.min2 s d >>= fun s => pure s) := by simp only [Builtin.min_, List.foldlM_cons, List.foldlM_nil]
namespace Kd
open Go.Proofs.YtodipcgilgigbaaGreatDoorW.PrintWords.Kd
section
variable {α : Type} {d : Kd α} {e base g N : Nat} {ok : Nat → Prop} {W w1 : World} {u v : Value} {xs : List α}
theorem R_old (hu : d.R e W base ok u xs) (hb : Below W.heap.size W w1) : d.R e w1 base (fun k => ok k ∧ k < W.heap.size) u xs :=
  R_mono (R_below (R_bound hu) hb) (fun _ h => ⟨h.1, h.2.2.1⟩)
theorem R_told (h : d.R e w1 base (fun k => ok k ∧ k < N) u xs) (hbase : ∀ k, v.ownBlock = some k → N ≤ k) : d.R e w1 base (fun k => (ok k ∧ some k ≠ v.ownBlock) ∧ k < N) u xs :=
  R_mono h (fun k hk => ⟨⟨hk.1, fun e => Nat.lt_irrefl _ (Nat.lt_of_lt_of_le hk.2 (hbase k e.symm))⟩, hk.2⟩)
end
end Kd
end Go.Proofs.YtodipcgilgigbaaGreatDoorW.PrintMore
namespace Go.Proofs.YtodipcgilgigbaaGreatDoorW.PrintWords
open Go.RowKit
section
variable {P : Program} {ops : Array Oper} {rest : List Oper} {o : Oper} {a : Act} {Q : Exit → Act → World → Prop} {W : World}
theorem gate_callee {f : FuncId} {as : Array Operand} {ts : Array TypeId} (_ho : o.op = .call { callee := .value (.func f), args := as, argTypes := ts }) (h : wpList P ops Q (o :: rest) a W) : wpList P ops Q (o :: rest) a W := h
theorem gate_builtin {b : Builtin} {xs : Array Operand} {ts : Array TypeId} (_ho : o.op = .call { callee := .builtin b, args := xs, argTypes := ts }) (h : wpList P ops Q (o :: rest) a W) : wpList P ops Q (o :: rest) a W := h
theorem gate_guard (hw : Region.wanted o (yielded ops a.tmps) = true) (h : wpList P ops Q ({ o with guard := none } :: rest) a W) : wpList P ops Q (o :: rest) a W := by
  have h1 : Region.wanted { o with guard := none } (yielded ops a.tmps) = true := rfl
  unfold wpList at h ⊢
  rw [if_pos h1] at h
  rw [if_pos hw]
  exact h
end
theorem calls_of_args {P : Program} {f : FuncId} {args args' : Array Value} {w : World} {Q : Ending → World → Prop} (h : args = args') (hc : Calls P f args' w Q) : Calls P f args w Q := h ▸ hc
def mx (a b : Int) : Int := if a < b then b else a
def mn (a b : Int) : Int := if b < a then b else a
def shl (k : IntKind) (x y : Int) : Int := k.wrap (x * 2 ^ min y.toNat k.bits)
def shr (k : IntKind) (x y : Int) : Int := x / 2 ^ min y.toNat k.bits
theorem shl_small {k : IntKind} {x y j : Int} (h : shl k x y = j) (hy : y ≤ k.bits) : k.wrap (x * 2 ^ y.toNat) = j := by rw [← h]; unfold shl; rw [Nat.min_eq_left (by omega)]
theorem shr_small {k : IntKind} {x y j : Int} (h : shr k x y = j) (hy : y ≤ k.bits) : x / 2 ^ y.toNat = j := by rw [← h]; unfold shr; rw [Nat.min_eq_left (by omega)]
theorem drewN_self (w : World) (n : Nat) : w.drewN n = w.drewN n := rfl
section
variable {w w' u : World} {m B g : Nat} {o : Obj} {row : Option Nat} {S : Nat → Prop} {a : Addr} {v : Value}
theorem below_at (hq : w.drewN m = w') (h : Below B u w) : Below B u w' := by subst hq; exact pw_below_drewN h m
theorem blk_at (hq : w.drewN m = w') (h : w.heap[g]? = some o) : w'.heap[g]? = some o := by subst hq; exact h
end
namespace Kd
section
variable {α : Type} {d : Kd α} {e base n m : Nat} {ok : Nat → Prop} {w w' : World} {v : Value} {A : Option Addr} {xs : List α}
theorem R_at (hq : w.drewN m = w') (h : d.R e w base ok v xs) : d.R e w' base ok v xs := by subst hq; exact R_drewN h m
end
end Kd
theorem Reps.one {α : Type} {R : α → List Value → Prop} {ps : List α} {cs : List Value} {p : α} {v : Value} (hp : R p [v]) (h : Reps R 1 ps cs) : Reps R 1 (p :: ps) (v :: cs) := by
  refine ⟨by simp [h.1], fun j q hq => ?_⟩
  cases j with
  | zero =>
    simp only [List.getElem?_cons_zero, Option.some.injEq] at hq
    subst hq
    simpa using hp
  | succ j =>
    simp only [List.getElem?_cons_succ] at hq
    have h1 := h.2 j q hq
    simpa [Nat.mul_one] using h1
end Go.Proofs.YtodipcgilgigbaaGreatDoorW.PrintWords
