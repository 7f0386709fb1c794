/- FnHashNumbers answers true at every input; its row and its tied card. No condition beyond the row's own cells. -/
import Derived.Test.YtodipcgilgigbaaGreatDoorTA
import Derived.Test.YtodipcgilgigbaaGreatDoorCards
import Derived.Test.YtodipcgilgigbaaGreatDoorTie
import Derived.ProofKit
import Derived.OpenShut
import Derived.OpenVars
import Derived.Carry
import Derived.Deep.DeepHandedRow
import Derived.Lay
set_option linter.unusedVariables false
namespace Go.Proofs.YtodipcgilgigbaaGreatDoor.V
open Go Go.ChangeShapes Go.WideShapes Go.ChangeAt Go.RowKit Go.Proofs.YtodipcgilgigbaaGreatDoor.I Go.Proofs.YtodipcgilgigbaaGreatDoorW.PrintWords

theorem own : ownKnob Tryz.prog.godebug = none := by kernel_rfl
theorem laidOut : laidOutB Tryz.prog = true := by kernel_rfl
theorem c_of {w : World} {a : Addr} {zs : List Int} {n : Nat} (hn : n ≤ zs.length) (hmax : n ≤ 9223372036854775807) (hc : ∀ i, i < zs.length → w.cell? (a.add i) = some (.int .u8 (zs.getD i 0))) : Kd.C (Kd.int .u8) w (some a) n (zs.take n) := by
  have hl : (zs.take n).length = n := by rw [List.length_take]; omega
  refine ⟨hl, hmax, fun _ => ⟨a, rfl, fun j p hp => ⟨[.int .u8 p], rfl, rfl, fun i u hu => ?_⟩⟩⟩
  have hj : j < n := by have := (List.getElem?_eq_some_iff.1 hp).1; omega
  have hp2 : zs[j]? = some p := by rw [List.getElem?_take_of_lt hj] at hp; exact hp
  have hi : i = 0 := by have := (List.getElem?_eq_some_iff.1 hu).1; simp at this; omega
  subst hi
  have hu2 : (Value.int .u8 p) = u := by simpa using hu
  subst hu2
  have := hc j (by omega)
  rw [List.getD_eq_getElem?_getD, hp2] at this
  show w.cell? (a.add (j * 1 + 0)) = _
  rw [Nat.mul_one, Nat.add_zero]
  exact this
theorem c_none (w : World) : Kd.C (Kd.int .u8) w none 0 [] := ⟨rfl, by omega, fun h => by omega⟩

set_option maxRecDepth 100000 in
theorem contract (H : Type) (enc : TypeId × Value → H) (W : World) (base : Nat) (args : Array Value) (ds gs : List (DataW H)) (before : List MemPlace)
    (hval : ∀ (j : Nat) t v, Tryz.f3.params[j]? = some t → args[j]? = some v → Value.okWide Tryz.prog W .any base t v)
    (hW : DataW.Whole enc Tryz.prog Tryz.f3.params.toList Rows.fnHashNumbersSpec.vars false W args.toList ds gs before) :
    Calls Tryz.prog 3 args W fun e W' => ∃ v, e = .returned v ∧ Rows.fnHashNumbersSpec.post enc Tryz.prog Tryz.f3 false true false false W args v W' := by
  have hW' := hW
  obtain ⟨p, q, hA0, hV, rfl, hfz, hnd⟩ := hW
  have hA : DataW.TrodAll enc Tryz.prog W 0 (fun _ => true) true Tryz.f3.params.toList args.toList ds p := hA0
  rw [Tryz.params3] at hA hval
  obtain ⟨v0, vs0, d0, ds0, p0, q0, hargs, rfl, rfl, h0, r0⟩ := trodAll_cons hA
  obtain ⟨v2, vs2, d2, ds2, p2, q2, rfl, rfl, rfl, h2, r2⟩ := trodAll_cons r0
  obtain ⟨rfl, rfl, rfl⟩ := trodAll_nil r2
  obtain rfl : args = #[v0, v2] := by cases args; simp_all
  have h2k := h2
  obtain ⟨an, rfl, rfl, rfl⟩ := open_bool Tryz.underlying4 (hval 0 4 v0 rfl rfl) h0
  have hlt : ∀ x ∈ p2, x.block < W.heap.size := fun x hx => by simpa using hW'.lt x (by simp [hx])
  have hargs2 : ∀ (W' : World), Below W.heap.size W W' → DataW.Trod enc Tryz.prog W' 0 (fun b => decide (b < W.heap.size)) true 22 v2 d2 p2 :=
    fun W' hn => Below.trod laidOut (by kernel_rfl) (of_decide_eq_true (by kernel_rfl)) h2k hn hlt
  clear hA0
  have hV0 := hV
  have hk : ∃ A c l, v2 = .slice A l.length c ∧ Bytes l ∧ Kd.C (Kd.int .u8) W A l.length l ∧ l.length ≤ c ∧ l.length ≤ 9223372036854775807 := by
    obtain ⟨a0, len, cap, rfl⟩ := okWide_slice Tryz.underlying22 (hval 1 22 v2 rfl rfl)
    obtain ⟨fuel, hf⟩ := h2
    rcases open_ints Tryz.underlying22 Tryz.underlying5 (by kernel_rfl) hf with ⟨hcs, hx⟩ | ⟨a, len', cap', zs, hcs, _, hl, hm, hz, hx, hcell, hwz⟩
    · simp [Value.cells] at hcs
      obtain ⟨rfl, rfl, rfl⟩ := hcs
      exact ⟨none, 0, [], rfl, fun d hd => by simp at hd, c_none W, by simp, by simp⟩
    · simp [Value.cells] at hcs
      obtain ⟨rfl, rfl, rfl⟩ := hcs
      simp only [if_true] at hz
      have hll : (zs.take len).length = len := by rw [List.length_take]; omega
      refine ⟨some a, cap, zs.take len, by rw [hll], fun d hd => ?_, by rw [hll]; exact c_of (by omega) (by unfold maxLen at hm; omega) hcell, by omega, by unfold maxLen at hm; omega⟩
      have := bounds_u8 (hwz d (List.mem_of_mem_take hd))
      exact ⟨by omega, by omega⟩
  obtain ⟨A, c, l, rfl, hm, hr, hc, hn⟩ := hk
  refine (law an A c l hm W hr hc hn).mono fun e W' ⟨he, hb⟩ => ?_
  subst he
  match gs, hV with
  | [g1, g2, g3, g4, g5], hV =>
    exact ⟨_, rfl, _, _, _, [], _, _, hW', trodAll_cons_mk (shut_bool Tryz.underlying4 _) trodAll_mk0, trodAll_cons_mk (shut_bool Tryz.underlying4 _) (trodAll_cons_mk (hargs2 W' hb) trodAll_mk0), hb.trodVars laidOut (by kernel_rfl) hV0, World.keptBut_mono (fun _ h => h.elim) (hb.frame (fun _ => False)), fun h => by cases h⟩

noncomputable def start (os : Os) : World := World.laidAll Tryz.prog os Rows.fnHashNumbersRow.laid
theorem laid_met (os : Os) : laidMet Tryz.prog Rows.fnHashNumbersRow.laid ((start os).forCall (fun _ _ => 0) ⟨#[], #[.bool false, .slice none 0 0], []⟩).memory :=
  laidMet_laidAll _ (by kernel_rfl) (by kernel_rfl)
theorem reads (os : Os) {H : Type} (enc : TypeId × Value → H) : DataW.whole enc Tryz.prog ((start os).forCall (fun _ _ => 0) ⟨#[], #[.bool false, .slice none 0 0], []⟩).memory Tryz.f3.params.toList Rows.fnHashNumbersSpec.vars false #[Value.bool false, .slice none 0 0].toList 8 =
    some ([.lit (.bool false), .nil], [.lit (.int .i64 10), .lit (.int .i64 40), .lit (.int .i64 40), .lit (.int .i64 12), .lit (.int .i64 80)], [.cell 1 0, .cell 3 0, .cell 2 0, .cell 4 0, .cell 5 0]) := by kernel_rfl

set_option maxRecDepth 100000 in
theorem lifted (os : Os) (started : os.Started) (H : Type) (enc : TypeId × Value → H) (F : Stop.Interp) :
    ReturnsInHanded {} Tryz.checked os 3 .any ((OpenSpec.ofChange Rows.fnHashNumbersSpec).preRow enc Tryz.prog Tryz.f3 Rows.fnHashNumbersRow.domain false Rows.fnHashNumbersRow.laid) (((OpenSpec.ofChange Rows.fnHashNumbersSpec).at F).post enc Tryz.prog Tryz.f3 false true false false) := by
  refine returnsInHanded_of_row (C := Tryz.checked) (s := OpenSpec.ofChange Rows.fnHashNumbersSpec) own started (by kernel_rfl) Tryz.func3
    (witness_row_at (enc := enc) (C := Tryz.checked) false (start os) #[.bool false, .slice none 0 0] (World.laidAll_os _ _ _) (by kernel_rfl) (by kernel_rfl) (by kernel_rfl)
      (OpenSpec.preRow_of_cond 8 (reads os enc) (by kernel_rfl) (fun k hk => by cases hk) (by kernel_rfl) (laid_met os))) ?_
  intro W base args ds gs before hval hW _ _ _ _ _ _
  exact contract H enc W base args ds gs before hval hW

theorem said : Rows.FnHashNumbersSaid :=
  OpenClaim.holds_of_cond 3 Tryz.f3 rfl rfl rfl rfl rfl rfl rfl ⟨rfl, rfl, rfl, rfl, rfl⟩ rfl rfl rfl rfl rfl (by kernel_rfl) Tryz.func3 (by kernel_rfl)
    (of_decide_eq_true (by kernel_rfl)) (by unfold Func.isWrapper; rw [if_neg (of_decide_eq_false (by kernel_rfl))]; exact ⟨rfl, rfl⟩)
    (fun os started H enc _ F => by rw [OpenClaim.pre_eq_preRow]; exact lifted os started H enc F)

theorem plain (f : FuncId) (fn : Func) (hf : Tryz.pinned.checked.prog.funcNamed "given.example/pub-larkspur/laws.FnHashNumbers" = some f) (hfn : Tryz.pinned.checked.prog.funcs[f]? = some fn) :
    true = Tryz.pinned.checked.prog.looks [] ∧ ∀ (j : Nat) t, fn.params[j]? = some t → Tryz.pinned.checked.prog.wantsStandIn t = false := by
  obtain rfl : f = 3 := Option.some.inj ((show Tryz.prog.funcNamed "given.example/pub-larkspur/laws.FnHashNumbers" = some 3 by kernel_rfl).symm.trans hf) |>.symm
  obtain rfl : fn = Tryz.f3 := (Option.some.inj (Tryz.func3.symm.trans hfn)).symm
  refine ⟨by kernel_rfl, fun j t ht => ?_⟩
  rw [Tryz.params3] at ht
  have hm : t ∈ [4, 22] := by simpa using Array.mem_of_getElem? ht
  have hall : ([4, 22].all fun u => !Tryz.prog.wantsStandIn u) = true := by kernel_rfl
  exact (show Tryz.prog.wantsStandIn t = false by simpa using List.all_eq_true.1 hall t hm)

theorem card : Rows.FnHashNumbersCardSaid :=
  Claim7.holds_tied_plain_at .later [] _ _ _ _ said (fun _ h => by cases h) (by kernel_rfl) (fun _ h => by cases h) fnHashNumbers_row_tie rfl ⟨rfl, rfl⟩ (by kernel_rfl) rfl plain (by kernel_rfl)
#print axioms card
end Go.Proofs.YtodipcgilgigbaaGreatDoor.V
