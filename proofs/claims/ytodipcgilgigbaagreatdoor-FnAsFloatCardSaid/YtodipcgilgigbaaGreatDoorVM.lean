/- A law's whole: the number on both sides. -/
import Derived.Test.YtodipcgilgigbaaGreatDoorV5
import Derived.Test.YtodipcgilgigbaaGreatDoorS2
import Derived.Test.YtodipcgilgigbaaGreatDoorCT
set_option linter.unusedVariables false
namespace Go.Proofs.YtodipcgilgigbaaGreatDoor.V
open Go Go.RowKit Go.Proofs.YtodipcgilgigbaaGreatDoor.I Go.Proofs.YtodipcgilgigbaaGreatDoorW.PrintWords

theorem by_of {w : World} {base : Nat} {ok : Nat → Prop} {v : Value} {l : List Int} (h : Kd.R (Kd.int .u8) 5 w base ok v l) : ∃ A c, v = .slice A l.length c ∧ c ≤ 9223372036854775807 ∧ IsBy w v l := by
  have h' := h
  obtain ⟨h0, inner, ⟨hlen, hown⟩, hr⟩ := h
  rcases hown with ⟨rfl, hxs⟩ | ⟨g, cap, cur, rfl, hg, hh, hn, hc, hrest⟩
  · have hl0 : l = [] := List.eq_nil_of_length_eq_zero hxs
    subst hl0
    exact ⟨none, 0, rfl, by omega, .inl ⟨rfl, rfl⟩⟩
  · have hC := (Kd.R_reads' h').2.2
    refine ⟨_, _, rfl, hc, .inr ⟨g, cap, rfl, hn, fun i x hx => ?_⟩⟩
    have hi : i < l.length := (List.getElem?_eq_some_iff.1 hx).1
    obtain ⟨ad, had, hcl⟩ := Kd.at_int hC (i : Int) (by omega) (by omega)
    injection had with had
    subst had
    have e : rd l (i : Int) = x := by
      unfold rd
      rw [Int.toNat_natCast, List.getD_eq_getElem?_getD, hx]
      rfl
    rw [e] at hcl
    by_cases h0 : i = 0
    · subst h0
      simpa [Addr.add] using hcl
    · simpa [Addr.add, h0] using hcl
/-- What laws' whole gives: the number z, and the Val that holds it. -/
def Whl (w : World) (z : Int) (e : Ending) (w' : World) : Prop :=
  ∃ sv mA mc kA kn kc, e = .returned (.tuple #[sv, .agg #[.int .i64 2, .bool (decide (z < 0)), .slice mA (I.bytes z.natAbs).length mc, .int .u64 0, .string ⟨#[]⟩, .slice kA kn kc]]) ∧ IsI w' sv z ∧ mc ≤ 9223372036854775807 ∧ IsBy w' (.slice mA (I.bytes z.natAbs).length mc) (I.bytes z.natAbs) ∧ Below w.heap.size w w'
theorem lwhole_call (an : Bool) (A : Option Addr) (c : Nat) (l : List Int) (hm : Bytes l) (most : Nat) (hmost : most ≤ 1000) (w : World) (hr : Kd.C (Kd.int .u8) w A l.length l) (hc : l.length ≤ c) :
    Calls Tryz.prog 5 #[.bool an, .slice A l.length c, .int .i64 most] w (Whl w (if an then -(val (l.take most) : Int) else (val (l.take most) : Int))) := by
  obtain ⟨z, hz⟩ : ∃ z : Int, (if an then -(val (l.take most) : Int) else (val (l.take most) : Int)) = z := ⟨_, rfl⟩
  have e : laws_whole.f 1001 an l most = some ((ri z).1, (ri z).2, 2, (ri z).1, (ri z).2, 0, ⟨#[]⟩, []) := by
    unfold laws_whole.f laws_told.f
    have hmn : mn (l.length : Int) (most : Int) = ((min most l.length : Nat) : Int) := by
      show (if (most : Int) < (l.length : Int) then (most : Int) else (l.length : Int)) = _
      split <;> omega
    have htk : l.take (min most l.length) = l.take most := by
      rw [List.take_eq_take_iff]
      omega
    have hlt : (l.take most).length ≤ 1000 := by rw [List.length_take]; omega
    have hof : spec_Of.f 1001 an (l.take most) = some (ri z) := by
      rw [of_is an (l.take most) (fun d hd => hm d (List.mem_of_mem_take hd)) (by unfold cap; omega) 1001 (by omega), sg_ri, hz]
    have hrl : (ri z).2.length ≤ 1000 := by
      rw [ri_len, ← hz]
      have h1 := val_lt _ _ rfl (show Bytes (l.take most) from fun d hd => hm d (List.mem_of_mem_take hd))
      have : (if an then -(val (l.take most) : Int) else (val (l.take most) : Int)).natAbs = val (l.take most) := by cases an <;> simp
      rw [this]
      exact Nat.le_trans (len_le h1) hlt
    rw [hmn, if_pos (by omega), if_pos (by omega), Int.toNat_natCast, htk, hof, Option.bind_some, Option.bind_some, if_pos (by simp only [List.length_nil]; omega)]
    rfl
  rw [hz]
  refine (laws_whole.calls 1001 an A c l most _ _ _ _ _ _ _ _ w hr hc e).mono ?_
  rintro e w' ⟨v1, v4, v7, rfl, h1, h4, h7, hb⟩
  obtain ⟨A4, c4, rfl, hc4, hby⟩ := by_of h4
  obtain ⟨A7, c7, rfl⟩ := Kd.R_slice h7
  exact ⟨_, A4, c4, A7, _, c7, rfl, ⟨v1, rfl, _, Kd.R_mono h1 (fun _ _ => trivial)⟩, hc4, hby, hb⟩
end Go.Proofs.YtodipcgilgigbaaGreatDoor.V
