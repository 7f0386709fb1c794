/- The walks of nat's norm, set, setBytes. -/
import Derived.Test.YtodipcgilgigbaaGreatDoorV1
import Derived.Deep.LoopGhost
import Derived.Lib.Hide
import Derived.Deep.DeepCutAuto
set_option linter.unusedVariables false
namespace Go.Proofs.YtodipcgilgigbaaGreatDoor.V
open Go Go.RowKit Go.Proofs.YtodipcgilgigbaaGreatDoor.I
set_option maxRecDepth 100000 in
theorem norm_row (g cap : Nat) (xs : List Int) (hl : xs.length ≤ 1000) (w : World) (h : Row w g cap xs) : Calls Tryz.prog 95 #[.slice (some ⟨g, 0, none⟩) xs.length cap] w fun e w' => ∃ j : Nat, e = .returned (.slice (some ⟨g, 0, none⟩) j cap) ∧ w' = w ∧ j ≤ xs.length ∧ (∀ d ∈ xs.drop j, d = 0) ∧ (0 < j → xs.getD (j - 1) 0 ≠ 0) := by
  have hcap : xs.length ≤ cap := by obtain ⟨_, _, _, h2, _⟩ := h; exact h2
  go_enter Tryz.func95, Tryz.ntmps95
  go_wp2_with fail
  go_loop [3] (fun t => ∃ k : Nat, k ≤ xs.length ∧ t = .int .i64 k ∧ ∀ d ∈ xs.drop k, d = 0) (fun t => (intOf t).toNat)
  case atStart => exact ⟨xs.length, Nat.le_refl _, rfl, fun d hd => by simp at hd⟩
  case round =>
    obtain ⟨k, hk, rfl, hz⟩ := hrel
    have HZ := Lib.hid hz
    clear hz
    rcases Nat.eq_zero_or_pos k with rfl | hk0
    · go_wp2_with fail
      go_ret
      exact ⟨0, rfl, rfl, Nat.zero_le _, HZ.out, fun h => absurd h (by omega)⟩
    · have hx : xs[k - 1]? = some (xs.getD (k - 1) 0) := by simp [List.getD, List.getElem?_eq_getElem (show k - 1 < xs.length by omega)]
      have hc := h.cell hx
      have hk1 : (0 : Int) < k := by omega
      have hk2 : (0 : Int) ≤ (k : Int) - 1 := by omega
      have hk3 : (k : Int) - 1 < xs.length := by omega
      have hk4 : k ≤ cap := by omega
      by_cases hd : xs.getD (k - 1) 0 = 0
      · have hc' : w.cell? ⟨g, k - 1, none⟩ = some (.int .u64 0) := by rw [hc, hd]
        have HD := Lib.hid hd
        clear hd hc hx
        go_wp2_with fail
        go_round
        case rel =>
          refine ⟨k - 1, by omega, by go_num, fun d hd => ?_⟩
          have e : xs.drop (k - 1) = xs.getD (k - 1) 0 :: xs.drop k := by
            have hlt : k - 1 < xs.length := by omega
            rw [List.drop_eq_getElem_cons hlt, show k - 1 + 1 = k by omega]
            simp [List.getD, List.getElem?_eq_getElem hlt]
          rw [e] at hd
          rcases List.mem_cons.1 hd with rfl | hd
          · exact HD.out
          · exact HZ.out d hd
        case measure => simp [intOf]; omega
      · have hb1 : (xs.getD (k - 1) 0 == 0) = false := by rw [beq_eq_false_iff_ne]; exact hd
        have HD := Lib.hid hd
        clear hx hd
        generalize hzz : xs.getD (k - 1) 0 = z at hc hb1
        have HG := Lib.hid hzz
        clear hzz
        go_wp2_with fail
        go_ret
        exact ⟨k, rfl, rfl, hk, HZ.out, fun _ => HD.out⟩
end Go.Proofs.YtodipcgilgigbaaGreatDoor.V
