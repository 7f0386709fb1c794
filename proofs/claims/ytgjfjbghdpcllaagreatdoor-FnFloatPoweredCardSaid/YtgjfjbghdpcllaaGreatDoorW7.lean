/- The walk of fmtEFG at zero. -/
import Derived.Test.YtgjfjbghdpcllaaGreatDoorW5
namespace Go.Proofs.YtgjfjbghdpcllaaGreatDoor
open Go Go.RowKit U
attribute [local go_sem] mn2 mn_two
def Any (_ : World) : Prop := True
theorem keeps_any : Keeps Any := ⟨fun _ _ _ => trivial, fun _ _ _ => trivial, fun _ _ _ _ _ _ _ _ _ => trivial⟩
theorem txt_zero (neg : Bool) (c : Int) : txt neg 0 0 c = sgn neg ++ [48] ++ [46] ++ List.replicate 6 48 ++ [c] ++ [43] ++ [48, 48] := by
  cases neg <;> simp [txt, sgn, mant, dgt, expo, List.range_succ, List.replicate]
set_option maxHeartbeats 1000000 in
set_option maxRecDepth 100000 in
theorem fmtEFG_zero_e (neg : Bool) (B : Nat) (v : Value) (w0 w : World) (h : St B Any w0 w v []) :
    Calls Tryz.prog 59 #[v, .bool neg, .slice none 0 0, .int .i64 0, .int .i64 0, .int .i64 6, .int .u8 101, .bool false] w fun e w' => ∃ v', e = .returned v' ∧ St B Any w0 w' v' (txt neg 0 0 101) := by
  have hD := keeps_any
  go_enter Tryz.func59, Tryz.ntmps59
  go_upto_if 78 with fail
  go_cut [0] (fun s0 wx => St B Any w0 wx s0 (sgn neg))
  case first =>
    cases neg
    · go_wp2_with fail
      go_meet
      exact h
    · go_wp2_with (at_builtin; refine app_new hD h _ _ [45] rfl rfl rfl rfl (by simp) ?_; intro v1 w1 h1)
      go_meet
      exact h1
  case rest =>
    have hs := hcut
    have hl0 : (sgn neg).length ≤ 1 := by cases neg <;> decide
    clear hcut h
    go_upto_if 92 with (at_builtin; refine app_new hD hs _ _ [48] rfl rfl rfl rfl (by simp; omega) ?_; intro v1 w1 h1)
    clear hs
    go_cut [0, 20, 21] (fun s0 _ _ wx => St B Any w0 wx s0 (sgn neg ++ [48] ++ [46] ++ List.replicate 6 48))
    case first =>
      go_wp2_with (at_builtin; refine app_new hD h1 _ _ [46] rfl rfl rfl rfl (by simp; omega) ?_; intro v2 w2 h2)
      go_loopw [0, 114] (fun s0 s114 wr => ∃ j : Nat, s114 = .int .i64 j ∧ j ≤ 6 ∧ St B Any w0 wr s0 (sgn neg ++ [48] ++ [46] ++ List.replicate j 48)) (fun _ s114 _ => 7 - (intOf s114).toNat)
      case atStart => exact ⟨0, rfl, by omega, by simpa using h2⟩
      case round =>
        obtain ⟨j, rfl, hj, h4⟩ := hrel
        clear h2
        rcases Nat.lt_or_ge j 6 with hlt | hge
        · have hlt' : (j : Int) < 6 := by omega
          go_wp2_with (at_builtin; refine app_new hD h4 _ _ [48] rfl rfl rfl rfl (by simp; omega) ?_; intro v5 w5 h5)
          go_roundw
          case rel => exact ⟨j + 1, by go_num, by omega, by simpa [List.replicate_succ'] using h5⟩
          case measure => simp [intOf]; omega
        · obtain rfl : j = 6 := by omega
          go_wp2_with fail
          go_meet
          exact h4
    case rest =>
      have hq := hcut
      clear h1 hcut
      go_upto_block 3 with (first | (at_builtin; refine app_new hD hq _ _ [101] rfl rfl rfl rfl (by simp; omega) ?_; intro v6 w6 h6; clear hq) | (at_builtin; refine app_new hD h6 _ _ [43] rfl rfl rfl rfl (by simp; omega) ?_; intro v7 w7 h7; clear h6))
      go_wp2_with (at_builtin; refine app_new hD h7 _ _ [48, _] rfl rfl rfl rfl (by simp; omega) ?_; intro v8 w8 h8)
      go_ret
      exact ⟨_, rfl, by rw [txt_zero]; exact h8⟩
set_option maxHeartbeats 1000000 in
set_option maxRecDepth 100000 in
theorem fmtEFG_zero_E (neg : Bool) (B : Nat) (v : Value) (w0 w : World) (h : St B Any w0 w v []) :
    Calls Tryz.prog 59 #[v, .bool neg, .slice none 0 0, .int .i64 0, .int .i64 0, .int .i64 6, .int .u8 69, .bool false] w fun e w' => ∃ v', e = .returned v' ∧ St B Any w0 w' v' (txt neg 0 0 69) := by
  have hD := keeps_any
  go_enter Tryz.func59, Tryz.ntmps59
  go_upto_if 78 with fail
  go_cut [0] (fun s0 wx => St B Any w0 wx s0 (sgn neg))
  case first =>
    cases neg
    · go_wp2_with fail
      go_meet
      exact h
    · go_wp2_with (at_builtin; refine app_new hD h _ _ [45] rfl rfl rfl rfl (by simp) ?_; intro v1 w1 h1)
      go_meet
      exact h1
  case rest =>
    have hs := hcut
    have hl0 : (sgn neg).length ≤ 1 := by cases neg <;> decide
    clear hcut h
    go_upto_if 92 with (at_builtin; refine app_new hD hs _ _ [48] rfl rfl rfl rfl (by simp; omega) ?_; intro v1 w1 h1)
    clear hs
    go_cut [0, 20, 21] (fun s0 _ _ wx => St B Any w0 wx s0 (sgn neg ++ [48] ++ [46] ++ List.replicate 6 48))
    case first =>
      go_wp2_with (at_builtin; refine app_new hD h1 _ _ [46] rfl rfl rfl rfl (by simp; omega) ?_; intro v2 w2 h2)
      go_loopw [0, 114] (fun s0 s114 wr => ∃ j : Nat, s114 = .int .i64 j ∧ j ≤ 6 ∧ St B Any w0 wr s0 (sgn neg ++ [48] ++ [46] ++ List.replicate j 48)) (fun _ s114 _ => 7 - (intOf s114).toNat)
      case atStart => exact ⟨0, rfl, by omega, by simpa using h2⟩
      case round =>
        obtain ⟨j, rfl, hj, h4⟩ := hrel
        clear h2
        rcases Nat.lt_or_ge j 6 with hlt | hge
        · have hlt' : (j : Int) < 6 := by omega
          go_wp2_with (at_builtin; refine app_new hD h4 _ _ [48] rfl rfl rfl rfl (by simp; omega) ?_; intro v5 w5 h5)
          go_roundw
          case rel => exact ⟨j + 1, by go_num, by omega, by simpa [List.replicate_succ'] using h5⟩
          case measure => simp [intOf]; omega
        · obtain rfl : j = 6 := by omega
          go_wp2_with fail
          go_meet
          exact h4
    case rest =>
      have hq := hcut
      clear h1 hcut
      go_upto_block 3 with (first | (at_builtin; refine app_new hD hq _ _ [69] rfl rfl rfl rfl (by simp; omega) ?_; intro v6 w6 h6; clear hq) | (at_builtin; refine app_new hD h6 _ _ [43] rfl rfl rfl rfl (by simp; omega) ?_; intro v7 w7 h7; clear h6))
      go_wp2_with (at_builtin; refine app_new hD h7 _ _ [48, _] rfl rfl rfl rfl (by simp; omega) ?_; intro v8 w8 h8)
      go_ret
      exact ⟨_, rfl, by rw [txt_zero]; exact h8⟩
end Go.Proofs.YtgjfjbghdpcllaaGreatDoor
