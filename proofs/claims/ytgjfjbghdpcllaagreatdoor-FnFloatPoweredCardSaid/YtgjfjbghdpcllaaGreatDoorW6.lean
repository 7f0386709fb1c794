/- The walk of fmtEFG at the conversion E: the twin of e. -/
import Derived.Test.YtgjfjbghdpcllaaGreatDoorW5
namespace Go.Proofs.YtgjfjbghdpcllaaGreatDoor
open Go Go.RowKit U
attribute [local go_sem] mn2 mn_two
set_option maxHeartbeats 1000000 in
set_option maxRecDepth 100000 in
theorem fmtEFG_E (neg : Bool) (d g nd : Nat) (T : TypeId) (hT : T ≠ 5) (X : Int) (hX0 : -400 ≤ X) (hX1 : X ≤ 400) (B : Nat) (v : Value) (w0 w : World)
    (h : St B (Buf d g T) w0 w v []) (hn1 : 1 ≤ nd) (hn7 : nd ≤ 7) (hz : ∀ i, nd ≤ i → i < 7 → dgt d i = 0) :
    Calls Tryz.prog 59 #[v, .bool neg, .slice (some ⟨g, 0, none⟩) 24 24, .int .i64 (X + 1), .int .i64 nd, .int .i64 6, .int .u8 69, .bool false] w fun e w' => ∃ v', e = .returned v' ∧ St B (Buf d g T) w0 w' v' (txt neg d X 69) := by
  have hD := keeps_buf d g T hT
  have HT := Lib.hid hT
  have HZ := Lib.hid hz
  have hnn : (nd == 0) = false := by simp; omega
  have hni : ((nd : Int) != 0) = true := by simp; omega
  clear hT hz
  go_enter Tryz.func59, Tryz.ntmps59
  go_upto_if 78 with fail
  go_cut [0] (fun s0 wx => St B (Buf d g T) w0 wx s0 (sgn neg))
  case first =>
    cases neg
    · go_wp2_with fail
      go_meet
      exact h
    · go_wp2_with (at_builtin; refine app_new hD h _ _ [45] rfl rfl rfl rfl (by simp) ?_; intro v1 w1 h1)
      go_meet
      exact h1
  case rest =>
    have hs := hcut
    have hc0 := hs.dig.cell 0 (by omega)
    have hl0 : (sgn neg).length ≤ 1 := by cases neg <;> decide
    generalize hz0 : ((48 + dgt d 0 : Nat) : Int) = z0 at hc0
    have HZ0 := Lib.hid hz0
    clear hz0 hcut h
    go_upto_if 92 with (at_builtin; refine app_new hD hs _ _ [z0] rfl rfl rfl rfl (by simp; omega) ?_; intro v1 w1 h1)
    clear hs hc0
    go_cut [0, 20, 21] (fun s0 _ _ wx => St B (Buf d g T) w0 wx s0 (sgn neg ++ mant d))
    case first =>
      have hmin : ¬ (7 < nd) := by omega
      go_upto_if 102 with (at_builtin; refine app_new hD h1 _ _ [46] rfl rfl rfl rfl (by simp; omega) ?_; intro v2 w2 h2)
      clear h1
      go_cut [0, 20] (fun s0 s20 wx => s20 = .int .i64 nd ∧ St B (Buf d g T) w0 wx s0 (sgn neg ++ [z0] ++ [46] ++ part d nd))
      case first =>
        rcases Nat.lt_or_ge nd 2 with hn | hn
        · obtain rfl : nd = 1 := by omega
          go_wp2_with fail
          go_meet
          exact ⟨rfl, by simpa [part] using h2⟩
        · have hn' : (1 : Int) < nd := by omega
          have hn7' : (nd : Int) ≤ 24 := by omega
          have hc := fun i hi => h2.dig.cell (i + 1) hi
          go_wp2_with (at_builtin; refine app_old hD h2 _ _ (part d nd) g 1 (nd - 1) 23 (part_len d nd) rfl rfl rfl ?hx ?hn ?hnews ?_)
          case hx => rfl
          case hn => simp [part_len]; omega
          case hnews =>
            intro j b hb
            unfold part at hb
            simp only [List.getElem?_map, Option.map_eq_some_iff] at hb
            obtain ⟨i, hi, rfl⟩ := hb
            obtain ⟨hj, rfl⟩ := List.getElem?_eq_some_iff.1 hi
            simp only [List.getElem_range, List.length_range] at hj ⊢
            rw [Nat.add_comm 1 j]
            exact hc j (by omega)
          intro v3 w3 h3
          clear hc
          go_wp2_with fail
          go_meet
          exact ⟨rfl, by simpa using h3⟩
      case rest =>
        obtain ⟨rfl, h3⟩ := hcut
        clear h2 hmin
        have hn7' : (nd : Int) ≤ 7 := by omega
        go_wp2_with fail
        go_loopw [0, 114] (fun s0 s114 wr => ∃ j : Nat, s114 = .int .i64 j ∧ nd + j ≤ 7 ∧ St B (Buf d g T) w0 wr s0 (sgn neg ++ [z0] ++ [46] ++ part d nd ++ List.replicate j 48)) (fun _ s114 _ => 7 - (intOf s114).toNat)
        case atStart => exact ⟨0, rfl, by omega, by simpa using h3⟩
        case round =>
          obtain ⟨j, rfl, hj, h4⟩ := hrel
          clear h3
          rcases Nat.lt_or_ge (nd + j) 7 with hlt | hge
          · have hlt' : (j : Int) < 7 - nd := by omega
            go_wp2_with (at_builtin; refine app_new hD h4 _ _ [48] rfl rfl rfl rfl (by simp [part_len]; omega) ?_; intro v5 w5 h5)
            go_roundw
            case rel => exact ⟨j + 1, by go_num, by omega, by simpa [List.replicate_succ'] using h5⟩
            case measure => simp [intOf]; omega
          · have hge' : ¬ ((j : Int) < 7 - nd) := by omega
            go_wp2_with fail
            go_meet
            rw [← mant_split d nd hn1 hn7 HZ.out z0 HZ0.out, show 7 - nd = j by omega]
            simpa using h4
    case rest =>
      have hq := hcut
      have hml : (mant d).length = 8 := by simp [mant]
      clear h1 hcut
      rcases Int.lt_or_le X 0 with hs | hs
      · obtain ⟨e, rfl⟩ : ∃ e : Nat, X = -(e : Int) := ⟨X.natAbs, by omega⟩
        have hX : -(e : Int) + 1 - 1 = -(e : Int) := by omega
        have he : (0 : Int) < e := by omega
        have he1 : (e : Int) ≤ 400 := by omega
        clear hs hX0 hX1
        go_upto_block 3 with (first | (at_builtin; refine app_new hD hq _ _ [69] rfl rfl rfl rfl (by simp; omega) ?_; intro v6 w6 h6; clear hq) | (at_builtin; refine app_new hD h6 _ _ [45] rfl rfl rfl rfl (by simp; omega) ?_; intro v7 w7 h7; clear h6))
        rcases Nat.lt_or_ge e 10 with h10 | h10
        · have h10' : (e : Int) < 10 := by omega
          go_wp2_with (at_builtin; refine app_new hD h7 _ _ [48, _] rfl rfl rfl rfl (by simp; omega) ?_; intro v8 w8 h8)
          go_ret
          exact ⟨_, rfl, by rw [txt_neg_1 neg d e 69 h10 (by omega)]; exact h8⟩
        · have h10' : ¬ ((e : Int) < 10) := by omega
          rcases Nat.lt_or_ge e 100 with h100 | h100
          · have h100' : (e : Int) < 100 := by omega
            go_wp2_with (at_builtin; refine app_new hD h7 _ _ [_, _] rfl rfl rfl rfl (by simp; omega) ?_; intro v8 w8 h8)
            go_ret
            exact ⟨_, rfl, by rw [txt_neg_2 neg d e 69 h10 h100 (by omega)]; exact h8⟩
          · have h100' : ¬ ((e : Int) < 100) := by omega
            go_wp2_with (at_builtin; refine app_new hD h7 _ _ [_, _, _] rfl rfl rfl rfl (by simp; omega) ?_; intro v8 w8 h8)
            go_ret
            exact ⟨_, rfl, by rw [txt_neg_3 neg d e 69 h100 (by omega)]; exact h8⟩
      · obtain ⟨e, rfl⟩ : ∃ e : Nat, X = (e : Int) := ⟨X.natAbs, by omega⟩
        have hX : (e : Int) + 1 - 1 = (e : Int) := by omega
        have he1 : (e : Int) ≤ 400 := by omega
        clear hs hX0 hX1
        go_upto_block 3 with (first | (at_builtin; refine app_new hD hq _ _ [69] rfl rfl rfl rfl (by simp; omega) ?_; intro v6 w6 h6; clear hq) | (at_builtin; refine app_new hD h6 _ _ [43] rfl rfl rfl rfl (by simp; omega) ?_; intro v7 w7 h7; clear h6))
        rcases Nat.lt_or_ge e 10 with h10 | h10
        · have h10' : (e : Int) < 10 := by omega
          go_wp2_with (at_builtin; refine app_new hD h7 _ _ [48, _] rfl rfl rfl rfl (by simp; omega) ?_; intro v8 w8 h8)
          go_ret
          exact ⟨_, rfl, by rw [txt_pos_1 neg d e 69 h10]; exact h8⟩
        · have h10' : ¬ ((e : Int) < 10) := by omega
          rcases Nat.lt_or_ge e 100 with h100 | h100
          · have h100' : (e : Int) < 100 := by omega
            go_wp2_with (at_builtin; refine app_new hD h7 _ _ [_, _] rfl rfl rfl rfl (by simp; omega) ?_; intro v8 w8 h8)
            go_ret
            exact ⟨_, rfl, by rw [txt_pos_2 neg d e 69 h10 h100]; exact h8⟩
          · have h100' : ¬ ((e : Int) < 100) := by omega
            go_wp2_with (at_builtin; refine app_new hD h7 _ _ [_, _, _] rfl rfl rfl rfl (by simp; omega) ?_; intro v8 w8 h8)
            go_ret
            exact ⟨_, rfl, by rw [txt_pos_3 neg d e 69 h100]; exact h8⟩
end Go.Proofs.YtgjfjbghdpcllaaGreatDoor
