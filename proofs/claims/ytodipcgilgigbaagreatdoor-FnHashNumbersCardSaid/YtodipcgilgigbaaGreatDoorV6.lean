/- nat's setBytes. -/
import Derived.Test.YtodipcgilgigbaaGreatDoorV5
import Derived.IntWalk
set_option linter.unusedVariables false
namespace Go.Proofs.YtodipcgilgigbaaGreatDoor.V
open Go Go.RowKit Go.Proofs.YtodipcgilgigbaaGreatDoor.I

theorem bt {B : Nat} {w w' w'' : World} (h : Below B w w') (b : Below w'.heap.size w' w'') (e : B ≤ w.heap.size) : Below B w w'' := h.trans (b.mono (Nat.le_trans e h.size))
/-- What has been filled in. -/
def filled (m : List Int) (n j : Nat) : List Int := low8 m j ++ List.replicate (n - j) 0
theorem filled_zero (m : List Int) (n : Nat) : filled m n 0 = List.replicate n 0 := by simp [filled, low8]
theorem filled_step (m : List Int) (n j : Nat) (hj : j < n) : (filled m n j).set j ((val ((m.drop (m.length - 8 * (j + 1))).take 8) : Nat) : Int) = filled m n (j + 1) := by
  unfold filled
  obtain ⟨d, hd⟩ : ∃ d, n - j = d + 1 := ⟨n - j - 1, by omega⟩
  rw [hd, show n - (j + 1) = d by omega, List.replicate_succ, low8]
  rw [List.set_append, low8_length, if_neg (by omega)]
  simp
theorem filled_last (m : List Int) (h : m.length % 8 ≠ 0) : (filled m ((m.length + 7) / 8) (m.length / 8)).set ((m.length + 7) / 8 - 1) ((val (m.take (m.length % 8)) : Nat) : Int) = raw m := by
  unfold filled raw
  rw [if_neg h, show (m.length + 7) / 8 - m.length / 8 = 1 by omega, List.set_append, low8_length, if_neg (by omega), show (m.length + 7) / 8 - 1 - m.length / 8 = 0 by omega]
  simp
theorem filled_whole (m : List Int) (h : m.length % 8 = 0) : filled m ((m.length + 7) / 8) (m.length / 8) = raw m := by
  unfold filled raw
  rw [if_pos h, show (m.length + 7) / 8 - m.length / 8 = 0 by omega]
  simp
/-- Words that norm leaves are the number's own. -/
theorem norm_words {xs : List Int} {j : Nat} (hw : Words xs) (hj : j ≤ xs.length) (hz : ∀ d ∈ xs.drop j, d = 0) (hl : 0 < j → xs.getD (j - 1) 0 ≠ 0) : xs.take j = words (wv xs) := by
  rw [← wv_take_zeros hz]
  refine (words_of (fun d hd => hw d (List.mem_of_mem_take hd)) fun d hd => ?_).symm
  by_cases h0 : j = 0
  · subst h0; simp at hd
  · have : (xs.take j).getLast? = some (xs.getD (j - 1) 0) := by
      rw [List.getLast?_eq_getElem?, List.length_take, Nat.min_eq_left hj, List.getElem?_take, if_pos (by omega)]
      simp [List.getD, List.getElem?_eq_getElem (show j - 1 < xs.length by omega)]
    rw [this] at hd
    cases hd
    exact hl (by omega)
theorem norm_is {xs : List Int} {j g cap : Nat} {w : World} (h : Row w g cap xs) (hw : Words xs) (hj : j ≤ xs.length) (hz : ∀ d ∈ xs.drop j, d = 0) (hl : 0 < j → xs.getD (j - 1) 0 ≠ 0) : IsW w (.slice (some ⟨g, 0, none⟩) j cap) (words (wv xs)) := by
  have e := norm_words hw hj hz hl
  refine .inr ⟨g, cap, ?_, ?_⟩
  · rw [← e, List.length_take, Nat.min_eq_left hj]
  · rw [← e]; exact h.take j
/-- A digit more. -/
theorem val_cons (d : Int) (l : List Int) : val (d :: l) = d.toNat * 256 ^ l.length + val l := by
  rw [show d :: l = [d] ++ l from rfl, val_append]; simp [val]
theorem shl_join (x y u : Nat) (hx : x < 256) (hu : u ≤ 7) (hy : y < 256 ^ u) : bits .or .u64 (y : Int) (IntKind.u64.wrap ((x : Int) * 2 ^ (8 * u))) = ((x * 256 ^ u + y : Nat) : Int) := by
  have e : (256 : Nat) ^ u = 2 ^ (8 * u) := by rw [show (256 : Nat) = 2 ^ 8 from rfl, Nat.pow_mul]
  rw [e] at hy ⊢
  have h1 : x * 2 ^ (8 * u) < 18446744073709551616 := by
    have h2 : (2 : Nat) ^ (8 * u) ≤ 2 ^ 56 := Nat.pow_le_pow_right (by omega) (by omega)
    have h3 : x * 2 ^ (8 * u) ≤ 255 * 2 ^ 56 := Nat.mul_le_mul (by omega) h2
    omega
  have h4 : y < 18446744073709551616 := Nat.lt_of_lt_of_le hy (show (2 : Nat) ^ (8 * u) ≤ 2 ^ 64 from Nat.pow_le_pow_right (by omega) (by omega))
  have e2 : (x : Int) * 2 ^ (8 * u) = ((x * 2 ^ (8 * u) : Nat) : Int) := by rw [Int.natCast_mul, Int.natCast_pow]; rfl
  rw [e2, IntWalk.u64_in _ (by omega), u64_or_nat y _ h4 h1, or_join (8 * u) y x _ rfl hy, Nat.add_comm]
set_option maxRecDepth 100000 in
theorem norm_none (w : World) : Calls Tryz.prog 95 #[.slice none 0 0] w fun e w' => e = .returned (.slice none 0 0) ∧ w = w' := by
  go_enter Tryz.func95, Tryz.ntmps95
  go_wp2_with fail
  go_loop [3] (fun t => t = .int .i64 0) (fun _ => 0)
  case atStart => exact rfl
  case round =>
    obtain rfl := hrel
    go_wp2_with fail
    go_ret
    exact ⟨rfl, rfl⟩
set_option maxRecDepth 100000 in
set_option maxHeartbeats 2000000 in
theorem setBytes_call (v : Value) (m : List Int) (hm : Bytes m) (hl : m.length ≤ 1000) (w : World) (h : IsBy w v m) (hcap : ∀ A n c, v = .slice A n c → c ≤ 9223372036854775807) : Calls Tryz.prog 78 #[.slice none 0 0, v] w fun e w' => ∃ v', e = .returned v' ∧ IsW w' v' (words (val m)) ∧ Below w.heap.size w w' ∧ From w.heap.size v' := by
  rcases h with ⟨rfl, rfl⟩ | ⟨g, c, rfl, hc, hr⟩
  · go_enter Tryz.func78, Tryz.ntmps78
    go_wp2_with (first | (go_at_call 89; refine (make_none _).mono ?_; rintro _ w1 ⟨rfl, rfl⟩) | (go_at_call 95; refine (norm_none _).mono ?_; rintro _ w1 ⟨rfl, rfl⟩))
    go_loop [5, 6] (fun i k => i = .int .i64 0 ∧ k = .int .i64 0) (fun _ _ => 0)
    case atStart => exact ⟨rfl, rfl⟩
    case round =>
      obtain ⟨rfl, rfl⟩ := hrel
      go_wp2_with (go_at_call 95; refine (norm_none _).mono ?_; rintro _ w1 ⟨rfl, rfl⟩)
      go_ret
      exact ⟨_, rfl, .inl ⟨rfl, by rw [show val [] = 0 from rfl, words_zero]⟩, Below.refl _ _, fun g n c e => by cases e⟩
  · have hc2 := hcap _ _ _ rfl
    obtain ⟨N, hN⟩ : ∃ N, (m.length + 7) / 8 = N := ⟨_, rfl⟩
    have MC : ∀ (i : Int) (w : World), i = N → Calls Tryz.prog 89 #[.slice none 0 0, .int .i64 i] w fun e w' => ∃ v, e = .returned v ∧ IsW w' v (List.replicate N 0) ∧ Below w.heap.size w w' ∧ (v = .slice none 0 0 ∧ N = 0 ∧ w' = w ∨ ∃ cap, v = .slice (some ⟨w.heap.size, 0, none⟩) N cap ∧ 0 < N ∧ w'.heap.size = w.heap.size + 1 ∧ Row w' w.heap.size cap (List.replicate N 0)) := by
      intro i w hi
      subst hi
      exact make_call N (by omega) w
    by_cases h0 : m.length = 0
    · obtain rfl : m = [] := List.eq_nil_of_length_eq_zero h0
      go_enter Tryz.func78, Tryz.ntmps78
      go_wp2_with (first | (go_at_call 89; refine (make_none _).mono ?_; rintro _ w1 ⟨rfl, rfl⟩) | (go_at_call 95; refine (norm_none _).mono ?_; rintro _ w1 ⟨rfl, rfl⟩))
      go_loop [5, 6] (fun i k => i = .int .i64 0 ∧ k = .int .i64 0) (fun _ _ => 0)
      case atStart => exact ⟨rfl, rfl⟩
      case round =>
        obtain ⟨rfl, rfl⟩ := hrel
        go_wp2_with (go_at_call 95; refine (norm_none _).mono ?_; rintro _ w1 ⟨rfl, rfl⟩)
        go_ret
        exact ⟨_, rfl, .inl ⟨rfl, by rw [show val [] = 0 from rfl, words_zero]⟩, Below.refl _ _, fun g n c e => by cases e⟩
    · have HN := Lib.hid hN
      have hN0 : 0 < N := by omega
      have hm0 : 0 < m.length := by omega
      clear hN h0
      go_enter Tryz.func78, Tryz.ntmps78
      go_wp2_with fail
      refine (MC _ _ (by have := HN.out; omega)).mono ?_
      rintro _ w1 ⟨v1, rfl, hv1, hb1, hor⟩
      rcases hor with ⟨_, hn, _⟩ | ⟨cap, rfl, _, hsz, hrow⟩
      · omega
      have hr1 := hr.below hb1
      have hgl : g < w.heap.size := by
        have := hr 0 _ (List.getElem?_eq_getElem (by omega))
        exact cell_lt this
      clear hv1
      go_wp2_with fail
      go_loopw [5, 6] (fun i k wr => ∃ r j : Nat, r + 8 * j = m.length ∧ i = .int .i64 r ∧ k = .int .i64 j ∧ Row wr w.heap.size cap (filled m N j) ∧ Below w.heap.size w wr) (fun i _ _ => (intOf i).toNat)
      case atStart => exact ⟨m.length, 0, rfl, rfl, rfl, by rw [filled_zero]; exact hrow, hb1⟩
      case round =>
        obtain ⟨r, j, hrj, rfl, rfl, hrw, hbw⟩ := hrel
        have hrr := hr.below hbw
        rcases Nat.lt_or_ge r 8 with h8 | h8
        · have hjm : j = m.length / 8 := by omega
          have hrm : r = m.length % 8 := by omega
          have HJ := Lib.hid (And.intro hrj (And.intro hjm hrm))
          by_cases hr0 : r = 0
          · obtain rfl := hr0
            have hxs : filled m N j = raw m := by rw [hjm, ← HN.out]; exact filled_whole m (by omega)
            rw [hxs] at hrw
            have NC := norm_row w.heap.size cap (raw m) (by rw [raw_length]; omega) wr hrw
            have hrl : (raw m).length = N := by rw [raw_length]; exact HN.out
            rw [hrl] at NC
            have HX := Lib.hid hrw
            clear hjm hrm hrj hxs hrw h8
            go_wp2_with (go_at_call 95; refine NC.mono ?_; rintro _ w2 ⟨jj, rfl, rfl, n1, n2, n3⟩)
            go_ret
            exact ⟨_, rfl, by have := norm_is HX.out (raw_words hm) (by rw [hrl]; exact n1) n2 n3; rwa [wv_raw] at this, hbw, fun g' n' c' e => by cases e; exact Nat.le_refl _⟩
          · have hrp : (0 : Int) < r := by omega
            have hr8 : (r : Int) < 8 := by omega
            have hN1 : m.length % 8 ≠ 0 := by omega
            have hfl := filled_last m hN1
            rw [HN.out, ← hjm, ← hrm] at hfl
            have hjN : N - 1 < (filled m N j).length := by unfold filled; rw [List.length_append, low8_length, List.length_replicate]; have := HN.out; omega
            obtain ⟨oldv, hold⟩ : ∃ x, (filled m N j)[N - 1]? = some x := ⟨_, List.getElem?_eq_getElem hjN⟩
            have hcell := hrw.cell hold
            have hfz := hrw.frozen (N - 1)
            have hrl : (raw m).length = N := by rw [raw_length]; exact HN.out
            have hNb : (N : Int) ≤ 1000 := by have := HN.out; omega
            have hNp : (0 : Int) ≤ (N : Int) - 1 := by omega
            have hNq : (N : Int) - 1 < N := by omega
            have HX := Lib.hid (And.intro hrw (And.intro hbw hfl))
            have hrl2 : r ≤ m.length := by omega
            clear hjm hrm hrj hold hjN hN1 hfl h8 hr0
            go_wp2_with fail
            go_loop [5, 7, 8] (fun i d s => ∃ q u : Nat, q + u = r ∧ i = .int .i64 q ∧ d = .int .u64 ((val ((m.take r).drop q) : Nat) : Int) ∧ s = .int .u64 ((8 * u : Nat) : Int)) (fun i _ _ => (intOf i).toNat)
            case atStart => exact ⟨r, 0, rfl, rfl, by rw [List.drop_eq_nil_of_le (by rw [List.length_take]; omega)]; rfl, rfl⟩
            case round =>
              obtain ⟨q, u, hqu, rfl, rfl, rfl⟩ := hrel
              by_cases hq0 : q = 0
              · obtain rfl := hq0
                have hset := HX.out.1.set (i := N - 1) ((val (m.take r) : Nat) : Int)
                rw [HX.out.2.2] at hset
                have NC := norm_row w.heap.size cap (raw m) (by rw [hrl]; have := HN.out; omega) _ hset
                rw [hrl] at NC
                rw [List.drop_zero]
                have HY := Lib.hid hset
                clear hset hrw
                go_wp2_with (go_at_call 95; refine NC.mono ?_; rintro _ w2 ⟨jj, rfl, rfl, n1, n2, n3⟩)
                go_ret
                exact ⟨_, rfl, by have := norm_is HY.out (raw_words hm) (by rw [hrl]; exact n1) n2 n3; rwa [wv_raw] at this, HX.out.2.1.setCell (p := ⟨w.heap.size, N - 1, none⟩) (Nat.le_refl _) _, fun g' n' c' e => by cases e; exact Nat.le_refl _⟩
              · obtain ⟨p, rfl⟩ : ∃ p, q = p + 1 := ⟨q - 1, by omega⟩
                have hp : p < (m.take r).length := by rw [List.length_take]; omega
                obtain ⟨x, hx⟩ : ∃ x, (m.take r)[p] = x := ⟨_, rfl⟩
                have hxb := hm x (by rw [← hx]; exact List.mem_of_mem_take (List.getElem_mem _))
                have hc0 := hrr p x (by rw [← hx, List.getElem_take]; exact List.getElem?_eq_getElem _)
                rw [Nat.zero_add] at hc0
                have hd : (m.take r).drop p = x :: (m.take r).drop (p + 1) := by rw [← hx]; exact List.drop_eq_getElem_cons hp
                have hdl : ((m.take r).drop (p + 1)).length = u := by rw [List.length_drop, List.length_take]; omega
                have hdb : Bytes ((m.take r).drop (p + 1)) := fun d h => hm d (List.mem_of_mem_take (List.mem_of_mem_drop h))
                have hv := val_cons x ((m.take r).drop (p + 1))
                rw [← hd, hdl] at hv
                have hvl := val_lt u _ hdl hdb
                generalize val ((m.take r).drop (p + 1)) = y at *
                obtain ⟨xn, rfl⟩ : ∃ xn : Nat, x = xn := ⟨x.toNat, by omega⟩
                have hs8 : (8 : Int) * u < 64 := by omega
                have hp7 : (p : Int) < 8 := by omega
                have hpm : (p : Int) < m.length := by omega
                have HZ := Lib.hid (And.intro hqu (And.intro hv hvl))
                clear hx hd hdl hdb hv hvl hqu hp
                go_wp2_with fail
                go_round
                case rel =>
                  obtain ⟨hqu, hv, hvl⟩ := HZ.out
                  refine ⟨p, u + 1, by omega, rfl, ?_, by rw [show ((8 * (u + 1) : Nat) : Int) = 8 * (u : Int) + 8 by omega]⟩
                  rw [hv, shl_join xn y u (by omega) (by omega) hvl, Int.toNat_natCast]
                case measure => simp [intOf]
        · obtain ⟨q, rfl⟩ : ∃ q, r = q + 8 := ⟨r - 8, by omega⟩
          have hjN : j < N := by have := HN.out; omega
          have hfs := filled_step m N j hjN
          have hq : m.length - 8 * (j + 1) = q := by omega
          rw [hq] at hfs
          have hBR : BRow wr g q ((m.drop q).take 8) := by have := (hrr.drop q).take 8; rwa [Nat.zero_add] at this
          have hlen8 : ((m.drop q).take 8).length = 8 := by rw [List.length_take, List.length_drop]; omega
          have hby8 : Bytes ((m.drop q).take 8) := fun d hd => hm d (List.mem_of_mem_drop (List.mem_of_mem_take hd))
          have hset := hrw.set (i := j) ((val ((m.drop q).take 8) : Nat) : Int)
          rw [hfs] at hset
          have hfz := hrw.frozen j
          have hlenf : (filled m N j).length = N := by unfold filled; rw [List.length_append, low8_length, List.length_replicate]; omega
          obtain ⟨oldv, hold⟩ : ∃ x, (filled m N j)[j]? = some x := ⟨_, List.getElem?_eq_getElem (by omega)⟩
          have hcell := hrw.cell hold
          have BW := beW_call g q (c - q) (by omega) (by omega) _ hby8 hlen8
          have u1 : ¬ c = q := by omega
          have u2 : (q : Int) + 8 ≤ c := by omega
          have u3 : (8 : Int) ≤ (q : Int) + 8 := by omega
          have u4 : (0 : Int) ≤ j := by omega
          have u5 : (j : Int) < N := by omega
          have u6 : (j : Int) < 1000 := by have := HN.out; omega
          have hgw := hrw.lt
          have HH := Lib.hid (And.intro hrj (And.intro hrw (And.intro hfs hbw)))
          clear hrj hset hfs hq hlen8 hby8 hlenf hold
          go_wp2_with (go_at_call 94; refine (BW _ hBR).mono ?_; rintro _ w2 ⟨rfl, hb2⟩; have hcell2 := (hb2.cell (p := ⟨w.heap.size, j, none⟩) hgw).trans hcell; have hfz2 := (hb2.frozen (p := ⟨w.heap.size, j, none⟩) hgw).trans hfz)
          go_roundw
          case rel =>
            obtain ⟨hrj, hrw, hfs, hbw⟩ := HH.out
            refine ⟨q, j + 1, by omega, by go_num, by go_num, ?_, ?_⟩
            · have hset := (hrw.below hb2).set (i := j) ((val ((m.drop q).take 8) : Nat) : Int)
              rw [hfs] at hset
              exact hset
            · exact (bt hbw hb2 (Nat.le_refl _)).setCell (p := ⟨w.heap.size, j, none⟩) (Nat.le_refl _) _
          case measure => simp [intOf]; omega
end Go.Proofs.YtodipcgilgigbaaGreatDoor.V
