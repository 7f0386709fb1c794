/- The walk of ftoa64 at the other floats. -/
import Derived.Test.YtgjfjbghdpcllaaGreatDoorW8
namespace Go.Proofs.YtgjfjbghdpcllaaGreatDoor
open Go Go.RowKit U
set_option maxHeartbeats 1000000 in
set_option maxRecDepth 100000 in
theorem ftoa_norm_E (bN : Nat) (b e11 frac mn L s x p X : Int) (d B : Nat) (neg : Bool) (v : Value) (w : World)
    (hb : ∀ w, (callFunc 56 #[.float .f64 bN]).run Tryz.prog w = .ok (.value (.int .u64 b)) w)
    (hneg : (b / 9223372036854775808 != 0) = neg) (hexp : bits .and .i64 (wrap64 (b / 4503599627370496)) 2047 = e11) (hman : bits .and .u64 b 4503599627370495 = frac)
    (hor : bits .or .u64 frac 4503599627370496 = mn) (hmn : (mn == 0) = false)
    (hL : ∀ w, Calls Tryz.prog 60 #[.int .u64 mn] w fun e w' => e = .returned (.int .i64 L) ∧ w = w') (hs : 64 - L = s) (hs0 : 0 ≤ s) (hs1 : s < 64) (hx : IntKind.u64.wrap (mn * 2 ^ s.toNat) = x)
    (c1 : w.cell? ⟨1, 0, none⟩ = some (.bool true)) (hz : 4 < w.heap.size)
    (he0 : 0 < e11) (he1 : e11 < 2047) (hd0 : 1000000 ≤ d) (hd1 : d < 10000000) (hX : 7 + p = X + 1) (hX0 : -400 ≤ X) (hX1 : X ≤ 400)
    (FW : ∀ w', Below w.heap.size w w' → Calls Tryz.prog 65 #[.int .u64 x, .int .i64 (e11 + -1023 - s - 52), .int .i64 7, .int .i64 6, .int .u8 69] w' fun e w2 => e = .returned (.tuple #[.int .u64 d, .int .i64 p]) ∧ Below w'.heap.size w' w2)
    (ND : ∀ w', Below w.heap.size w w' → Calls Tryz.prog 63 #[.int .u64 d] w' fun e w2 => e = .returned (.int .i64 7) ∧ w' = w2)
    (hown : w.ownsRow B 5 1 v 0 []) (hB : B ≤ w.heap.size) :
    Calls Tryz.prog 53 #[v, .float .f64 bN, .int .u8 69, .int .i64 6] w fun e w' => ∃ v', e = .returned v' ∧ w'.ownsRow B 5 1 v' (txt neg d X 69).length (vb (txt neg d X 69)) ∧ Below B w w' := by
  have hz1 : 1 < w.heap.size := by omega
  have he2 : (e11 == 2047) = false := by rw [beq_eq_false_iff_ne]; omega
  have he3 : (e11 == 0) = false := by rw [beq_eq_false_iff_ne]; omega
  have hdz : ((d : Int) != 0) = true := by simp; omega
  have hdz' : (d == 0) = false := by simp; omega
  have HD := Lib.hid (And.intro hd0 hd1)
  have HX := Lib.hid (And.intro hX0 hX1)
  have HXp := Lib.hid hX
  clear hz hd0 hd1 hX0 hX1 hX
  go_enter Tryz.func53, Tryz.ntmps53
  go_wp2_with fail
  go_quiet (fail)
  go_wp2_with fail
  refine (hL _).mono ?_; rintro _ w1 ⟨rfl, rfl⟩
  go_wp2_with fail
  have b1 : Below w.heap.size w ((w.drewN nq).alloc (.cells zeros24 93)) := (below_drewN (Below.refl _ w) nq).alloc (by simp) _
  have o1 : ((w.drewN nq).alloc (.cells zeros24 93)).ownsRow B 5 1 v 0 [] := (own_drewN hown nq).alloc _
  refine (FW _ b1).mono ?_; rintro _ w2 ⟨rfl, b2⟩
  have hz0 : ((w.drewN nq).alloc (.cells zeros24 93)).heap.size = w.heap.size + 1 := by simp
  rw [hz0] at b2
  have b3 : Below w.heap.size w w2 := b1.trans (b2.mono (by omega))
  have o2 : w2.ownsRow B 5 1 v 0 [] := own_below o1 b2 (fun k hk => by have := (o1.lt k hk).2; omega)
  have h2 : w2.heap[w.heap.size]? = some (.cells (Array.replicate 24 (.int .u8 0)) 93 (0, 0)) := by
    rw [b2.block _ (by omega), ← zeros24_is]
    simpa using heap_alloc_new (w.drewN nq) (.cells zeros24 93)
  have N2 := ND w2.drew b3.drew
  have S2 := setDigits_walk w.heap.size d p 93 w2.drew h2 HD.out.1 HD.out.2 (by have := HX.out; have := HXp.out; omega) (by have := HX.out; have := HXp.out; omega)
  clear FW ND hL hb c1
  go_wp2_with fail
  go_region_with (first | (go_at_call 63; refine N2.mono ?_; rintro _ w3 ⟨rfl, rfl⟩) | (go_at_call 62; refine S2.mono ?_; rintro _ w3 ⟨nd, hn1, hn7, hzr, rfl, hbuf, b4⟩))
  all_goals
    have b5 : Below w.heap.size w w3 := b3.drew.trans b4
    have st : St B (Buf d w.heap.size 93) w w3 v [] := ⟨own_below (own_below o2 (Below.refl w2.heap.size w2).drew (fun k hk => (o2.lt k hk).2)) b4 (fun k hk => (hown.lt k hk).2), hbuf, b5.mono hB, Nat.le_trans hB b5.size⟩
    have F2 := fmtEFG_E neg d w.heap.size nd 93 (by decide) X HX.out.1 HX.out.2 B v w w3 st hn1 hn7 hzr
    have HXq := HXp.out
    clear S2 N2 o1 o2 b1 b2 b3 b4 b5 st h2
    go_wp2_with fail
    refine F2.mono ?_; rintro _ w4 ⟨v', rfl, st4⟩
    go_wp2_with fail
    go_ret
    exact ⟨v', rfl, by simpa using st4.own, st4.below⟩
set_option maxHeartbeats 1000000 in
set_option maxRecDepth 100000 in
theorem ftoa_sub (bN : Nat) (b mn L s x p X : Int) (d B : Nat) (neg : Bool) (v : Value) (w : World)
    (hb : ∀ w, (callFunc 56 #[.float .f64 bN]).run Tryz.prog w = .ok (.value (.int .u64 b)) w)
    (hneg : (b / 9223372036854775808 != 0) = neg) (hexp : bits .and .i64 (wrap64 (b / 4503599627370496)) 2047 = 0) (hman : bits .and .u64 b 4503599627370495 = mn)
    (hmn : (mn == 0) = false)
    (hL : ∀ w, Calls Tryz.prog 60 #[.int .u64 mn] w fun e w' => e = .returned (.int .i64 L) ∧ w = w') (hs : 64 - L = s) (hs0 : 0 ≤ s) (hs1 : s < 64) (hx : IntKind.u64.wrap (mn * 2 ^ s.toNat) = x)
    (c1 : w.cell? ⟨1, 0, none⟩ = some (.bool true)) (hz : 4 < w.heap.size)
    (hd0 : 1000000 ≤ d) (hd1 : d < 10000000) (hX : 7 + p = X + 1) (hX0 : -400 ≤ X) (hX1 : X ≤ 400)
    (FW : ∀ w', Below w.heap.size w w' → Calls Tryz.prog 65 #[.int .u64 x, .int .i64 (-1022 - s - 52), .int .i64 7, .int .i64 6, .int .u8 101] w' fun e w2 => e = .returned (.tuple #[.int .u64 d, .int .i64 p]) ∧ Below w'.heap.size w' w2)
    (ND : ∀ w', Below w.heap.size w w' → Calls Tryz.prog 63 #[.int .u64 d] w' fun e w2 => e = .returned (.int .i64 7) ∧ w' = w2)
    (hown : w.ownsRow B 5 1 v 0 []) (hB : B ≤ w.heap.size) :
    Calls Tryz.prog 53 #[v, .float .f64 bN, .int .u8 101, .int .i64 6] w fun e w' => ∃ v', e = .returned v' ∧ w'.ownsRow B 5 1 v' (txt neg d X 101).length (vb (txt neg d X 101)) ∧ Below B w w' := by
  have hz1 : 1 < w.heap.size := by omega
  have hdz : ((d : Int) != 0) = true := by simp; omega
  have hdz' : (d == 0) = false := by simp; omega
  have HD := Lib.hid (And.intro hd0 hd1)
  have HX := Lib.hid (And.intro hX0 hX1)
  have HXp := Lib.hid hX
  clear hz hd0 hd1 hX0 hX1 hX
  go_enter Tryz.func53, Tryz.ntmps53
  go_wp2_with fail
  go_quiet (fail)
  go_wp2_with fail
  refine (hL _).mono ?_; rintro _ w1 ⟨rfl, rfl⟩
  go_wp2_with fail
  have b1 : Below w.heap.size w ((w.drewN nq).alloc (.cells zeros24 93)) := (below_drewN (Below.refl _ w) nq).alloc (by simp) _
  have o1 : ((w.drewN nq).alloc (.cells zeros24 93)).ownsRow B 5 1 v 0 [] := (own_drewN hown nq).alloc _
  refine (FW _ b1).mono ?_; rintro _ w2 ⟨rfl, b2⟩
  have hz0 : ((w.drewN nq).alloc (.cells zeros24 93)).heap.size = w.heap.size + 1 := by simp
  rw [hz0] at b2
  have b3 : Below w.heap.size w w2 := b1.trans (b2.mono (by omega))
  have o2 : w2.ownsRow B 5 1 v 0 [] := own_below o1 b2 (fun k hk => by have := (o1.lt k hk).2; omega)
  have h2 : w2.heap[w.heap.size]? = some (.cells (Array.replicate 24 (.int .u8 0)) 93 (0, 0)) := by
    rw [b2.block _ (by omega), ← zeros24_is]
    simpa using heap_alloc_new (w.drewN nq) (.cells zeros24 93)
  have N2 := ND w2.drew b3.drew
  have S2 := setDigits_walk w.heap.size d p 93 w2.drew h2 HD.out.1 HD.out.2 (by have := HX.out; have := HXp.out; omega) (by have := HX.out; have := HXp.out; omega)
  clear FW ND hL hb c1
  go_wp2_with fail
  go_region_with (first | (go_at_call 63; refine N2.mono ?_; rintro _ w3 ⟨rfl, rfl⟩) | (go_at_call 62; refine S2.mono ?_; rintro _ w3 ⟨nd, hn1, hn7, hzr, rfl, hbuf, b4⟩))
  all_goals
    have b5 : Below w.heap.size w w3 := b3.drew.trans b4
    have st : St B (Buf d w.heap.size 93) w w3 v [] := ⟨own_below (own_below o2 (Below.refl w2.heap.size w2).drew (fun k hk => (o2.lt k hk).2)) b4 (fun k hk => (hown.lt k hk).2), hbuf, b5.mono hB, Nat.le_trans hB b5.size⟩
    have F2 := fmtEFG_e neg d w.heap.size nd 93 (by decide) X HX.out.1 HX.out.2 B v w w3 st hn1 hn7 hzr
    have HXq := HXp.out
    clear S2 N2 o1 o2 b1 b2 b3 b4 b5 st h2
    go_wp2_with fail
    refine F2.mono ?_; rintro _ w4 ⟨v', rfl, st4⟩
    go_wp2_with fail
    go_ret
    exact ⟨v', rfl, by simpa using st4.own, st4.below⟩
set_option maxHeartbeats 1000000 in
set_option maxRecDepth 100000 in
theorem ftoa_sub_E (bN : Nat) (b mn L s x p X : Int) (d B : Nat) (neg : Bool) (v : Value) (w : World)
    (hb : ∀ w, (callFunc 56 #[.float .f64 bN]).run Tryz.prog w = .ok (.value (.int .u64 b)) w)
    (hneg : (b / 9223372036854775808 != 0) = neg) (hexp : bits .and .i64 (wrap64 (b / 4503599627370496)) 2047 = 0) (hman : bits .and .u64 b 4503599627370495 = mn)
    (hmn : (mn == 0) = false)
    (hL : ∀ w, Calls Tryz.prog 60 #[.int .u64 mn] w fun e w' => e = .returned (.int .i64 L) ∧ w = w') (hs : 64 - L = s) (hs0 : 0 ≤ s) (hs1 : s < 64) (hx : IntKind.u64.wrap (mn * 2 ^ s.toNat) = x)
    (c1 : w.cell? ⟨1, 0, none⟩ = some (.bool true)) (hz : 4 < w.heap.size)
    (hd0 : 1000000 ≤ d) (hd1 : d < 10000000) (hX : 7 + p = X + 1) (hX0 : -400 ≤ X) (hX1 : X ≤ 400)
    (FW : ∀ w', Below w.heap.size w w' → Calls Tryz.prog 65 #[.int .u64 x, .int .i64 (-1022 - s - 52), .int .i64 7, .int .i64 6, .int .u8 69] w' fun e w2 => e = .returned (.tuple #[.int .u64 d, .int .i64 p]) ∧ Below w'.heap.size w' w2)
    (ND : ∀ w', Below w.heap.size w w' → Calls Tryz.prog 63 #[.int .u64 d] w' fun e w2 => e = .returned (.int .i64 7) ∧ w' = w2)
    (hown : w.ownsRow B 5 1 v 0 []) (hB : B ≤ w.heap.size) :
    Calls Tryz.prog 53 #[v, .float .f64 bN, .int .u8 69, .int .i64 6] w fun e w' => ∃ v', e = .returned v' ∧ w'.ownsRow B 5 1 v' (txt neg d X 69).length (vb (txt neg d X 69)) ∧ Below B w w' := by
  have hz1 : 1 < w.heap.size := by omega
  have hdz : ((d : Int) != 0) = true := by simp; omega
  have hdz' : (d == 0) = false := by simp; omega
  have HD := Lib.hid (And.intro hd0 hd1)
  have HX := Lib.hid (And.intro hX0 hX1)
  have HXp := Lib.hid hX
  clear hz hd0 hd1 hX0 hX1 hX
  go_enter Tryz.func53, Tryz.ntmps53
  go_wp2_with fail
  go_quiet (fail)
  go_wp2_with fail
  refine (hL _).mono ?_; rintro _ w1 ⟨rfl, rfl⟩
  go_wp2_with fail
  have b1 : Below w.heap.size w ((w.drewN nq).alloc (.cells zeros24 93)) := (below_drewN (Below.refl _ w) nq).alloc (by simp) _
  have o1 : ((w.drewN nq).alloc (.cells zeros24 93)).ownsRow B 5 1 v 0 [] := (own_drewN hown nq).alloc _
  refine (FW _ b1).mono ?_; rintro _ w2 ⟨rfl, b2⟩
  have hz0 : ((w.drewN nq).alloc (.cells zeros24 93)).heap.size = w.heap.size + 1 := by simp
  rw [hz0] at b2
  have b3 : Below w.heap.size w w2 := b1.trans (b2.mono (by omega))
  have o2 : w2.ownsRow B 5 1 v 0 [] := own_below o1 b2 (fun k hk => by have := (o1.lt k hk).2; omega)
  have h2 : w2.heap[w.heap.size]? = some (.cells (Array.replicate 24 (.int .u8 0)) 93 (0, 0)) := by
    rw [b2.block _ (by omega), ← zeros24_is]
    simpa using heap_alloc_new (w.drewN nq) (.cells zeros24 93)
  have N2 := ND w2.drew b3.drew
  have S2 := setDigits_walk w.heap.size d p 93 w2.drew h2 HD.out.1 HD.out.2 (by have := HX.out; have := HXp.out; omega) (by have := HX.out; have := HXp.out; omega)
  clear FW ND hL hb c1
  go_wp2_with fail
  go_region_with (first | (go_at_call 63; refine N2.mono ?_; rintro _ w3 ⟨rfl, rfl⟩) | (go_at_call 62; refine S2.mono ?_; rintro _ w3 ⟨nd, hn1, hn7, hzr, rfl, hbuf, b4⟩))
  all_goals
    have b5 : Below w.heap.size w w3 := b3.drew.trans b4
    have st : St B (Buf d w.heap.size 93) w w3 v [] := ⟨own_below (own_below o2 (Below.refl w2.heap.size w2).drew (fun k hk => (o2.lt k hk).2)) b4 (fun k hk => (hown.lt k hk).2), hbuf, b5.mono hB, Nat.le_trans hB b5.size⟩
    have F2 := fmtEFG_E neg d w.heap.size nd 93 (by decide) X HX.out.1 HX.out.2 B v w w3 st hn1 hn7 hzr
    have HXq := HXp.out
    clear S2 N2 o1 o2 b1 b2 b3 b4 b5 st h2
    go_wp2_with fail
    refine F2.mono ?_; rintro _ w4 ⟨v', rfl, st4⟩
    go_wp2_with fail
    go_ret
    exact ⟨v', rfl, by simpa using st4.own, st4.below⟩
set_option maxHeartbeats 1000000 in
set_option maxRecDepth 100000 in
theorem ftoa_zero_e (bN : Nat) (b : Int) (B : Nat) (neg : Bool) (v : Value) (w : World)
    (hb : ∀ w, (callFunc 56 #[.float .f64 bN]).run Tryz.prog w = .ok (.value (.int .u64 b)) w)
    (hneg : (b / 9223372036854775808 != 0) = neg) (hexp : bits .and .i64 (wrap64 (b / 4503599627370496)) 2047 = 0) (hman : bits .and .u64 b 4503599627370495 = 0)
    (hown : w.ownsRow B 5 1 v 0 []) (hB : B ≤ w.heap.size) :
    Calls Tryz.prog 53 #[v, .float .f64 bN, .int .u8 101, .int .i64 6] w fun e w' => ∃ v', e = .returned v' ∧ w'.ownsRow B 5 1 v' (txt neg 0 0 101).length (vb (txt neg 0 0 101)) ∧ Below B w w' := by
  go_enter Tryz.func53, Tryz.ntmps53
  go_wp2_with fail
  go_quiet (fail)
  have b1 : Below w.heap.size w (w.drewN nq) := below_drewN (Below.refl _ w) nq
  have st : St B Any w (w.drewN nq) v [] := ⟨own_drewN hown nq, trivial, b1.mono hB, by simpa using hB⟩
  have F2 := fmtEFG_zero_e neg B v w (w.drewN nq) st
  clear hb st b1
  go_wp2_with fail
  refine F2.mono ?_; rintro _ w4 ⟨v', rfl, st4⟩
  go_wp2_with fail
  go_ret
  exact ⟨v', rfl, st4.own, st4.below⟩
set_option maxHeartbeats 1000000 in
set_option maxRecDepth 100000 in
theorem ftoa_zero_E (bN : Nat) (b : Int) (B : Nat) (neg : Bool) (v : Value) (w : World)
    (hb : ∀ w, (callFunc 56 #[.float .f64 bN]).run Tryz.prog w = .ok (.value (.int .u64 b)) w)
    (hneg : (b / 9223372036854775808 != 0) = neg) (hexp : bits .and .i64 (wrap64 (b / 4503599627370496)) 2047 = 0) (hman : bits .and .u64 b 4503599627370495 = 0)
    (hown : w.ownsRow B 5 1 v 0 []) (hB : B ≤ w.heap.size) :
    Calls Tryz.prog 53 #[v, .float .f64 bN, .int .u8 69, .int .i64 6] w fun e w' => ∃ v', e = .returned v' ∧ w'.ownsRow B 5 1 v' (txt neg 0 0 69).length (vb (txt neg 0 0 69)) ∧ Below B w w' := by
  go_enter Tryz.func53, Tryz.ntmps53
  go_wp2_with fail
  go_quiet (fail)
  have b1 : Below w.heap.size w (w.drewN nq) := below_drewN (Below.refl _ w) nq
  have st : St B Any w (w.drewN nq) v [] := ⟨own_drewN hown nq, trivial, b1.mono hB, by simpa using hB⟩
  have F2 := fmtEFG_zero_E neg B v w (w.drewN nq) st
  clear hb st b1
  go_wp2_with fail
  refine F2.mono ?_; rintro _ w4 ⟨v', rfl, st4⟩
  go_wp2_with fail
  go_ret
  exact ⟨v', rfl, st4.own, st4.below⟩
end Go.Proofs.YtgjfjbghdpcllaaGreatDoor
