/- The walk of fmtEFG at the conversions e and E, six digits behind the point. -/
import Derived.Test.YtgjfjbghdpcllaaGreatDoorW4
import Derived.Deep.DeepCutAuto
import Derived.Deep.CutBlock
import Derived.Outline
namespace Go.Proofs.YtgjfjbghdpcllaaGreatDoor
open Go Go.RowKit U

theorem oneb (b : Int) : ∀ u ∈ [Value.int .u8 b], u.oneCell' = true := by
  intro u hu
  simp only [List.mem_singleton] at hu
  subst hu; rfl
/-- Text bytes as the program's values. -/
def vb (l : List Int) : List Value := l.map (Value.int .u8)
theorem vb_len (l : List Int) : (vb l).length = l.length := by simp [vb]
theorem vb_one (l : List Int) : ∀ u ∈ vb l, u.oneCell' = true := by
  intro u hu
  simp only [vb, List.mem_map] at hu
  obtain ⟨b, _, rfl⟩ := hu; rfl
theorem vb_append (a b : List Int) : vb (a ++ b) = vb a ++ vb b := by simp [vb]
/-- What is so while fmtEFG writes: v holds the text l; the digits' block stands; all below B is as it was. -/
structure St (B : Nat) (D : World → Prop) (w0 w : World) (v : Value) (l : List Int) : Prop where
  own : w.ownsRow B 5 1 v l.length (vb l)
  dig : D w
  below : Below B w0 w
  base : B ≤ w.heap.size
/-- The digits' facts outlive what the row does. -/
def Keeps (D : World → Prop) : Prop := (∀ w o, D w → D (w.alloc o)) ∧ (∀ w n, D w → D (w.drewN n)) ∧ ∀ (B : Nat) w w' v (n : Nat) xs, D w → w.ownsRow B 5 1 v n xs → w.grownBy w' v.ownBlock → D w'
theorem Below.grownB {B : Nat} {w0 w w' : World} {v : Value} {n : Nat} {xs : List Value} (h : Below B w0 w) (hown : w.ownsRow B 5 1 v n xs) (hg : w.grownBy w' v.ownBlock) (hB : B ≤ w.heap.size) : Below B w0 w' :=
  h.grown hg hB (fun k hk => (hown.lt k hk).1)
set_option maxHeartbeats 400000 in
/-- append(dst, x..): the new bytes lie in a block of their own. -/
theorem app_new {Q : Exit → Act → World → Prop} {rest : List Oper} {ops : Array Oper} {a : Act} {o : Oper} {B : Nat} {D : World → Prop} {w0 w : World} {v : Value} {l : List Int} (hD : Keeps D) (h : St B D w0 w v l)
    (s x : Operand) (news : List Int) (hgd : o.guard = none) (ho : o.op = .call { callee := .builtin .append, args := #[s, x], argTypes := #[35, 35] })
    (hs : a.eval s = v) (hx : a.eval x = .slice (some ⟨w.heap.size, 0, none⟩) news.length news.length) (hn : l.length + news.length ≤ 1000)
    (k : ∀ v' w', St B D w0 w' v' (l ++ news) → wpList Tryz.prog ops Q rest (a.put o.dst v') w') :
    wpList Tryz.prog ops Q (o :: rest) a (w.alloc (.cells (vb news).toArray 5)) := by
  obtain ⟨i0, hi, hz0, hz1, hz2⟩ := info_parts info5
  refine wpList_append_own _ hgd s x 35 ho B 5 i0 (.int .u8 0) 1 1 Tryz.underlying35 hi hz0 hz1 hz2 rfl (by decide) v l.length (vb l) hs (h.own.alloc _) ⟨w.heap.size, 0, none⟩ news.length news.length (vb news) hx (by simp [vb_len]) ?_ (vb_one _) (by unfold maxLen; omega) (by omega) (Nat.le_trans h.base (by simp)) ?_
  · intro j u hu
    have hadd : (⟨w.heap.size, 0, none⟩ : Addr).add j = ⟨w.heap.size, j, none⟩ := by unfold Addr.add; split <;> simp_all
    rw [hadd, World.cell?_alloc_new]
    simpa using hu
  · intro v' w' hown hg _
    refine k v' w' ⟨by rw [vb_append, List.length_append]; exact hown, hD.2.2 B _ _ v _ _ (hD.1 _ _ h.dig) (h.own.alloc _) hg, ?_, ?_⟩
    · exact Below.grownB (h.below.alloc h.base _) (h.own.alloc _) hg (Nat.le_trans h.base (by simp))
    · have := hg.size
      have := h.base
      simp at *
      omega
set_option maxHeartbeats 400000 in
/-- append(dst, s[i:m]..): the new bytes lie elsewhere. -/
theorem app_old {Q : Exit → Act → World → Prop} {rest : List Oper} {ops : Array Oper} {a : Act} {o : Oper} {B : Nat} {D : World → Prop} {w0 w : World} {v : Value} {l : List Int} (hD : Keeps D) (h : St B D w0 w v l)
    (s x : Operand) (news : List Int) (g off m c : Nat) (hm : news.length = m) (hgd : o.guard = none) (ho : o.op = .call { callee := .builtin .append, args := #[s, x], argTypes := #[35, 35] })
    (hs : a.eval s = v) (hx : a.eval x = .slice (some ⟨g, off, none⟩) m c) (hn : l.length + news.length ≤ 1000)
    (hnews : ∀ (j : Nat) (b : Int), news[j]? = some b → w.cell? ⟨g, off + j, none⟩ = some (.int .u8 b))
    (k : ∀ v' w', St B D w0 w' v' (l ++ news) → wpList Tryz.prog ops Q rest (a.put o.dst v') w') :
    wpList Tryz.prog ops Q (o :: rest) a w := by
  subst hm
  obtain ⟨i0, hi, hz0, hz1, hz2⟩ := info_parts info5
  refine wpList_append_own _ hgd s x 35 ho B 5 i0 (.int .u8 0) 1 1 Tryz.underlying35 hi hz0 hz1 hz2 rfl (by decide) v l.length (vb l) hs h.own ⟨g, off, none⟩ news.length c (vb news) hx (by simp [vb_len]) ?_ (vb_one _) (by unfold maxLen; omega) (by omega) h.base ?_
  · intro j u hu
    have hadd : (⟨g, off, none⟩ : Addr).add j = ⟨g, off + j, none⟩ := by unfold Addr.add; split <;> simp_all
    rw [hadd]
    simp only [vb, List.getElem?_map, Option.map_eq_some_iff] at hu
    obtain ⟨b, hb, rfl⟩ := hu
    exact hnews j b hb
  · intro v' w' hown hg _
    refine k v' w' ⟨by rw [vb_append, List.length_append]; exact hown, hD.2.2 B _ _ v _ _ h.dig h.own hg, ?_, ?_⟩
    · exact Below.grownB h.below h.own hg h.base
    · have := hg.size
      have := h.base
      omega
theorem mn2 (k k' : IntKind) (x y : Int) : Builtin.min2 (.int k x) (.int k' y) = pure (.int k (if y < x then y else x)) := by simp only [Builtin.min2]
theorem mn_two (ats : Array TypeId) (ty : TypeId) (a b : Value) : Builtin.min_ ats ty #[a, b] = (Builtin.min2 a b >>= fun s => pure s) := by simp only [Builtin.min_, List.foldlM_cons, List.foldlM_nil]
attribute [local go_sem] mn2 mn_two
theorem keeps_buf (d g : Nat) (T : TypeId) (hT : T ≠ 5) : Keeps (Buf d g T) := by
  refine ⟨fun w o h => ?_, fun w n h => h.drewN n, fun B w w' v n xs h hown hg => ?_⟩
  · obtain ⟨cs, hb, hr⟩ := h
    exact ⟨cs, ((World.grownBy_alloc w o none).block g (Array.getElem?_eq_some_iff.1 hb).1 (by simp)).trans hb, hr⟩
  · obtain ⟨cs, hb, hr⟩ := h
    exact ⟨cs, (hg.block g (Array.getElem?_eq_some_iff.1 hb).1 (fun e => Lib.ownBlock_ne hown hb hT e.symm)).trans hb, hr⟩
def sgn (neg : Bool) : List Int := if neg then [45] else []
def digs (d n : Nat) : List Int := (List.range n).map fun i => ((48 + dgt d i : Nat) : Int)
/-- The digits behind the first, as far as n of all. -/
def part (d n : Nat) : List Int := (List.range (n - 1)).map fun i => ((48 + dgt d (i + 1) : Nat) : Int)
theorem part_len (d n : Nat) : (part d n).length = n - 1 := by simp [part]
def mant (d : Nat) : List Int := ((48 + dgt d 0 : Nat) : Int) :: 46 :: ((List.range 6).map fun i => ((48 + dgt d (i + 1) : Nat) : Int))
theorem mant_split (d nd : Nat) (h1 : 1 ≤ nd) (h7 : nd ≤ 7) (hz : ∀ i, nd ≤ i → i < 7 → dgt d i = 0) (z0 : Int) (h0 : ((48 + dgt d 0 : Nat) : Int) = z0) : [z0] ++ [46] ++ part d nd ++ List.replicate (7 - nd) 48 = mant d := by
  subst h0
  unfold mant
  simp only [List.cons_append, List.nil_append]
  congr 2
  apply List.ext_getElem (by simp [part]; omega)
  intro i h1 h2
  simp only [part, List.length_map, List.length_range] at h2 ⊢
  rw [List.getElem_append]
  split
  · simp
  · rename_i h
    simp only [List.length_map, List.length_range] at h
    simp [hz (i + 1) (by omega) (by omega)]
def expo (X : Int) : List Int := if X.natAbs < 10 then [48, (48 + X.natAbs : Nat)] else if X.natAbs < 100 then [(48 + X.natAbs / 10 : Nat), (48 + X.natAbs % 10 : Nat)] else [(48 + X.natAbs / 100 : Nat), (48 + X.natAbs / 10 % 10 : Nat), (48 + X.natAbs % 10 : Nat)]
def txt (neg : Bool) (d : Nat) (X c : Int) : List Int := sgn neg ++ mant d ++ [c] ++ (if X < 0 then 45 else 43) :: expo X
theorem expo_nat (X : Int) (e : Nat) (h : X.natAbs = e) : expo X = if e < 10 then [48, (e : Int) + 48] else if e < 100 then [(e : Int) / 10 + 48, (e : Int) % 10 + 48] else [(e : Int) / 100 + 48, (e : Int) / 10 % 10 + 48, (e : Int) % 10 + 48] := by
  unfold expo
  rw [h]
  have a1 : ((48 + e : Nat) : Int) = (e : Int) + 48 := by omega
  have a2 : ((48 + e / 10 : Nat) : Int) = (e : Int) / 10 + 48 := by omega
  have a3 : ((48 + e % 10 : Nat) : Int) = (e : Int) % 10 + 48 := by omega
  have a4 : ((48 + e / 100 : Nat) : Int) = (e : Int) / 100 + 48 := by omega
  have a5 : ((48 + e / 10 % 10 : Nat) : Int) = (e : Int) / 10 % 10 + 48 := by omega
  rw [a1, a2, a3, a4, a5]
theorem txt_neg (neg : Bool) (d e : Nat) (c : Int) (h : 0 < e) : txt neg d (-(e : Int)) c = sgn neg ++ mant d ++ [c] ++ [45] ++ expo (-(e : Int)) := by
  unfold txt
  rw [if_pos (by omega)]
  simp
theorem txt_pos (neg : Bool) (d e : Nat) (c : Int) : txt neg d (e : Int) c = sgn neg ++ mant d ++ [c] ++ [43] ++ expo (e : Int) := by
  unfold txt
  rw [if_neg (by omega)]
  simp
theorem txt_neg_1 (neg : Bool) (d e : Nat) (c : Int) (h1 : e < 10) (h : 0 < e) : txt neg d (-(e : Int)) c = sgn neg ++ mant d ++ [c] ++ [45] ++ [48, (e : Int) + 48] := by
  rw [txt_neg neg d e c h, expo_nat _ e (by omega), if_pos h1]
theorem txt_neg_2 (neg : Bool) (d e : Nat) (c : Int) (h1 : 10 ≤ e) (h2 : e < 100) (h : 0 < e) : txt neg d (-(e : Int)) c = sgn neg ++ mant d ++ [c] ++ [45] ++ [(e : Int) / 10 + 48, (e : Int) % 10 + 48] := by
  rw [txt_neg neg d e c h, expo_nat _ e (by omega), if_neg (by omega), if_pos h2]
theorem txt_neg_3 (neg : Bool) (d e : Nat) (c : Int) (h2 : 100 ≤ e) (h : 0 < e) : txt neg d (-(e : Int)) c = sgn neg ++ mant d ++ [c] ++ [45] ++ [(e : Int) / 100 + 48, (e : Int) / 10 % 10 + 48, (e : Int) % 10 + 48] := by
  rw [txt_neg neg d e c h, expo_nat _ e (by omega), if_neg (by omega), if_neg (by omega)]
theorem txt_pos_1 (neg : Bool) (d e : Nat) (c : Int) (h1 : e < 10) : txt neg d (e : Int) c = sgn neg ++ mant d ++ [c] ++ [43] ++ [48, (e : Int) + 48] := by
  rw [txt_pos neg d e c, expo_nat _ e (by omega), if_pos h1]
theorem txt_pos_2 (neg : Bool) (d e : Nat) (c : Int) (h1 : 10 ≤ e) (h2 : e < 100) : txt neg d (e : Int) c = sgn neg ++ mant d ++ [c] ++ [43] ++ [(e : Int) / 10 + 48, (e : Int) % 10 + 48] := by
  rw [txt_pos neg d e c, expo_nat _ e (by omega), if_neg (by omega), if_pos h2]
theorem txt_pos_3 (neg : Bool) (d e : Nat) (c : Int) (h2 : 100 ≤ e) : txt neg d (e : Int) c = sgn neg ++ mant d ++ [c] ++ [43] ++ [(e : Int) / 100 + 48, (e : Int) / 10 % 10 + 48, (e : Int) % 10 + 48] := by
  rw [txt_pos neg d e c, expo_nat _ e (by omega), if_neg (by omega), if_neg (by omega)]
set_option maxHeartbeats 1000000 in
set_option maxRecDepth 100000 in
theorem fmtEFG_e (neg : Bool) (d g nd : Nat) (T : TypeId) (hT : T ≠ 5) (X : Int) (hX0 : -400 ≤ X) (hX1 : X ≤ 400) (B : Nat) (v : Value) (w0 w : World)
    (h : St B (Buf d g T) w0 w v []) (hn1 : 1 ≤ nd) (hn7 : nd ≤ 7) (hz : ∀ i, nd ≤ i → i < 7 → dgt d i = 0) :
    Calls Tryz.prog 59 #[v, .bool neg, .slice (some ⟨g, 0, none⟩) 24 24, .int .i64 (X + 1), .int .i64 nd, .int .i64 6, .int .u8 101, .bool false] w fun e w' => ∃ v', e = .returned v' ∧ St B (Buf d g T) w0 w' v' (txt neg d X 101) := by
  have hD := keeps_buf d g T hT
  have HT := Lib.hid hT
  have HZ := Lib.hid hz
  have hnn : (nd == 0) = false := by simp; omega
  have hni : ((nd : Int) != 0) = true := by simp; omega
  clear hT hz
  go_enter Tryz.func59, Tryz.ntmps59
  go_upto_if 78 with fail
  go_cut [0] (fun s0 wx => St B (Buf d g T) w0 wx s0 (sgn neg))
  case first =>
    cases neg
    · go_wp2_with fail
      go_meet
      exact h
    · go_wp2_with (at_builtin; refine app_new hD h _ _ [45] rfl rfl rfl rfl (by simp) ?_; intro v1 w1 h1)
      go_meet
      exact h1
  case rest =>
    have hs := hcut
    have hc0 := hs.dig.cell 0 (by omega)
    have hl0 : (sgn neg).length ≤ 1 := by cases neg <;> decide
    generalize hz0 : ((48 + dgt d 0 : Nat) : Int) = z0 at hc0
    have HZ0 := Lib.hid hz0
    clear hz0 hcut h
    go_upto_if 92 with (at_builtin; refine app_new hD hs _ _ [z0] rfl rfl rfl rfl (by simp; omega) ?_; intro v1 w1 h1)
    clear hs hc0
    go_cut [0, 20, 21] (fun s0 _ _ wx => St B (Buf d g T) w0 wx s0 (sgn neg ++ mant d))
    case first =>
      have hmin : ¬ (7 < nd) := by omega
      go_upto_if 102 with (at_builtin; refine app_new hD h1 _ _ [46] rfl rfl rfl rfl (by simp; omega) ?_; intro v2 w2 h2)
      clear h1
      go_cut [0, 20] (fun s0 s20 wx => s20 = .int .i64 nd ∧ St B (Buf d g T) w0 wx s0 (sgn neg ++ [z0] ++ [46] ++ part d nd))
      case first =>
        rcases Nat.lt_or_ge nd 2 with hn | hn
        · obtain rfl : nd = 1 := by omega
          go_wp2_with fail
          go_meet
          exact ⟨rfl, by simpa [part] using h2⟩
        · have hn' : (1 : Int) < nd := by omega
          have hn7' : (nd : Int) ≤ 24 := by omega
          have hc := fun i hi => h2.dig.cell (i + 1) hi
          go_wp2_with (at_builtin; refine app_old hD h2 _ _ (part d nd) g 1 (nd - 1) 23 (part_len d nd) rfl rfl rfl ?hx ?hn ?hnews ?_)
          case hx => rfl
          case hn => simp [part_len]; omega
          case hnews =>
            intro j b hb
            unfold part at hb
            simp only [List.getElem?_map, Option.map_eq_some_iff] at hb
            obtain ⟨i, hi, rfl⟩ := hb
            obtain ⟨hj, rfl⟩ := List.getElem?_eq_some_iff.1 hi
            simp only [List.getElem_range, List.length_range] at hj ⊢
            rw [Nat.add_comm 1 j]
            exact hc j (by omega)
          intro v3 w3 h3
          clear hc
          go_wp2_with fail
          go_meet
          exact ⟨rfl, by simpa using h3⟩
      case rest =>
        obtain ⟨rfl, h3⟩ := hcut
        clear h2 hmin
        have hn7' : (nd : Int) ≤ 7 := by omega
        go_wp2_with fail
        go_loopw [0, 114] (fun s0 s114 wr => ∃ j : Nat, s114 = .int .i64 j ∧ nd + j ≤ 7 ∧ St B (Buf d g T) w0 wr s0 (sgn neg ++ [z0] ++ [46] ++ part d nd ++ List.replicate j 48)) (fun _ s114 _ => 7 - (intOf s114).toNat)
        case atStart => exact ⟨0, rfl, by omega, by simpa using h3⟩
        case round =>
          obtain ⟨j, rfl, hj, h4⟩ := hrel
          clear h3
          rcases Nat.lt_or_ge (nd + j) 7 with hlt | hge
          · have hlt' : (j : Int) < 7 - nd := by omega
            go_wp2_with (at_builtin; refine app_new hD h4 _ _ [48] rfl rfl rfl rfl (by simp [part_len]; omega) ?_; intro v5 w5 h5)
            go_roundw
            case rel => exact ⟨j + 1, by go_num, by omega, by simpa [List.replicate_succ'] using h5⟩
            case measure => simp [intOf]; omega
          · have hge' : ¬ ((j : Int) < 7 - nd) := by omega
            go_wp2_with fail
            go_meet
            rw [← mant_split d nd hn1 hn7 HZ.out z0 HZ0.out, show 7 - nd = j by omega]
            simpa using h4
    case rest =>
      have hq := hcut
      have hml : (mant d).length = 8 := by simp [mant]
      clear h1 hcut
      rcases Int.lt_or_le X 0 with hs | hs
      · obtain ⟨e, rfl⟩ : ∃ e : Nat, X = -(e : Int) := ⟨X.natAbs, by omega⟩
        have hX : -(e : Int) + 1 - 1 = -(e : Int) := by omega
        have he : (0 : Int) < e := by omega
        have he1 : (e : Int) ≤ 400 := by omega
        clear hs hX0 hX1
        go_upto_block 3 with (first | (at_builtin; refine app_new hD hq _ _ [101] rfl rfl rfl rfl (by simp; omega) ?_; intro v6 w6 h6; clear hq) | (at_builtin; refine app_new hD h6 _ _ [45] rfl rfl rfl rfl (by simp; omega) ?_; intro v7 w7 h7; clear h6))
        rcases Nat.lt_or_ge e 10 with h10 | h10
        · have h10' : (e : Int) < 10 := by omega
          go_wp2_with (at_builtin; refine app_new hD h7 _ _ [48, _] rfl rfl rfl rfl (by simp; omega) ?_; intro v8 w8 h8)
          go_ret
          exact ⟨_, rfl, by rw [txt_neg_1 neg d e 101 h10 (by omega)]; exact h8⟩
        · have h10' : ¬ ((e : Int) < 10) := by omega
          rcases Nat.lt_or_ge e 100 with h100 | h100
          · have h100' : (e : Int) < 100 := by omega
            go_wp2_with (at_builtin; refine app_new hD h7 _ _ [_, _] rfl rfl rfl rfl (by simp; omega) ?_; intro v8 w8 h8)
            go_ret
            exact ⟨_, rfl, by rw [txt_neg_2 neg d e 101 h10 h100 (by omega)]; exact h8⟩
          · have h100' : ¬ ((e : Int) < 100) := by omega
            go_wp2_with (at_builtin; refine app_new hD h7 _ _ [_, _, _] rfl rfl rfl rfl (by simp; omega) ?_; intro v8 w8 h8)
            go_ret
            exact ⟨_, rfl, by rw [txt_neg_3 neg d e 101 h100 (by omega)]; exact h8⟩
      · obtain ⟨e, rfl⟩ : ∃ e : Nat, X = (e : Int) := ⟨X.natAbs, by omega⟩
        have hX : (e : Int) + 1 - 1 = (e : Int) := by omega
        have he1 : (e : Int) ≤ 400 := by omega
        clear hs hX0 hX1
        go_upto_block 3 with (first | (at_builtin; refine app_new hD hq _ _ [101] rfl rfl rfl rfl (by simp; omega) ?_; intro v6 w6 h6; clear hq) | (at_builtin; refine app_new hD h6 _ _ [43] rfl rfl rfl rfl (by simp; omega) ?_; intro v7 w7 h7; clear h6))
        rcases Nat.lt_or_ge e 10 with h10 | h10
        · have h10' : (e : Int) < 10 := by omega
          go_wp2_with (at_builtin; refine app_new hD h7 _ _ [48, _] rfl rfl rfl rfl (by simp; omega) ?_; intro v8 w8 h8)
          go_ret
          exact ⟨_, rfl, by rw [txt_pos_1 neg d e 101 h10]; exact h8⟩
        · have h10' : ¬ ((e : Int) < 10) := by omega
          rcases Nat.lt_or_ge e 100 with h100 | h100
          · have h100' : (e : Int) < 100 := by omega
            go_wp2_with (at_builtin; refine app_new hD h7 _ _ [_, _] rfl rfl rfl rfl (by simp; omega) ?_; intro v8 w8 h8)
            go_ret
            exact ⟨_, rfl, by rw [txt_pos_2 neg d e 101 h10 h100]; exact h8⟩
          · have h100' : ¬ ((e : Int) < 100) := by omega
            go_wp2_with (at_builtin; refine app_new hD h7 _ _ [_, _, _] rfl rfl rfl rfl (by simp; omega) ?_; intro v8 w8 h8)
            go_ret
            exact ⟨_, rfl, by rw [txt_pos_3 neg d e 101 h100]; exact h8⟩
end Go.Proofs.YtgjfjbghdpcllaaGreatDoor
