/- Texts of digits. Plain: no program in sight. -/
import Derived.Test.YtgjfjbghdpcllaaGreatDoorJ1
import Derived.Test.YtgjfjbghdpcllaaGreatDoorS4
namespace Go.Proofs.YtgjfjbghdpcllaaGreatDoor
open Go Go.RowKit U I

theorem pad_decl : ∀ (j n : Nat), n < 10 ^ j → List.replicate (j - (decl n).length) 48 ++ (decl n).reverse = (List.range j).map fun i => ((48 + n / 10 ^ (j - 1 - i) % 10 : Nat) : Int)
  | 0, n, h => by
    obtain rfl : n = 0 := by omega
    rw [decl_zero]; rfl
  | j + 1, n, h => by
    have h' : n / 10 < 10 ^ j := by rw [Nat.pow_succ] at h; omega
    have ih := pad_decl j (n / 10) h'
    have last : ∀ i, i < j → n / 10 / 10 ^ (j - 1 - i) = n / 10 ^ (j - i) := by
      intro i hi
      rw [Nat.div_div_eq_div_mul, Nat.mul_comm, ← Nat.pow_succ]
      congr 2
      omega
    rw [List.range_succ, List.map_append]
    have hm : ((List.range j).map fun i => ((48 + n / 10 ^ (j + 1 - 1 - i) % 10 : Nat) : Int)) = (List.range j).map fun i => ((48 + n / 10 / 10 ^ (j - 1 - i) % 10 : Nat) : Int) := by
      apply List.map_congr_left
      intro i hi
      rw [last i (List.mem_range.1 hi), show j + 1 - 1 - i = j - i by omega]
    rw [hm, ← ih]
    by_cases hn : n = 0
    · subst hn
      rw [decl_zero]
      simp [List.replicate_succ']
    · rw [decl_pos hn]
      simp
theorem pad_decs (j n : Nat) (h : n < 10 ^ (j + 1)) : List.replicate (j + 1 - (decs n).length) 48 ++ decs n = (List.range (j + 1)).map fun i => ((48 + n / 10 ^ (j + 1 - 1 - i) % 10 : Nat) : Int) := by
  rw [← pad_decl (j + 1) n h]
  unfold decs
  by_cases hn : n = 0
  · subst hn
    simp [decl_zero, List.replicate_succ']
  · rw [if_neg hn]
    simp
theorem pad7 (d : Nat) (h : d < 10000000) : List.replicate (7 - (decs d).length) 48 ++ decs d = digs d 7 := pad_decs 6 d h
theorem decl_step (n : Nat) (h : 0 < n) : (decl n).length = (decl (n / 10)).length + 1 := by rw [decl_pos (by omega)]; simp
theorem decs_len7 (n : Nat) (h0 : 1000000 ≤ n) (h1 : n < 10000000) : (decs n).length = 7 := by
  unfold decs
  rw [if_neg (by omega), List.length_reverse]
  iterate 7 rw [decl_step _ (by omega)]
  rw [show n / 10 / 10 / 10 / 10 / 10 / 10 / 10 = 0 by omega, decl_zero]; rfl
theorem decs_len8 : (decs 10000000).length = 8 := by
  unfold decs
  rw [if_neg (by omega), List.length_reverse]
  iterate 8 rw [decl_step _ (by omega)]
  rw [show 10000000 / 10 / 10 / 10 / 10 / 10 / 10 / 10 / 10 = 0 by omega, decl_zero]; rfl
theorem pad_expo (X : Int) (e : Nat) (hX : X.natAbs = e) (he : e < 1000) : List.replicate (2 - (decs e).length) 48 ++ decs e = expo X := by
  unfold expo
  rw [hX]
  by_cases h : e < 100
  · rw [pad_decs 1 e h]
    by_cases h1 : e < 10
    · rw [if_pos h1]
      simp [List.range_succ]
      omega
    · rw [if_neg h1, if_pos h]
      simp [List.range_succ]
      omega
  · rw [if_neg (by omega), if_neg h]
    have hd : decs e = [((48 + e / 100 : Nat) : Int), ((48 + e / 10 % 10 : Nat) : Int), ((48 + e % 10 : Nat) : Int)] := by
      unfold decs
      rw [if_neg (by omega), decl_pos (by omega), decl_pos (n := e / 10) (by omega), decl_pos (n := e / 10 / 10) (by omega), show e / 10 / 10 / 10 = 0 by omega, decl_zero]
      have a : e / 10 / 10 % 10 = e / 100 := by omega
      simp [a]
    rw [hd]; rfl
theorem son_append (a b : List Int) : strOfNums (a ++ b) = strOfNums a ++ strOfNums b := by
  apply ByteArray.ext
  simp [strOfNums, ByteArray.data_append]
theorem son_take (l : List Int) (k : Nat) : (strOfNums l).extract 0 k = strOfNums (l.take k) := by
  apply ByteArray.ext
  simp [strOfNums, ByteArray.data_extract]
theorem son_drop (l : List Int) (k n : Nat) (h : n = l.length) : (strOfNums l).extract k n = strOfNums (l.drop k) := by
  subst h
  apply ByteArray.ext
  simp [strOfNums, ByteArray.data_extract]
  rw [List.take_of_length_le (by simp)]
theorem text_same (neg : Bool) (d : Nat) (X c : Int) : pwText (strOfNums (digs d 7)) (strOfNums [c]) (strOfNums (expo X)) neg X = strOfNums (txt neg d X c) := by
  have e1 : (digs d 7).length = 7 := by simp [digs]
  have h45 : (⟨#[45]⟩ : ByteArray) = strOfNums [45] := rfl
  have h46 : (⟨#[46]⟩ : ByteArray) = strOfNums [46] := rfl
  have h43 : (⟨#[43]⟩ : ByteArray) = strOfNums [43] := rfl
  have hif : (if X < 0 then (⟨#[45]⟩ : ByteArray) else ⟨#[43]⟩) = strOfNums [if X < 0 then 45 else 43] := by split <;> rfl
  unfold pwText txt
  rw [hif, son_take, son_drop _ _ _ e1.symm, h45, h46]
  simp only [← son_append]
  cases neg
  · rw [if_neg (by decide)]
    simp [digs, mant, sgn, List.range_succ]
  · rw [if_pos rfl]
    simp [digs, mant, sgn, List.range_succ]
end Go.Proofs.YtgjfjbghdpcllaaGreatDoor
