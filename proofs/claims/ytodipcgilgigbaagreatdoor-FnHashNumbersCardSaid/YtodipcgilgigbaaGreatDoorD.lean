/- Plain arithmetic on whole numbers as bytes: the functions of spec's Int as the kit's print tells them, and what they give. No program in sight. -/
import Derived.Test.YtodipcgilgigbaaGreatDoorWK
namespace Go.Proofs.YtodipcgilgigbaaGreatDoor.I
open Go Go.RowKit Go.Proofs.YtodipcgilgigbaaGreatDoorW.PrintWords Go.Proofs.YtodipcgilgigbaaGreatDoorW.PrintMore
set_option linter.unusedVariables false

/-! ### spec_cut -/
def spec_cut.l0 : Nat → List Int → Int → Option (List Int)
  | 0, _, _ => none
  | k + 1, x0, x3 => if x3 < (x0.length : Int) then (if 0 ≤ x3 then (if (rd x0 x3) = 0 then (spec_cut.l0 k x0 (wrap64 (x3 + 1))) else ((some (([] : List Int) : List Int)).bind fun y279 => (if x3 ≤ (x0.length : Int) then (if y279.length + (x0.drop (x3 : Int).toNat).length < 140737488355328 then (some (y279 ++ (x0.drop (x3 : Int).toNat))) else (none)) else (none)))) else (none)) else ((some (([] : List Int) : List Int)).bind fun y286 => (if 0 ≤ x3 then (if x3 ≤ (x0.length : Int) then (if y286.length + (x0.drop (x3 : Int).toNat).length < 140737488355328 then (some (y286 ++ (x0.drop (x3 : Int).toNat))) else (none)) else (none)) else (none)))
def spec_cut.f (k : Nat) (l0 : List Int) : Option (List Int) := spec_cut.l0 k l0 0

/-! ### spec_Of -/
def spec_Of.f (k : Nat) (a0 : Bool) (l1 : List Int) : Option (Bool × List Int) := (spec_cut.f k l1).bind fun t294 => (if a0 = true then (some (decide (0 < t294.length), t294)) else (some (false, t294)))

/-! ### spec_bytesOf -/
def spec_bytesOf.l0 : Nat → Int → List Int → Int → Option (List Int)
  | 0, _, _, _ => none
  | k + 1, x0, x3, x4 => if x4 ≥ 0 then (if 0 ≤ x4 then (if x4 < (x3.length : Int) then (spec_bytesOf.l0 k (x0 / 256) (x3.set (x4 : Int).toNat ((x0) % 256)) (wrap64 (x4 - 1))) else (none)) else (none)) else (some x3)
def spec_bytesOf.f (k : Nat) (a0 : Int) : Option (List Int) := if 8 ≤ 281474976710656 then (spec_bytesOf.l0 k a0 (List.replicate 8 0) 7) else (none)

/-! ### spec_Small -/
def spec_Small.f (k : Nat) (a0 : Int) : Option (Bool × List Int) := if a0 < 0 then ((spec_bytesOf.f k (IntKind.u64.wrap (-(IntKind.u64.wrap (a0))))).bind fun t302 => ((spec_Of.f k (decide (a0 < 0)) t302).bind fun bt305 => (some (bt305.1, bt305.2)))) else ((spec_bytesOf.f k (IntKind.u64.wrap (a0))).bind fun t309 => ((spec_Of.f k (decide (a0 < 0)) t309).bind fun bt312 => (some (bt312.1, bt312.2))))

/-! ### spec_digit -/
def spec_digit.f (l0 : List Int) (a1 : Int) : Option (Int) := if a1 ≥ (l0.length : Int) then (some 0) else (if 0 ≤ (wrap64 ((wrap64 ((l0.length : Int) - 1)) - a1)) then (if (wrap64 ((wrap64 ((l0.length : Int) - 1)) - a1)) < (l0.length : Int) then (some (wrap64 (rd l0 (wrap64 ((wrap64 ((l0.length : Int) - 1)) - a1))))) else (none)) else (none))

/-! ### spec_bit -/
def spec_bit.f (l0 : List Int) (a1 : Int) : Option (Int) := (spec_digit.f l0 (wrap64 (Int.tdiv a1 8))).bind fun t317 => (if 0 ≤ (IntKind.u64.wrap (Int.tmod a1 8)) then (some (Go.bits .and .i64 (shr .i64 t317 (IntKind.u64.wrap (Int.tmod a1 8))) 1)) else (none))

/-! ### spec_Int_Length -/
def spec_Int_Length.l0 : Nat → Int → Bool → List Int → Option (Int)
  | 0, _, _, _ => none
  | k + 1, x3, x319000, x319001 => if x3 > 0 then ((spec_bit.f x319001 (wrap64 (x3 - 1))).bind fun t319 => (if t319 = 1 then (some x3) else (spec_Int_Length.l0 k (wrap64 (x3 - 1)) x319000 x319001))) else (some 0)
def spec_Int_Length.f (k : Nat) (a0_0 : Bool) (l0_1 : List Int) : Option (Int) := spec_Int_Length.l0 k (wrap64 (8 * (l0_1.length : Int))) a0_0 l0_1

/-! ### spec_Int_Mul -/
mutual
def spec_Int_Mul.l0 : Nat → Int → List Int → Int → Bool → List Int → Bool → List Int → Option (Bool × List Int)
  | 0, _, _, _, _, _, _, _ => none
  | k + 1, x5, x6, x7, x321000, x321001, x322000, x322001 => if x7 < (x321001.length : Int) then (spec_Int_Mul.l1 k x5 x6 x7 0 0 x321000 x321001 x322000 x322001) else (if 0 ≤ x5 then (if (x5 : Int).toNat ≤ 281474976710656 then (spec_Int_Mul.l2 k x5 x6 (List.replicate (x5 : Int).toNat 0) 0 x321000 x321001 x322000 x322001) else (none)) else (none))
def spec_Int_Mul.l1 : Nat → Int → List Int → Int → Int → Int → Bool → List Int → Bool → List Int → Option (Bool × List Int)
  | 0, _, _, _, _, _, _, _, _, _ => none
  | k + 1, x5, x6, x7, x8, x9, x321000, x321001, x322000, x322001 => if x9 < (x322001.length : Int) then (spec_Int_Mul.j2 k x5 x6 x7 x8 x9 true x321000 x321001 x322000 x322001) else (spec_Int_Mul.j2 k x5 x6 x7 x8 x9 (decide (x8 > 0)) x321000 x321001 x322000 x322001)
def spec_Int_Mul.j2 : Nat → Int → List Int → Int → Int → Int → Bool → Bool → List Int → Bool → List Int → Option (Bool × List Int)
  | 0, _, _, _, _, _, _, _, _, _, _ => none
  | k + 1, x5, x6, x7, x8, x9, x38, x321000, x321001, x322000, x322001 => if x38 = true then (if 0 ≤ (wrap64 (x7 + x9)) then (if (wrap64 (x7 + x9)) < (x6.length : Int) then ((spec_digit.f x321001 x7).bind fun t327 => ((spec_digit.f x322001 x9).bind fun t328 => (spec_Int_Mul.l1 k x5 (x6.set ((wrap64 (x7 + x9)) : Int).toNat (Int.tmod (wrap64 ((wrap64 ((rd x6 (wrap64 (x7 + x9))) + (wrap64 (t327 * t328)))) + x8)) 256)) x7 (wrap64 (Int.tdiv (wrap64 ((wrap64 ((rd x6 (wrap64 (x7 + x9))) + (wrap64 (t327 * t328)))) + x8)) 256)) (wrap64 (x9 + 1)) x321000 x321001 x322000 x322001))) else (none)) else (none)) else (spec_Int_Mul.l0 k x5 x6 (wrap64 (x7 + 1)) x321000 x321001 x322000 x322001)
def spec_Int_Mul.l2 : Nat → Int → List Int → List Int → Int → Bool → List Int → Bool → List Int → Option (Bool × List Int)
  | 0, _, _, _, _, _, _, _, _ => none
  | k + 1, x5, x6, x11, x12, x321000, x321001, x322000, x322001 => if x12 < x5 then (if 0 ≤ x12 then (if x12 < (x6.length : Int) then (if 0 ≤ (wrap64 ((wrap64 (x5 - 1)) - x12)) then (if (wrap64 ((wrap64 (x5 - 1)) - x12)) < (x11.length : Int) then (spec_Int_Mul.l2 k x5 x6 (x11.set ((wrap64 ((wrap64 (x5 - 1)) - x12)) : Int).toNat ((rd x6 x12) % 256)) (wrap64 (x12 + 1)) x321000 x321001 x322000 x322001) else (none)) else (none)) else (none)) else (none)) else ((spec_Of.f k (x321000 != x322000) x11).bind fun bt335 => (some (bt335.1, bt335.2)))
end
def spec_Int_Mul.f (k : Nat) (a0_0 : Bool) (l0_1 : List Int) (a1_0 : Bool) (l1_1 : List Int) : Option (Bool × List Int) := if 0 ≤ (wrap64 ((wrap64 ((l0_1.length : Int) + (l1_1.length : Int))) + 1)) then (if (wrap64 ((wrap64 ((l0_1.length : Int) + (l1_1.length : Int))) + 1) : Int).toNat ≤ 35184372088832 then (spec_Int_Mul.l0 k (wrap64 ((l0_1.length : Int) + (l1_1.length : Int))) (List.replicate (wrap64 ((wrap64 ((l0_1.length : Int) + (l1_1.length : Int))) + 1) : Int).toNat 0) 0 a0_0 l0_1 a1_0 l1_1) else (none)) else (none)

/-! ### spec_Int_Zero -/
def spec_Int_Zero.f (a0_0 : Bool) (l0_1 : List Int) : Option (Bool) := some ((l0_1.length : Int) == 0)

/-! ### spec_Power -/
def spec_Power.f (k : Nat) (a0 : Int) : Option (Bool × List Int) := if 0 ≤ (wrap64 ((wrap64 (Int.tdiv a0 8)) + 1)) then (if (wrap64 ((wrap64 (Int.tdiv a0 8)) + 1) : Int).toNat ≤ 281474976710656 then ((some (List.replicate (wrap64 ((wrap64 (Int.tdiv a0 8)) + 1) : Int).toNat 0 : List Int)).bind fun y341 => (if 0 ≤ (IntKind.u64.wrap (Int.tmod a0 8)) then (if 0 < (y341.length : Int) then ((spec_Of.f k false (y341.set (0 : Int).toNat (shl .u8 1 (IntKind.u64.wrap (Int.tmod a0 8))))).bind fun bt345 => (some (bt345.1, bt345.2))) else (none)) else (none))) else (none)) else (none)

/-! ### spec_Int_Lsh -/
def spec_Int_Lsh.f (k : Nat) (a0_0 : Bool) (l0_1 : List Int) (a1 : Int) : Option (Bool × List Int) := (spec_Int_Zero.f a0_0 l0_1).bind fun t351 => (if t351 = true then (some (false, ([] : List Int))) else ((spec_Power.f k a1).bind fun bt352 => ((spec_Int_Mul.f k a0_0 l0_1 bt352.1 bt352.2).bind fun bt356 => (some (bt356.1, bt356.2)))))

/-! ### spec_frontTens -/
mutual
def spec_frontTens.l0 : Nat → Int → Bool → List Int → Option (Bool × List Int)
  | 0, _, _, _ => none
  | k + 1, x0, x366000, x366001 => if x0 ≥ 15 then ((spec_Small.f k 1000000000000000).bind fun bt366 => ((spec_Int_Mul.f k x366000 x366001 bt366.1 bt366.2).bind fun bt370 => (spec_frontTens.l0 k (wrap64 (x0 - 15)) bt370.1 bt370.2))) else (spec_frontTens.l1 k x0 x366000 x366001)
def spec_frontTens.l1 : Nat → Int → Bool → List Int → Option (Bool × List Int)
  | 0, _, _, _ => none
  | k + 1, x0, x366000, x366001 => if x0 > 0 then ((spec_Small.f k 10).bind fun bt374 => ((spec_Int_Mul.f k x366000 x366001 bt374.1 bt374.2).bind fun bt378 => (spec_frontTens.l1 k (wrap64 (x0 - 1)) bt378.1 bt378.2))) else (some (x366000, x366001))
end
def spec_frontTens.f (k : Nat) (a0 : Int) : Option (Bool × List Int) := (spec_Small.f k 1).bind fun bt361 => (spec_frontTens.l0 k a0 bt361.1 bt361.2)

/-! ### spec_Int_Sign -/
def spec_Int_Sign.f (a0_0 : Bool) (l0_1 : List Int) : Option (Int) := (spec_Int_Zero.f a0_0 l0_1).bind fun t383 => (if t383 = true then (some 0) else (if a0_0 = true then (some (-1)) else (some 1)))

/-! ### spec_order -/
def spec_order.l0 : Nat → List Int → List Int → Int → Option (Int)
  | 0, _, _, _ => none
  | k + 1, x0, x1, x5 => if x5 < (x0.length : Int) then (if 0 ≤ x5 then (if x5 < (x1.length : Int) then (if (rd x0 x5) = (rd x1 x5) then (spec_order.l0 k x0 x1 (wrap64 (x5 + 1))) else (if (rd x0 x5) < (rd x1 x5) then (some (-1)) else (some 1))) else (none)) else (none)) else (some 0)
def spec_order.f (k : Nat) (l0 : List Int) (l1 : List Int) : Option (Int) := if (l0.length : Int) = (l1.length : Int) then (spec_order.l0 k l0 l1 0) else (if (l0.length : Int) < (l1.length : Int) then (some (-1)) else (some 1))

/-! ### spec_Int_Cmp -/
def spec_Int_Cmp.f (k : Nat) (a0_0 : Bool) (l0_1 : List Int) (a1_0 : Bool) (l1_1 : List Int) : Option (Int) := (spec_Int_Sign.f a0_0 l0_1).bind fun t390 => ((spec_Int_Sign.f a1_0 l1_1).bind fun t391 => (if t390 = t391 then (if a0_0 = true then ((spec_order.f k l1_1 l0_1).bind fun t394 => (some t394)) else ((spec_order.f k l0_1 l1_1).bind fun t395 => (some t395))) else ((spec_Int_Sign.f a0_0 l0_1).bind fun t392 => ((spec_Int_Sign.f a1_0 l1_1).bind fun t393 => (if t392 < t393 then (some (-1)) else (some 1))))))

/-! ### spec_sum -/
def spec_sum.l0 : Nat → List Int → List Int → Int → List Int → Int → Int → Option (List Int)
  | 0, _, _, _, _, _, _ => none
  | k + 1, x0, x1, x5, x6, x7, x8 => if x8 < x5 then ((spec_digit.f x0 x8).bind fun t399 => ((spec_digit.f x1 x8).bind fun t400 => (if 0 ≤ (wrap64 ((wrap64 (x5 - 1)) - x8)) then (if (wrap64 ((wrap64 (x5 - 1)) - x8)) < (x6.length : Int) then (spec_sum.l0 k x0 x1 x5 (x6.set ((wrap64 ((wrap64 (x5 - 1)) - x8)) : Int).toNat ((Int.tmod (wrap64 ((wrap64 (t399 + t400)) + x7)) 256) % 256)) (wrap64 (Int.tdiv (wrap64 ((wrap64 (t399 + t400)) + x7)) 256)) (wrap64 (x8 + 1))) else (none)) else (none)))) else ((spec_cut.f k x6).bind fun t402 => (some t402))
def spec_sum.f (k : Nat) (l0 : List Int) (l1 : List Int) : Option (List Int) := if 0 ≤ (wrap64 ((mx (l0.length : Int) (l1.length : Int)) + 1)) then (if (wrap64 ((mx (l0.length : Int) (l1.length : Int)) + 1) : Int).toNat ≤ 281474976710656 then (spec_sum.l0 k l0 l1 (wrap64 ((mx (l0.length : Int) (l1.length : Int)) + 1)) (List.replicate (wrap64 ((mx (l0.length : Int) (l1.length : Int)) + 1) : Int).toNat 0) 0 0) else (none)) else (none)

/-! ### spec_less -/
def spec_less.l0 : Nat → List Int → List Int → List Int → Int → Int → Option (List Int)
  | 0, _, _, _, _, _ => none
  | k + 1, x0, x1, x5, x6, x7 => if x7 < (x0.length : Int) then ((spec_digit.f x0 x7).bind fun t411 => ((spec_digit.f x1 x7).bind fun t412 => (if (wrap64 ((wrap64 (t411 - t412)) - x6)) < 0 then (if 0 ≤ (wrap64 ((wrap64 ((x0.length : Int) - 1)) - x7)) then (if (wrap64 ((wrap64 ((x0.length : Int) - 1)) - x7)) < (x5.length : Int) then (spec_less.l0 k x0 x1 (x5.set ((wrap64 ((wrap64 ((x0.length : Int) - 1)) - x7)) : Int).toNat ((wrap64 ((wrap64 ((wrap64 (t411 - t412)) - x6)) + 256)) % 256)) 1 (wrap64 (x7 + 1))) else (none)) else (none)) else (if 0 ≤ (wrap64 ((wrap64 ((x0.length : Int) - 1)) - x7)) then (if (wrap64 ((wrap64 ((x0.length : Int) - 1)) - x7)) < (x5.length : Int) then (spec_less.l0 k x0 x1 (x5.set ((wrap64 ((wrap64 ((x0.length : Int) - 1)) - x7)) : Int).toNat ((wrap64 ((wrap64 (t411 - t412)) - x6)) % 256)) 0 (wrap64 (x7 + 1))) else (none)) else (none))))) else ((spec_cut.f k x5).bind fun t408 => (some t408))
def spec_less.f (k : Nat) (l0 : List Int) (l1 : List Int) : Option (List Int) := if 0 ≤ (l0.length : Int) then (if ((l0.length : Int) : Int).toNat ≤ 281474976710656 then (spec_less.l0 k l0 l1 (List.replicate ((l0.length : Int) : Int).toNat 0) 0 0) else (none)) else (none)

/-! ### spec_split -/
mutual
def spec_split.l0 : Nat → List Int → List Int → List Int → List Int → Int → Option (List Int × List Int)
  | 0, _, _, _, _, _ => none
  | k + 1, x0, x1, x6, x7, x8 => if x8 ≥ 0 then ((spec_sum.f k x7 x7).bind fun t424 => ((spec_bit.f x0 x8).bind fun t427 => (if t427 = 1 then ((spec_sum.f k t424 (([1] : List Int))).bind fun t431 => (spec_split.j1 k x0 x1 x6 t431 x8)) else (spec_split.j1 k x0 x1 x6 t424 x8)))) else ((spec_cut.f k x6).bind fun t421 => (some (t421, x7)))
def spec_split.j1 : Nat → List Int → List Int → List Int → List Int → Int → Option (List Int × List Int)
  | 0, _, _, _, _, _ => none
  | k + 1, x0, x1, x6, x7, x8 => (spec_order.f k x7 x1).bind fun t434 => (if t434 ≥ 0 then ((spec_less.f k x7 x1).bind fun t435 => (if 0 ≤ (wrap64 ((wrap64 ((x0.length : Int) - 1)) - (wrap64 (Int.tdiv x8 8)))) then (if (wrap64 ((wrap64 ((x0.length : Int) - 1)) - (wrap64 (Int.tdiv x8 8)))) < (x6.length : Int) then (if 0 ≤ (IntKind.u64.wrap (Int.tmod x8 8)) then (spec_split.l0 k x0 x1 (x6.set ((wrap64 ((wrap64 ((x0.length : Int) - 1)) - (wrap64 (Int.tdiv x8 8)))) : Int).toNat (Go.bits .or .u8 (rd x6 (wrap64 ((wrap64 ((x0.length : Int) - 1)) - (wrap64 (Int.tdiv x8 8))))) (shl .u8 1 (IntKind.u64.wrap (Int.tmod x8 8))))) t435 (wrap64 (x8 - 1))) else (none)) else (none)) else (none))) else (spec_split.l0 k x0 x1 x6 x7 (wrap64 (x8 - 1))))
end
def spec_split.f (k : Nat) (l0 : List Int) (l1 : List Int) : Option (List Int × List Int) := if 0 ≤ (l0.length : Int) then (if ((l0.length : Int) : Int).toNat ≤ 281474976710656 then (spec_split.l0 k l0 l1 (List.replicate ((l0.length : Int) : Int).toNat 0) (([] : List Int)) (wrap64 ((wrap64 (8 * (l0.length : Int))) - 1))) else (none)) else (none)

/-! ### spec_Int_Floor -/
def spec_Int_Floor.f (k : Nat) (a0_0 : Bool) (l0_1 : List Int) (a1_0 : Bool) (l1_1 : List Int) : Option (Bool × List Int × Bool × List Int) := (spec_split.f k l0_1 l1_1).bind fun bt444 => (if (a0_0 == a1_0) = true then ((spec_Of.f k false bt444.1).bind fun bt450 => ((spec_Of.f k a1_0 bt444.2).bind fun bt454 => (some (bt450.1, bt450.2, bt454.1, bt454.2)))) else (if (bt444.2.length : Int) = 0 then ((spec_Of.f k true bt444.1).bind fun bt458 => (some (bt458.1, bt458.2, false, ([] : List Int)))) else ((spec_sum.f k bt444.1 (([1] : List Int))).bind fun t465 => ((spec_Of.f k true t465).bind fun bt468 => ((spec_less.f k l1_1 bt444.2).bind fun t472 => ((spec_Of.f k a1_0 t472).bind fun bt475 => (some (bt468.1, bt468.2, bt475.1, bt475.2))))))))

/-! ### spec_Int_Add -/
def spec_Int_Add.f (k : Nat) (a0_0 : Bool) (l0_1 : List Int) (a1_0 : Bool) (l1_1 : List Int) : Option (Bool × List Int) := if (a0_0 == a1_0) = true then ((spec_sum.f k l0_1 l1_1).bind fun t482 => ((spec_Of.f k a0_0 t482).bind fun bt485 => (some (bt485.1, bt485.2)))) else ((spec_order.f k l0_1 l1_1).bind fun t489 => (if t489 ≥ 0 then ((spec_less.f k l0_1 l1_1).bind fun t490 => ((spec_Of.f k a0_0 t490).bind fun bt493 => (some (bt493.1, bt493.2)))) else ((spec_less.f k l1_1 l0_1).bind fun t497 => ((spec_Of.f k a1_0 t497).bind fun bt500 => (some (bt500.1, bt500.2))))))

/-! ### spec_Int_low -/
def spec_Int_low.l0 : Nat → Int → Int → Bool → List Int → Option (Int)
  | 0, _, _, _, _ => none
  | k + 1, x3, x4, x505000, x505001 => if x4 ≥ 0 then ((spec_digit.f x505001 x4).bind fun t505 => (spec_Int_low.l0 k (Go.bits .or .u64 (IntKind.u64.wrap (x3 * 256)) (IntKind.u64.wrap (t505))) (wrap64 (x4 - 1)) x505000 x505001)) else (some x3)
def spec_Int_low.f (k : Nat) (a0_0 : Bool) (l0_1 : List Int) : Option (Int) := spec_Int_low.l0 k 0 7 a0_0 l0_1

/-! ### spec_near -/
def spec_near.j0 : Nat → Bool → Bool → List Int → Option (Bool × List Int)
  | 0, _, _, _ => none
  | k + 1, x30, x518000, x518001 => if x30 = true then ((spec_Small.f k 1).bind fun bt525 => ((spec_Int_Add.f k x518000 x518001 bt525.1 bt525.2).bind fun bt529 => (some (bt529.1, bt529.2)))) else (some (x518000, x518001))
def spec_near.f (k : Nat) (a0_0 : Bool) (l0_1 : List Int) (a1_0 : Bool) (l1_1 : List Int) : Option (Bool × List Int) := (spec_Int_Floor.f k a0_0 l0_1 a1_0 l1_1).bind fun bt509 => ((spec_Int_Add.f k bt509.2.2.1 bt509.2.2.2 bt509.2.2.1 bt509.2.2.2).bind fun bt519 => ((spec_Int_Cmp.f k bt519.1 bt519.2 a1_0 l1_1).bind fun t523 => (if t523 > 0 then (spec_near.j0 k true bt509.1 bt509.2.1) else (if t523 = 0 then ((spec_Int_low.f k bt509.1 bt509.2.1).bind fun t524 => (spec_near.j0 k ((Go.bits .and .u64 t524 1) == 1) bt509.1 bt509.2.1)) else (spec_near.j0 k false bt509.1 bt509.2.1)))))

/-! ### spec_Int_Base -/
mutual
def spec_Int_Base.l0 : Nat → Int → List Int → List Int → Bool → List Int → Option (ByteArray)
  | 0, _, _, _, _, _ => none
  | k + 1, x1, x5, x6, x534000, x534001 => if (x6.length : Int) > 0 then (spec_Int_Base.l1 k x1 x5 x6 0 0 x534000 x534001) else (if x534000 = true then (if x5.length < 140737488355328 then (spec_Int_Base.j2 k (x5 ++ [45])) else (none)) else (spec_Int_Base.j2 k x5))
def spec_Int_Base.l1 : Nat → Int → List Int → List Int → Int → Int → Bool → List Int → Option (ByteArray)
  | 0, _, _, _, _, _, _, _ => none
  | k + 1, x1, x5, x6, x7, x8, x534000, x534001 => if x8 < (x6.length : Int) then (if 0 ≤ x8 then (if x1 = 0 then (none) else (spec_Int_Base.l1 k x1 x5 (x6.set (x8 : Int).toNat ((wrap64 (Int.tdiv (wrap64 ((wrap64 (x7 * 256)) + (wrap64 (rd x6 x8)))) x1)) % 256)) (Int.tmod (wrap64 ((wrap64 (x7 * 256)) + (wrap64 (rd x6 x8)))) x1) (wrap64 (x8 + 1)) x534000 x534001)) else (none)) else ((spec_cut.f k x6).bind fun t546 => (if 0 ≤ x7 then (if x7 < 36 then (if x5.length < 140737488355328 then (spec_Int_Base.l0 k x1 (x5 ++ [bt (⟨#[48, 49, 50, 51, 52, 53, 54, 55, 56, 57, 97, 98, 99, 100, 101, 102, 103, 104, 105, 106, 107, 108, 109, 110, 111, 112, 113, 114, 115, 116, 117, 118, 119, 120, 121, 122]⟩ : ByteArray) x7]) t546 x534000 x534001) else (none)) else (none)) else (none)))
def spec_Int_Base.j2 : Nat → List Int → Option (ByteArray)
  | 0, _ => none
  | k + 1, x5 => spec_Int_Base.l2 k x5 0 (wrap64 ((x5.length : Int) - 1))
def spec_Int_Base.l2 : Nat → List Int → Int → Int → Option (ByteArray)
  | 0, _, _, _ => none
  | k + 1, x5, x9, x10 => if x9 < x10 then (if 0 ≤ x10 then (if x10 < (x5.length : Int) then (if 0 ≤ x9 then (if x9 < (x5.length : Int) then (spec_Int_Base.l2 k ((x5.set (x9 : Int).toNat (rd x5 x10)).set (x10 : Int).toNat (rd x5 x9)) (wrap64 (x9 + 1)) (wrap64 (x10 - 1))) else (none)) else (none)) else (none)) else (none)) else (some (strOfNums x5))
end
def spec_Int_Base.f (k : Nat) (a0_0 : Bool) (l0_1 : List Int) (a1 : Int) : Option (ByteArray) := (spec_Int_Zero.f a0_0 l0_1).bind fun t534 => (if t534 = true then (some (⟨#[48]⟩ : ByteArray)) else ((some (([] : List Int) : List Int)).bind fun y538 => (if y538.length + l0_1.length < 140737488355328 then (spec_Int_Base.l0 k a1 (([] : List Int)) (y538 ++ l0_1) a0_0 l0_1) else (none))))

/-! ### spec_Int_Text -/
def spec_Int_Text.f (k : Nat) (a0_0 : Bool) (l0_1 : List Int) : Option (ByteArray) := (spec_Int_Base.f k a0_0 l0_1 10).bind fun t560 => (some t560)

/-! ### spec_padded -/
def spec_padded.l0 : Nat → ByteArray → Int → Option (ByteArray)
  | 0, _, _ => none
  | k + 1, x0, x1 => if (x0.size : Int) < x1 then (if 1 + x0.size ≤ 9223372036854775807 then (spec_padded.l0 k ((⟨#[48]⟩ : ByteArray) ++ x0) x1) else (none)) else (some x0)
def spec_padded.f (k : Nat) (a0 : ByteArray) (a1 : Int) : Option (ByteArray) := spec_padded.l0 k a0 a1


end Go.Proofs.YtodipcgilgigbaaGreatDoor.I
