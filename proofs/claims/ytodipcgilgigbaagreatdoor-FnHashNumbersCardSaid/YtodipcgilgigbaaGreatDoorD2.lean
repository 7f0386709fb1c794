/- More of the mirror: the functions of spec's Int that FnAsFloat needs besides. -/
import Derived.Test.YtodipcgilgigbaaGreatDoorD
namespace Go.Proofs.YtodipcgilgigbaaGreatDoor.I
open Go Go.RowKit Go.Proofs.YtodipcgilgigbaaGreatDoorW.PrintWords Go.Proofs.YtodipcgilgigbaaGreatDoorW.PrintMore
set_option linter.unusedVariables false
/-! ### spec_Int_Rsh -/
def spec_Int_Rsh.f (k : Nat) (a0_0 : Bool) (l0_1 : List Int) (a1 : Int) : Option (Bool × List Int) := if a1 > (wrap64 (8 * (l0_1.length : Int))) then (if a0_0 = true then ((spec_Small.f k (-1)).bind fun bt267 => (some (bt267.1, bt267.2))) else (some (false, ([] : List Int)))) else ((spec_Power.f k a1).bind fun bt271 => ((spec_Int_Floor.f k a0_0 l0_1 bt271.1 bt271.2).bind fun bt275 => (some (bt275.1, bt275.2.1))))

/-! ### spec_Int_Minus -/
def spec_Int_Minus.f (k : Nat) (a0_0 : Bool) (l0_1 : List Int) : Option (Bool × List Int) := (spec_Of.f k (!a0_0) l0_1).bind fun bt312 => (some (bt312.1, bt312.2))

/-! ### spec_Int_Sub -/
def spec_Int_Sub.f (k : Nat) (a0_0 : Bool) (l0_1 : List Int) (a1_0 : Bool) (l1_1 : List Int) : Option (Bool × List Int) := (spec_Int_Minus.f k a1_0 l1_1).bind fun bt319 => ((spec_Int_Add.f k a0_0 l0_1 bt319.1 bt319.2).bind fun bt323 => (some (bt323.1, bt323.2)))


end Go.Proofs.YtodipcgilgigbaaGreatDoor.I
