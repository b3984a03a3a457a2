import Derived.Test.YtkefklemcoehmaaGreatDoorLe
import Derived.Test.YtkefklemcoehmaaGreatDoorNum
import Derived.Test.YtkefklemcoehmaaGreatDoorOwe
/-! Floating-point numbers by their bits. -/
namespace Go.Proofs.YtkefklemcoehmaaGreatDoor.Flt
open Go.Proofs.YtkefklemcoehmaaGreatDoor.Le Go.Proofs.YtkefklemcoehmaaGreatDoor.Num Go.Proofs.YtkefklemcoehmaaGreatDoor.Owe Go.Proofs.YtkefklemcoehmaaGreatDoor.Lst Go.Proofs.YtkefklemcoehmaaGreatDoor.Aid Go.RowKit Go.Proofs.YtkefklemcoehmaaGreatDoorW.PrintWords Go.Proofs.YtkefklemcoehmaaGreatDoorW.PrintLast Go.Proofs.YtkefklemcoehmaaGreatDoorW.PrintMore
set_option linter.unusedVariables false
set_option linter.unusedSimpArgs false
def f32 (n : Int) : Value := .float .f32 n.toNat
def f64 (n : Int) : Value := .float .f64 n.toNat
theorem f32_one (n : Int) : (f32 n).oneCell' = true := rfl
theorem f64_one (n : Int) : (f64 n).oneCell' = true := rfl
end Go.Proofs.YtkefklemcoehmaaGreatDoor.Flt
