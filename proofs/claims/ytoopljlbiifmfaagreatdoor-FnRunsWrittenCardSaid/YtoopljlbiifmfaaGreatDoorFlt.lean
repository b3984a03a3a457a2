import Derived.Test.YtoopljlbiifmfaaGreatDoorLe
import Derived.Test.YtoopljlbiifmfaaGreatDoorNum
import Derived.Test.YtoopljlbiifmfaaGreatDoorOwe
/-! Floating-point numbers by their bits. -/
namespace Go.Proofs.YtoopljlbiifmfaaGreatDoor.Flt
open Go.Proofs.YtoopljlbiifmfaaGreatDoor.Le Go.Proofs.YtoopljlbiifmfaaGreatDoor.Num Go.Proofs.YtoopljlbiifmfaaGreatDoor.Owe Go.Proofs.YtoopljlbiifmfaaGreatDoor.Lst Go.Proofs.YtoopljlbiifmfaaGreatDoor.Aid Go.RowKit Go.Proofs.YtoopljlbiifmfaaGreatDoorW.PrintWords Go.Proofs.YtoopljlbiifmfaaGreatDoorW.PrintLast Go.Proofs.YtoopljlbiifmfaaGreatDoorW.PrintMore
set_option linter.unusedVariables false
set_option linter.unusedSimpArgs false
def f32 (n : Int) : Value := .float .f32 n.toNat
def f64 (n : Int) : Value := .float .f64 n.toNat
theorem f32_one (n : Int) : (f32 n).oneCell' = true := rfl
theorem f64_one (n : Int) : (f64 n).oneCell' = true := rfl
end Go.Proofs.YtoopljlbiifmfaaGreatDoor.Flt
