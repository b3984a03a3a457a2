import Derived.Test.YtigmcdpjlkgocaaGreatDoorLe
import Derived.Test.YtigmcdpjlkgocaaGreatDoorNum
import Derived.Test.YtigmcdpjlkgocaaGreatDoorOwe
/-! Floating-point numbers by their bits. -/
namespace Go.Proofs.YtigmcdpjlkgocaaGreatDoor.Flt
open Go.Proofs.YtigmcdpjlkgocaaGreatDoor.Le Go.Proofs.YtigmcdpjlkgocaaGreatDoor.Num Go.Proofs.YtigmcdpjlkgocaaGreatDoor.Owe Go.Proofs.YtigmcdpjlkgocaaGreatDoor.Lst Go.Proofs.YtigmcdpjlkgocaaGreatDoor.Aid Go.RowKit Go.Proofs.YtigmcdpjlkgocaaGreatDoorW.PrintWords Go.Proofs.YtigmcdpjlkgocaaGreatDoorW.PrintLast Go.Proofs.YtigmcdpjlkgocaaGreatDoorW.PrintMore
set_option linter.unusedVariables false
set_option linter.unusedSimpArgs false
def f32 (n : Int) : Value := .float .f32 n.toNat
def f64 (n : Int) : Value := .float .f64 n.toNat
theorem f32_one (n : Int) : (f32 n).oneCell' = true := rfl
theorem f64_one (n : Int) : (f64 n).oneCell' = true := rfl
end Go.Proofs.YtigmcdpjlkgocaaGreatDoor.Flt
