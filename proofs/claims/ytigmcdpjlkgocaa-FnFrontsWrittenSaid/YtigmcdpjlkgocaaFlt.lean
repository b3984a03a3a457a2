import Derived.Test.YtigmcdpjlkgocaaLe
import Derived.Test.YtigmcdpjlkgocaaNum
import Derived.Test.YtigmcdpjlkgocaaOwe
/-! Floating-point numbers by their bits. -/
namespace Go.Proofs.Ytigmcdpjlkgocaa.Flt
open Go.Proofs.Ytigmcdpjlkgocaa.Le Go.Proofs.Ytigmcdpjlkgocaa.Num Go.Proofs.Ytigmcdpjlkgocaa.Owe Go.Proofs.Ytigmcdpjlkgocaa.Lst Go.Proofs.Ytigmcdpjlkgocaa.Aid Go.RowKit Go.Proofs.YtigmcdpjlkgocaaW.PrintWords Go.Proofs.YtigmcdpjlkgocaaW.PrintLast Go.Proofs.YtigmcdpjlkgocaaW.PrintMore
set_option linter.unusedVariables false
set_option linter.unusedSimpArgs false
def f32 (n : Int) : Value := .float .f32 n.toNat
def f64 (n : Int) : Value := .float .f64 n.toNat
theorem f32_one (n : Int) : (f32 n).oneCell' = true := rfl
theorem f64_one (n : Int) : (f64 n).oneCell' = true := rfl
end Go.Proofs.Ytigmcdpjlkgocaa.Flt
