import Derived.Test.YtoopljlbiifmfaaDoorLe
import Derived.Test.YtoopljlbiifmfaaDoorNum
import Derived.Test.YtoopljlbiifmfaaDoorOwe
/-! Floating-point numbers by their bits. -/
namespace Go.Proofs.YtoopljlbiifmfaaDoor.Flt
open Go.Proofs.YtoopljlbiifmfaaDoor.Le Go.Proofs.YtoopljlbiifmfaaDoor.Num Go.Proofs.YtoopljlbiifmfaaDoor.Owe Go.Proofs.YtoopljlbiifmfaaDoor.Lst Go.Proofs.YtoopljlbiifmfaaDoor.Aid Go.RowKit Go.Proofs.YtoopljlbiifmfaaDoorW.PrintWords Go.Proofs.YtoopljlbiifmfaaDoorW.PrintLast Go.Proofs.YtoopljlbiifmfaaDoorW.PrintMore
set_option linter.unusedVariables false
set_option linter.unusedSimpArgs false
def f32 (n : Int) : Value := .float .f32 n.toNat
def f64 (n : Int) : Value := .float .f64 n.toNat
theorem f32_one (n : Int) : (f32 n).oneCell' = true := rfl
theorem f64_one (n : Int) : (f64 n).oneCell' = true := rfl
end Go.Proofs.YtoopljlbiifmfaaDoor.Flt
