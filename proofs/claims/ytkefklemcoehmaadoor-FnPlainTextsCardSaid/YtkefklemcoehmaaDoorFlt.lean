import Derived.Test.YtkefklemcoehmaaDoorLe
import Derived.Test.YtkefklemcoehmaaDoorNum
import Derived.Test.YtkefklemcoehmaaDoorOwe
/-! Floating-point numbers by their bits. -/
namespace Go.Proofs.YtkefklemcoehmaaDoor.Flt
open Go.Proofs.YtkefklemcoehmaaDoor.Le Go.Proofs.YtkefklemcoehmaaDoor.Num Go.Proofs.YtkefklemcoehmaaDoor.Owe Go.Proofs.YtkefklemcoehmaaDoor.Lst Go.Proofs.YtkefklemcoehmaaDoor.Aid Go.RowKit Go.Proofs.YtkefklemcoehmaaDoorW.PrintWords Go.Proofs.YtkefklemcoehmaaDoorW.PrintLast Go.Proofs.YtkefklemcoehmaaDoorW.PrintMore
set_option linter.unusedVariables false
set_option linter.unusedSimpArgs false
def f32 (n : Int) : Value := .float .f32 n.toNat
def f64 (n : Int) : Value := .float .f64 n.toNat
theorem f32_one (n : Int) : (f32 n).oneCell' = true := rfl
theorem f64_one (n : Int) : (f64 n).oneCell' = true := rfl
end Go.Proofs.YtkefklemcoehmaaDoor.Flt
