import Derived.Test.YtkefklemcoehmaaLe
import Derived.Test.YtkefklemcoehmaaNum
import Derived.Test.YtkefklemcoehmaaOwe
/-! Floating-point numbers by their bits. -/
namespace Go.Proofs.Ytkefklemcoehmaa.Flt
open Go.Proofs.Ytkefklemcoehmaa.Le Go.Proofs.Ytkefklemcoehmaa.Num Go.Proofs.Ytkefklemcoehmaa.Owe Go.Proofs.Ytkefklemcoehmaa.Lst Go.Proofs.Ytkefklemcoehmaa.Aid Go.RowKit Go.Proofs.YtkefklemcoehmaaW.PrintWords Go.Proofs.YtkefklemcoehmaaW.PrintLast Go.Proofs.YtkefklemcoehmaaW.PrintMore
set_option linter.unusedVariables false
set_option linter.unusedSimpArgs false
def f32 (n : Int) : Value := .float .f32 n.toNat
def f64 (n : Int) : Value := .float .f64 n.toNat
theorem f32_one (n : Int) : (f32 n).oneCell' = true := rfl
theorem f64_one (n : Int) : (f64 n).oneCell' = true := rfl
theorem float32bits_run (n : Int) (hn : 0 ≤ n) : ∀ W : World, (callFunc 29 #[f32 n]).run Try.prog W = .ok (.value (.int .u32 n)) W := by
  intro W
  rw [run_callFunc_extern (fn := Try.f29) Try.func29 (by kernel_rfl) (by kernel_rfl) (by kernel_rfl) (e := Extern.MathFloatBits.float32bits) (by kernel_rfl)]
  have e : ((n.toNat : Nat) : Int) = n := Int.toNat_of_nonneg hn
  change (Sem.run Try.prog (pure (.int .u32 ((n.toNat : Nat) : Int) : Value)) W).andThen _ = _
  rw [e]; rfl
theorem float32frombits_run (n : Int) (hn : 0 ≤ n) : ∀ W : World, (callFunc 24 #[.int .u32 n]).run Try.prog W = .ok (.value (f32 n)) W := by
  intro W
  rw [run_callFunc_extern (fn := Try.f24) Try.func24 (by kernel_rfl) (by kernel_rfl) (by kernel_rfl) (e := Extern.MathFloatBits.float32frombits) (by kernel_rfl)]
  have e : ((n.toNat : Nat) : Int) = n := Int.toNat_of_nonneg hn
  change (Sem.run Try.prog (pure (.float .f32 n.toNat : Value)) W).andThen _ = _
  rfl
theorem float64bits_run (n : Int) (hn : 0 ≤ n) : ∀ W : World, (callFunc 35 #[f64 n]).run Try.prog W = .ok (.value (.int .u64 n)) W := by
  intro W
  rw [run_callFunc_extern (fn := Try.f35) Try.func35 (by kernel_rfl) (by kernel_rfl) (by kernel_rfl) (e := Extern.MathFloatBits.float64bits) (by kernel_rfl)]
  have e : ((n.toNat : Nat) : Int) = n := Int.toNat_of_nonneg hn
  change (Sem.run Try.prog (pure (.int .u64 ((n.toNat : Nat) : Int) : Value)) W).andThen _ = _
  rw [e]; rfl
theorem float64frombits_run (n : Int) (hn : 0 ≤ n) : ∀ W : World, (callFunc 30 #[.int .u64 n]).run Try.prog W = .ok (.value (f64 n)) W := by
  intro W
  rw [run_callFunc_extern (fn := Try.f30) Try.func30 (by kernel_rfl) (by kernel_rfl) (by kernel_rfl) (e := Extern.MathFloatBits.float64frombits) (by kernel_rfl)]
  have e : ((n.toNat : Nat) : Int) = n := Int.toNat_of_nonneg hn
  change (Sem.run Try.prog (pure (.float .f64 n.toNat : Value)) W).andThen _ = _
  rfl
end Go.Proofs.Ytkefklemcoehmaa.Flt
