import Derived.Test.YtcboegodjlfmnaaDoorSkTbk
import Derived.Test.YtcboegodjlfmnaaDoorSkTrz
import Derived.Test.YtcboegodjlfmnaaDoorSkTsz
import Derived.Test.YtcboegodjlfmnaaDoorSkTwb
import Derived.Deep.RegionHeld3
import Derived.Deep.RegionLaw
namespace Go.Proofs.YtcboegodjlfmnaaDoor.Twd
open Go.Proofs.YtcboegodjlfmnaaDoor.Trt Go.Proofs.YtcboegodjlfmnaaDoor.Twb Go.Proofs.YtcboegodjlfmnaaDoor.Tbk Go.Proofs.YtcboegodjlfmnaaDoor.Twc Go.Proofs.YtcboegodjlfmnaaDoor.Twb Go.Proofs.YtcboegodjlfmnaaDoor.Twa Go.Proofs.YtcboegodjlfmnaaDoor.Tit Go.Proofs.YtcboegodjlfmnaaDoor.Tsd Go.Proofs.YtcboegodjlfmnaaDoor.Ton Go.Proofs.YtcboegodjlfmnaaDoor.Tpw Go.Proofs.YtcboegodjlfmnaaDoor.Tap Go.Proofs.YtcboegodjlfmnaaDoor.Tzm Go.Proofs.YtcboegodjlfmnaaDoor.Tzl Go.Proofs.YtcboegodjlfmnaaDoor.Trh Go.Proofs.YtcboegodjlfmnaaDoor.Trn Go.Proofs.YtcboegodjlfmnaaDoor.Trm Go.Proofs.YtcboegodjlfmnaaDoor.Tuv Go.Proofs.YtcboegodjlfmnaaDoor.Tpa Go.Proofs.YtcboegodjlfmnaaDoor.Duv Go.Proofs.YtcboegodjlfmnaaDoor.Dpu Go.Proofs.YtcboegodjlfmnaaDoor.Pak Go.Proofs.YtcboegodjlfmnaaDoor.Buf Go.Proofs.YtcboegodjlfmnaaDoor.Fit Go.Proofs.YtcboegodjlfmnaaDoor.Bit Go.Proofs.YtcboegodjlfmnaaDoor.Wrd Go.Proofs.YtcboegodjlfmnaaDoor.Spl Go.Proofs.YtcboegodjlfmnaaDoor.Str Go.Proofs.YtcboegodjlfmnaaDoor.Flt Go.Proofs.YtcboegodjlfmnaaDoor.Owe Go.Proofs.YtcboegodjlfmnaaDoor.Num Go.Proofs.YtcboegodjlfmnaaDoor.Le Go.Proofs.YtcboegodjlfmnaaDoor.Lst Go.Proofs.YtcboegodjlfmnaaDoor.Aid Go.RowKit Go.Proofs.YtcboegodjlfmnaaDoorW.PrintWords Go.Proofs.YtcboegodjlfmnaaDoorW.PrintLast Go.Proofs.YtcboegodjlfmnaaDoorW.PrintMore Go.Proofs.YtcboegodjlfmnaaDoor.Tpv Go.Proofs.YtcboegodjlfmnaaDoor.Tzz
set_option linter.unusedVariables false
set_option linter.unusedSimpArgs false
set_option maxHeartbeats 8000000 in
theorem fits_calls (ty : Int) (bo : Bool) (n : Int) (bits : Nat) (A1 : Option Addr) (n1 c1 : Nat) (ky el : Int) (A2 : Option Addr) (n2 c2 : Nat) (A3 : Option Addr) (n3 c3 : Nat) (w : World) (h1 : n1 ≤ 2147483647) (h2 : n2 ≤ 2147483647) (h3 : n3 ≤ 2147483647) :
    Calls Tryd.prog 10 #[.agg #[.int .i64 ty, .bool bo, .int .i64 n, .int .u64 (bits : Int), .slice A1 n1 c1, .int .i64 ky, .int .i64 el, .slice A2 n2 c2, .slice A3 n3 c3]] w fun e w' => e = .returned (.bool true) ∧ Below w.heap.size w w' := by
  have HB : Aside0 (Below w.heap.size w (w.alloc (.cells #[.int .i64 ty, .bool bo, .int .i64 n, .int .u64 (bits : Int), .slice A1 n1 c1, .int .i64 ky, .int .i64 el, .slice A2 n2 c2, .slice A3 n3 c3] 27))) := ⟨(Below.refl _ _).alloc (Nat.le_refl _) _⟩
  have HV := Aside0.mk (Blk.new w #[.int .i64 ty, .bool bo, .int .i64 n, .int .u64 (bits : Int), .slice A1 n1 c1, .int .i64 ky, .int .i64 el, .slice A2 n2 c2, .slice A3 n3 c3] 27)
  have k1 : decide (2147483647 < (n1 : Int)) = false := decide_eq_false (by omega)
  have k11 : decide (2147483647 < n1) = false := decide_eq_false (by omega)
  have k2 : decide (2147483647 < (n2 : Int)) = false := decide_eq_false (by omega)
  have k22 : decide (2147483647 < n2) = false := decide_eq_false (by omega)
  have k3 : decide (2147483647 < (n3 : Int)) = false := decide_eq_false (by omega)
  have k33 : decide (2147483647 < n3) = false := decide_eq_false (by omega)
  clear h1 h2 h3
  go_enter Tryd.func10, Tryd.ntmps10
  go_upto_region 1 with (fail)
  generalize hW : World.alloc _ _ = W at HB HV ⊢
  clear hW
  obtain ⟨q0, q1, q2, q3, q4, q5, q6, q7, q8, qz⟩ := nine HV.out
  go_wp2_with (fail)
  go_ret
  exact ⟨rfl, HB.out⟩
end Go.Proofs.YtcboegodjlfmnaaDoor.Twd
