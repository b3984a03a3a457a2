import Derived.Test.YtcboegodjlfmnaaDoorSkTpw
import Derived.Test.YtcboegodjlfmnaaDoorSkMtg
import Derived.Test.YtcboegodjlfmnaaDoorSkTzs
import Derived.Stop.LaidTwo
import Derived.LaidMore
import Derived.Stop.Joined
namespace Go.Proofs.YtcboegodjlfmnaaDoor.Trs
open Go.Proofs.YtcboegodjlfmnaaDoor.Tpw Go.Proofs.YtcboegodjlfmnaaDoor.Tpv Go.Proofs.YtcboegodjlfmnaaDoor.Tzm Go.Proofs.YtcboegodjlfmnaaDoor.Tzl Go.Proofs.YtcboegodjlfmnaaDoor.Trh Go.Proofs.YtcboegodjlfmnaaDoor.Trn Go.Proofs.YtcboegodjlfmnaaDoor.Trm Go.Proofs.YtcboegodjlfmnaaDoor.Tuv Go.Proofs.YtcboegodjlfmnaaDoor.Tpa Go.Proofs.YtcboegodjlfmnaaDoor.Duv Go.Proofs.YtcboegodjlfmnaaDoor.Dpu Go.Proofs.YtcboegodjlfmnaaDoor.Pak Go.Proofs.YtcboegodjlfmnaaDoor.Buf Go.Proofs.YtcboegodjlfmnaaDoor.Fit Go.Proofs.YtcboegodjlfmnaaDoor.Bit Go.Proofs.YtcboegodjlfmnaaDoor.Wrd Go.Proofs.YtcboegodjlfmnaaDoor.Spl Go.Proofs.YtcboegodjlfmnaaDoor.Str Go.Proofs.YtcboegodjlfmnaaDoor.Flt Go.Proofs.YtcboegodjlfmnaaDoor.Owe Go.Proofs.YtcboegodjlfmnaaDoor.Num Go.Proofs.YtcboegodjlfmnaaDoor.Le Go.Proofs.YtcboegodjlfmnaaDoor.Lst Go.Proofs.YtcboegodjlfmnaaDoor.Aid Go.RowKit Go.Proofs.YtcboegodjlfmnaaDoorW.PrintWords Go.Proofs.YtcboegodjlfmnaaDoorW.PrintLast Go.Proofs.YtcboegodjlfmnaaDoorW.PrintMore
set_option linter.unusedVariables false
set_option linter.unusedSimpArgs false
end Go.Proofs.YtcboegodjlfmnaaDoor.Trs
namespace Go.Proofs.YtcboegodjlfmnaaDoor.Trt
open Go.Proofs.YtcboegodjlfmnaaDoor.Trs Go.Proofs.YtcboegodjlfmnaaDoor.Tpw Go.Proofs.YtcboegodjlfmnaaDoor.Tpv Go.Proofs.YtcboegodjlfmnaaDoor.Tzm Go.Proofs.YtcboegodjlfmnaaDoor.Tzl Go.Proofs.YtcboegodjlfmnaaDoor.Trh Go.Proofs.YtcboegodjlfmnaaDoor.Trn Go.Proofs.YtcboegodjlfmnaaDoor.Trm Go.Proofs.YtcboegodjlfmnaaDoor.Tuv Go.Proofs.YtcboegodjlfmnaaDoor.Tpa Go.Proofs.YtcboegodjlfmnaaDoor.Duv Go.Proofs.YtcboegodjlfmnaaDoor.Dpu Go.Proofs.YtcboegodjlfmnaaDoor.Pak Go.Proofs.YtcboegodjlfmnaaDoor.Buf Go.Proofs.YtcboegodjlfmnaaDoor.Fit Go.Proofs.YtcboegodjlfmnaaDoor.Bit Go.Proofs.YtcboegodjlfmnaaDoor.Wrd Go.Proofs.YtcboegodjlfmnaaDoor.Spl Go.Proofs.YtcboegodjlfmnaaDoor.Str Go.Proofs.YtcboegodjlfmnaaDoor.Flt Go.Proofs.YtcboegodjlfmnaaDoor.Owe Go.Proofs.YtcboegodjlfmnaaDoor.Num Go.Proofs.YtcboegodjlfmnaaDoor.Le Go.Proofs.YtcboegodjlfmnaaDoor.Lst Go.Proofs.YtcboegodjlfmnaaDoor.Aid Go.RowKit Go.Proofs.YtcboegodjlfmnaaDoorW.PrintWords Go.Proofs.YtcboegodjlfmnaaDoorW.PrintLast Go.Proofs.YtcboegodjlfmnaaDoorW.PrintMore
end Go.Proofs.YtcboegodjlfmnaaDoor.Trt
namespace Go.Proofs.YtcboegodjlfmnaaDoor.Tla
open Go.Proofs.YtcboegodjlfmnaaDoor.Trt Go.Proofs.YtcboegodjlfmnaaDoor.Trs Go.Proofs.YtcboegodjlfmnaaDoor.Tpv Go.Proofs.YtcboegodjlfmnaaDoor.Tzm Go.Proofs.YtcboegodjlfmnaaDoor.Tzl Go.Proofs.YtcboegodjlfmnaaDoor.Trh Go.Proofs.YtcboegodjlfmnaaDoor.Trn Go.Proofs.YtcboegodjlfmnaaDoor.Trm Go.Proofs.YtcboegodjlfmnaaDoor.Tuv Go.Proofs.YtcboegodjlfmnaaDoor.Tpa Go.Proofs.YtcboegodjlfmnaaDoor.Duv Go.Proofs.YtcboegodjlfmnaaDoor.Dpu Go.Proofs.YtcboegodjlfmnaaDoor.Pak Go.Proofs.YtcboegodjlfmnaaDoor.Buf Go.Proofs.YtcboegodjlfmnaaDoor.Fit Go.Proofs.YtcboegodjlfmnaaDoor.Bit Go.Proofs.YtcboegodjlfmnaaDoor.Wrd Go.Proofs.YtcboegodjlfmnaaDoor.Spl Go.Proofs.YtcboegodjlfmnaaDoor.Str Go.Proofs.YtcboegodjlfmnaaDoor.Flt Go.Proofs.YtcboegodjlfmnaaDoor.Owe Go.Proofs.YtcboegodjlfmnaaDoor.Num Go.Proofs.YtcboegodjlfmnaaDoor.Le Go.Proofs.YtcboegodjlfmnaaDoor.Lst Go.Proofs.YtcboegodjlfmnaaDoor.Aid Go.RowKit Go.Proofs.YtcboegodjlfmnaaDoorW.PrintWords Go.Proofs.YtcboegodjlfmnaaDoorW.PrintLast Go.Proofs.YtcboegodjlfmnaaDoorW.PrintMore
theorem esRow (u : TypeId) (h : Tryd.prog.typeName? 3 u = some "*errors.errorString") : u = 167 :=
  typeName_ptr_named (P := Tryd.prog) (nm := "errors.errorString") (by kernel_rfl) (by kernel_rfl) (by decide) u h
theorem e0_of_laid {W : World} (h : laidMetH Tryd.prog [("io.EOF", .iface "*errors.errorString" (.ptr (.agg [.lit (.string [69, 79, 70])]))), ("io.ErrUnexpectedEOF", .iface "*errors.errorString" (.ptr (.agg [.lit (.string [117, 110, 101, 120, 112, 101, 99, 116, 101, 100, 32, 69, 79, 70])])))] W) : ∃ p1 p2, Tzv.E0 W p1 p2 := by
  rw [MakeChecks.laidMetH_plain _ _ _ (by kernel_rfl)] at h
  have g0 : Tryd.prog.globalNamed "io.EOF" = some 1 := by kernel_rfl
  have g1 : Tryd.prog.globalNamed "io.ErrUnexpectedEOF" = some 2 := by kernel_rfl
  obtain ⟨f, hf, hf0, hft⟩ : ∃ f : Field, Tryd.prog.underlying 169 = some (.struct #[f]) ∧ f.offset = 0 ∧ f.type = 9 := ⟨_, Tryd.underlying169, rfl, rfl⟩
  obtain ⟨a0, a1, s0, s1, c0, c1, t0, t1, hv0, hv1, hc0, hs0, hz0, hc1, hs1, hz1, hne, hb0, hb1⟩ := laid_sentinels2 h g0 (by kernel_rfl) g1 (by kernel_rfl) tyE esRow esPtr hf hft hf0 Tryd.underlying9 (by kernel_rfl) (by kernel_rfl)
  exact ⟨a0, a1, by simpa using World.var?_cell g0 hv0 0, by simpa using World.var?_cell g1 hv1 0, hne, ⟨c0, t0, hb0⟩, ⟨c1, t1, hb1⟩⟩
end Go.Proofs.YtcboegodjlfmnaaDoor.Tla
