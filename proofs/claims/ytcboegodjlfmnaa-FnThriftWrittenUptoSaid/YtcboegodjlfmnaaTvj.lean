import Derived.Test.YtcboegodjlfmnaaTwe
import Derived.Test.YtcboegodjlfmnaaTvi
import Derived.Deep.RegionHeld3
/-! The law Written. -/
namespace Go.Proofs.Ytcboegodjlfmnaa.Tvj
open Go.Proofs.Ytcboegodjlfmnaa.Tvi Go.Proofs.Ytcboegodjlfmnaa.Twe Go.Proofs.Ytcboegodjlfmnaa.Tit Go.Proofs.Ytcboegodjlfmnaa.Twd Go.Proofs.Ytcboegodjlfmnaa.Twb Go.Proofs.Ytcboegodjlfmnaa.Tbk Go.Proofs.Ytcboegodjlfmnaa.Twc Go.Proofs.Ytcboegodjlfmnaa.Twb Go.Proofs.Ytcboegodjlfmnaa.Twa Go.Proofs.Ytcboegodjlfmnaa.Tit Go.Proofs.Ytcboegodjlfmnaa.Tsd Go.Proofs.Ytcboegodjlfmnaa.Ton Go.Proofs.Ytcboegodjlfmnaa.Tpw Go.Proofs.Ytcboegodjlfmnaa.Tap Go.Proofs.Ytcboegodjlfmnaa.Tzm Go.Proofs.Ytcboegodjlfmnaa.Tzl Go.Proofs.Ytcboegodjlfmnaa.Trh Go.Proofs.Ytcboegodjlfmnaa.Trn Go.Proofs.Ytcboegodjlfmnaa.Trm Go.Proofs.Ytcboegodjlfmnaa.Tuv Go.Proofs.Ytcboegodjlfmnaa.Tpa Go.Proofs.Ytcboegodjlfmnaa.Duv Go.Proofs.Ytcboegodjlfmnaa.Dpu Go.Proofs.Ytcboegodjlfmnaa.Pak Go.Proofs.Ytcboegodjlfmnaa.Buf Go.Proofs.Ytcboegodjlfmnaa.Fit Go.Proofs.Ytcboegodjlfmnaa.Bit Go.Proofs.Ytcboegodjlfmnaa.Wrd Go.Proofs.Ytcboegodjlfmnaa.Spl Go.Proofs.Ytcboegodjlfmnaa.Str Go.Proofs.Ytcboegodjlfmnaa.Flt Go.Proofs.Ytcboegodjlfmnaa.Owe Go.Proofs.Ytcboegodjlfmnaa.Num Go.Proofs.Ytcboegodjlfmnaa.Le Go.Proofs.Ytcboegodjlfmnaa.Lst Go.Proofs.Ytcboegodjlfmnaa.Aid Go.RowKit Go.Proofs.YtcboegodjlfmnaaW.PrintWords Go.Proofs.YtcboegodjlfmnaaW.PrintLast Go.Proofs.YtcboegodjlfmnaaW.PrintMore Go.Proofs.Ytcboegodjlfmnaa.Tpv
set_option linter.unusedVariables false
set_option linter.unusedSimpArgs false
theorem len_sz : ∀ X : F, X.len ≤ F.sz X
  | .nil => Nat.le_refl _
  | .cons d id ls fs tl => by
    have := len_sz tl
    show tl.len + 1 ≤ 9 + d.bs.length + F.sz ls + F.sz fs + F.sz tl
    omega
set_option maxHeartbeats 8000000 in
set_option maxRecDepth 100000 in
theorem written_holds0 (x : N) (cs : List Value) (W : World) (hin : x.In flT W (fun b => b < W.heap.size) cs) (how : NOw x) (hsz : N.sz x ≤ 1048576) :
    Calls Try.prog 4 #[.agg cs.toArray] W fun e w' => e = .returned (.bool true) ∧ Below W.heap.size W w' := by
  obtain ⟨bsv, lsv, fsv, lcs, fcs, e, hb1, hl1, _, hf1, _⟩ := hin.out
  obtain ⟨A1, c1, rfl, _⟩ := hb1.out
  obtain ⟨A2, c2, rfl, _⟩ := hl1.out
  obtain ⟨A3, c3, rfl, _⟩ := hf1.out
  have hsz2 : 9 + x.d.bs.length + F.sz x.ls + F.sz x.fs ≤ 1048576 := hsz
  have hn1 : x.d.bs.length ≤ 2147483647 := by omega
  have hn2 : x.ls.len ≤ 2147483647 := by have := len_sz x.ls; omega
  have hn3 : x.fs.len ≤ 2147483647 := by have := len_sz x.fs; omega
  have HFT := Aside0.mk fun V => fits_calls x.d.ty x.d.bo x.d.n x.d.bits A1 x.d.bs.length c1 x.d.ky x.d.el A2 x.ls.len c2 A3 x.fs.len c3 V hn1 hn2 hn3
  obtain ⟨n1, hq1⟩ : ∃ n1, x.d.bs.length = n1 := ⟨_, rfl⟩
  obtain ⟨n2, hq2⟩ : ∃ n2, x.ls.len = n2 := ⟨_, rfl⟩
  obtain ⟨n3, hq3⟩ : ∃ n3, x.fs.len = n3 := ⟨_, rfl⟩
  have e2 : cs = [.int .i64 x.d.ty, .bool x.d.bo, .int .i64 x.d.n, .int .u64 (x.d.bits : Int), .slice A1 n1 c1, .int .i64 x.d.ky, .int .i64 x.d.el, .slice A2 n2 c2, .slice A3 n3 c3] := by rw [e, ← hq1, ← hq2, ← hq3]; rfl
  subst e2
  rw [hq1, hq2, hq3] at HFT
  clear e hb1 hl1 hf1 hn1 hn2 hn3 hsz2 hq1 hq2 hq3
  have HI := Aside0.mk hin
  have HIT : Aside0 (∀ V, Below W.heap.size W V → Calls Try.prog 10 #[.agg #[.int .i64 x.d.ty, .bool x.d.bo, .int .i64 x.d.n, .int .u64 (x.d.bits : Int), .slice A1 n1 c1, .int .i64 x.d.ky, .int .i64 x.d.el, .slice A2 n2 c2, .slice A3 n3 c3], .int .i64 6, .bool false] V fun e w' => ItR (N.ok x 6 false) V w' e) := ⟨fun V hb => Tiv.isThing_all x how 6 false V _ (by omega) (hin.move (fun b h => hb.block b h) (fun b h => Nat.lt_of_lt_of_le h hb.size))⟩
  have HFX : Aside0 (N.ok x 6 false → ∀ long, Fx long x) := ⟨fun h long => fx_of long x how hsz h⟩
  have HTB : Aside0 (N.ok x 6 false → ∀ (long : Bool) (V : World), Below W.heap.size W V → Calls Try.prog 13 #[.agg #[.int .i64 x.d.ty, .bool x.d.bo, .int .i64 x.d.n, .int .u64 (x.d.bits : Int), .slice A1 n1 c1, .int .i64 x.d.ky, .int .i64 x.d.el, .slice A2 n2 c2, .slice A3 n3 c3], .bool long] V fun e w' => WB V w' (x.byB long) e) := ⟨fun h long V hb => Twc.thingBytes_all long x 6 false V _ how h (fx_of long x how hsz h).len (hin.move (fun b h => hb.block b h) (fun b h => Nat.lt_of_lt_of_le h hb.size))⟩
  clear hin how hsz
  have HB : Aside0 (Below W.heap.size W (W.alloc (.cells #[.int .i64 x.d.ty, .bool x.d.bo, .int .i64 x.d.n, .int .u64 (x.d.bits : Int), .slice A1 n1 c1, .int .i64 x.d.ky, .int .i64 x.d.el, .slice A2 n2 c2, .slice A3 n3 c3] 38))) := ⟨(Below.refl _ _).alloc (Nat.le_refl _) _⟩
  have HV := Aside0.mk (Blk.new W #[.int .i64 x.d.ty, .bool x.d.bo, .int .i64 x.d.n, .int .u64 (x.d.bits : Int), .slice A1 n1 c1, .int .i64 x.d.ky, .int .i64 x.d.el, .slice A2 n2 c2, .slice A3 n3 c3] 38)
  go_enter Try.func4, Try.ntmps4
  go_upto_region 1 with (fail)
  generalize hW1 : World.alloc _ _ = W1 at HB HV ⊢
  clear hW1
  obtain ⟨q0, q1, q2, q3, q4, q5, q6, q7, q8, qz⟩ := nine HV.out
  go_wp2_with (first
    | (go_at_call 9; (with_reducible refine (HFT.out _).mono ?_); rintro e w2 ⟨rfl, hb⟩; have HB2 := Aside0.mk (HB.out.trans (hb.mono HB.out.size)); have HV2 := Aside0.mk (HV.out.below hb HV.out.lt); obtain ⟨q0, q1, q2, q3, q4, q5, q6, q7, q8, qz⟩ := nine HV2.out; clear hb))
  go_at_call 10
  refine (HIT.out _ HB2.out).mono ?_
  rintro e w3 HQ
  obtain ⟨b, rfl, hb⟩ := HQ.out
  have HB3 := Aside0.mk (HB2.out.trans (HQ.below.mono HB2.out.size))
  have HV3 := Aside0.mk (HV2.out.below HQ.below HV2.out.lt)
  have HOK := Aside0.mk hb
  clear HQ hb q0 q1 q2 q3 q4 q5 q6 q7 q8 qz
  obtain ⟨q0, q1, q2, q3, q4, q5, q6, q7, q8, qz⟩ := nine HV3.out
  cases b with
  | false =>
    clear HOK
    go_wp2_with (fail)
    go_ret
    exact ⟨rfl, HB3.out⟩
  | true =>
    have HF := Aside0.mk (HFX.out (HOK.out.1 rfl) false)
    have HTX := Aside0.mk (HTB.out (HOK.out.1 rfl) false)
    obtain ⟨BX, hBX⟩ : ∃ BX, x.byB false = BX := ⟨_, rfl⟩
    obtain ⟨M, hM⟩ : ∃ M, BX.length = M := ⟨_, rfl⟩
    have hM9 : M ≤ 4000000 := by have := HF.out.len; rw [hBX, hM] at this; exact this
    rw [hBX] at HTX
    have hok := HOK.out.1 rfl
    have HWT : Aside0 (∀ V, Below W.heap.size W V → Calls Try.prog 11 #[.agg #[.int .i64 x.d.ty, .bool x.d.bo, .int .i64 x.d.n, .int .u64 (x.d.bits : Int), .slice A1 n1 c1, .int .i64 x.d.ky, .int .i64 x.d.el, .slice A2 n2 c2, .slice A3 n3 c3]] V fun e w' => WtOk V w' BX e) := ⟨fun V hb => by
      have h := writeThing_calls x 6 HF.out.wf A1 n1 c1 A2 n2 c2 A3 n3 c3 V hok (HI.out.move (fun b h => hb.block b h) (fun b h => Nat.lt_of_lt_of_le h hb.size)) (by rw [hBX, hM]; omega)
      rw [hBX] at h
      exact h⟩
    have HM := Aside0.mk hM
    clear hBX hM hok
    go_wp2_with (first
      | (go_at_call 11; (with_reducible refine (HWT.out _ HB3.out).mono ?_); rintro e w4 HQ; obtain ⟨v4, rfl, ho⟩ := HQ.out; obtain ⟨A4, c4, rfl, hc4, hr4⟩ := ho.read; rw [HM.out] at hc4 hr4; rw [HM.out]; have HR4 := Aside0.mk hr4; have HB4 := Aside0.mk (HB3.out.trans (HQ.below.mono HB3.out.size)); have HV4 := Aside0.mk (HV3.out.below HQ.below HV3.out.lt); clear HQ ho hr4; obtain ⟨q0, q1, q2, q3, q4, q5, q6, q7, q8, qz⟩ := nine HV4.out)
      | (go_at_call 13; (with_reducible refine (HTX.out _ HB4.out).mono ?_); rintro e w5 HQ; obtain ⟨v5, rfl, ho⟩ := HQ.out; obtain ⟨A5, c5, rfl, hc5, hr5⟩ := ho.read; rw [HM.out] at hc5 hr5; rw [HM.out]; have HR5 := Aside0.mk hr5; have HR45 := Aside0.mk (Kd.C_below HR4.out HQ.below); have HB5 := Aside0.mk (HB4.out.trans (HQ.below.mono HB4.out.size)); clear HQ ho hr5)
      | (go_at_call 12; (with_reducible refine (enBytes_calls A4 A5 M c4 c5 BX _ HR45.out HR5.out).mono ?_); rintro e w6 ⟨rfl, hd⟩; have HB6 := Aside0.mk (HB5.out.trans (hd.below.mono HB5.out.size)); clear hd))
    go_ret
    exact ⟨rfl, HB6.out⟩
end Go.Proofs.Ytcboegodjlfmnaa.Tvj
