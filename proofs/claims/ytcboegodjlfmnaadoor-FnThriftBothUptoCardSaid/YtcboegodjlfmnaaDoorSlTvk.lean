import Derived.Test.YtcboegodjlfmnaaDoorSlTwe
import Derived.Test.YtcboegodjlfmnaaDoorSlTvi
import Derived.Test.YtcboegodjlfmnaaDoorSlTrz
import Derived.Deep.RegionHeld3
namespace Go.Proofs.YtcboegodjlfmnaaDoor.Tvk
open Go.Proofs.YtcboegodjlfmnaaDoor.Tvi Go.Proofs.YtcboegodjlfmnaaDoor.Twe Go.Proofs.YtcboegodjlfmnaaDoor.Tit Go.Proofs.YtcboegodjlfmnaaDoor.Twd Go.Proofs.YtcboegodjlfmnaaDoor.Trt Go.Proofs.YtcboegodjlfmnaaDoor.Twb Go.Proofs.YtcboegodjlfmnaaDoor.Tbk Go.Proofs.YtcboegodjlfmnaaDoor.Twc Go.Proofs.YtcboegodjlfmnaaDoor.Twb Go.Proofs.YtcboegodjlfmnaaDoor.Twa Go.Proofs.YtcboegodjlfmnaaDoor.Tit Go.Proofs.YtcboegodjlfmnaaDoor.Tsd Go.Proofs.YtcboegodjlfmnaaDoor.Ton Go.Proofs.YtcboegodjlfmnaaDoor.Tpw Go.Proofs.YtcboegodjlfmnaaDoor.Tap Go.Proofs.YtcboegodjlfmnaaDoor.Tzm Go.Proofs.YtcboegodjlfmnaaDoor.Tzl Go.Proofs.YtcboegodjlfmnaaDoor.Trh Go.Proofs.YtcboegodjlfmnaaDoor.Trn Go.Proofs.YtcboegodjlfmnaaDoor.Trm Go.Proofs.YtcboegodjlfmnaaDoor.Tuv Go.Proofs.YtcboegodjlfmnaaDoor.Tpa Go.Proofs.YtcboegodjlfmnaaDoor.Duv Go.Proofs.YtcboegodjlfmnaaDoor.Dpu Go.Proofs.YtcboegodjlfmnaaDoor.Pak Go.Proofs.YtcboegodjlfmnaaDoor.Buf Go.Proofs.YtcboegodjlfmnaaDoor.Fit Go.Proofs.YtcboegodjlfmnaaDoor.Bit Go.Proofs.YtcboegodjlfmnaaDoor.Wrd Go.Proofs.YtcboegodjlfmnaaDoor.Spl Go.Proofs.YtcboegodjlfmnaaDoor.Str Go.Proofs.YtcboegodjlfmnaaDoor.Flt Go.Proofs.YtcboegodjlfmnaaDoor.Owe Go.Proofs.YtcboegodjlfmnaaDoor.Num Go.Proofs.YtcboegodjlfmnaaDoor.Le Go.Proofs.YtcboegodjlfmnaaDoor.Lst Go.Proofs.YtcboegodjlfmnaaDoor.Aid Go.RowKit Go.Proofs.YtcboegodjlfmnaaDoorW.PrintWords Go.Proofs.YtcboegodjlfmnaaDoorW.PrintLast Go.Proofs.YtcboegodjlfmnaaDoorW.PrintMore Go.Proofs.YtcboegodjlfmnaaDoor.Tpv Go.Proofs.YtcboegodjlfmnaaDoor.Tzz
set_option linter.unusedVariables false
set_option linter.unusedSimpArgs false
theorem len_sz : ∀ X : F, X.len ≤ F.sz X
  | .nil => Nat.le_refl _
  | .cons d id ls fs tl => by
    have := len_sz tl
    show tl.len + 1 ≤ 9 + d.bs.length + F.sz ls + F.sz fs + F.sz tl
    omega
set_option maxHeartbeats 8000000 in
set_option maxRecDepth 100000 in
theorem both_holds0 (x : N) (cs : List Value) (W : World) (hin : x.In flT W (fun b => b < W.heap.size) cs) (how : NOw x) (hsz : N.sz x ≤ 1048576) (hL : laidMetH Tryd.prog [("io.EOF", .iface "*errors.errorString" (.ptr (.agg [.lit (.string [69, 79, 70])]))), ("io.ErrUnexpectedEOF", .iface "*errors.errorString" (.ptr (.agg [.lit (.string [117, 110, 101, 120, 112, 101, 99, 116, 101, 100, 32, 69, 79, 70])])))] W) :
    Calls Tryd.prog 9 #[.agg cs.toArray] W fun e w' => e = .returned (.bool true) ∧ Below W.heap.size W w' := by
  obtain ⟨bsv, lsv, fsv, lcs, fcs, e, hb1, hl1, _, hf1, _⟩ := hin.out
  obtain ⟨A1, c1, rfl, _⟩ := hb1.out
  obtain ⟨A2, c2, rfl, _⟩ := hl1.out
  obtain ⟨A3, c3, rfl, _⟩ := hf1.out
  have hsz2 : 9 + x.d.bs.length + F.sz x.ls + F.sz x.fs ≤ 1048576 := hsz
  have hn1 : x.d.bs.length ≤ 2147483647 := by omega
  have hn2 : x.ls.len ≤ 2147483647 := by have := len_sz x.ls; omega
  have hn3 : x.fs.len ≤ 2147483647 := by have := len_sz x.fs; omega
  have HFT := Aside0.mk fun V => fits_calls x.d.ty x.d.bo x.d.n x.d.bits A1 x.d.bs.length c1 x.d.ky x.d.el A2 x.ls.len c2 A3 x.fs.len c3 V hn1 hn2 hn3
  obtain ⟨n1, hq1⟩ : ∃ n1, x.d.bs.length = n1 := ⟨_, rfl⟩
  obtain ⟨n2, hq2⟩ : ∃ n2, x.ls.len = n2 := ⟨_, rfl⟩
  obtain ⟨n3, hq3⟩ : ∃ n3, x.fs.len = n3 := ⟨_, rfl⟩
  have e2 : cs = [.int .i64 x.d.ty, .bool x.d.bo, .int .i64 x.d.n, .int .u64 (x.d.bits : Int), .slice A1 n1 c1, .int .i64 x.d.ky, .int .i64 x.d.el, .slice A2 n2 c2, .slice A3 n3 c3] := by rw [e, ← hq1, ← hq2, ← hq3]; rfl
  subst e2
  rw [hq1, hq2, hq3] at HFT
  clear e hb1 hl1 hf1 hn1 hn2 hn3 hsz2 hq1 hq2 hq3
  obtain ⟨p1, p2, hE⟩ := Tla.e0_of_laid hL
  have HE := Aside0.mk hE
  have HI := Aside0.mk hin
  have HIT : Aside0 (∀ V, Below W.heap.size W V → Calls Tryd.prog 11 #[.agg #[.int .i64 x.d.ty, .bool x.d.bo, .int .i64 x.d.n, .int .u64 (x.d.bits : Int), .slice A1 n1 c1, .int .i64 x.d.ky, .int .i64 x.d.el, .slice A2 n2 c2, .slice A3 n3 c3], .int .i64 6, .bool false] V fun e w' => ItR (N.ok x 6 false) V w' e) := ⟨fun V hb => Tiv.isThing_all x how 6 false V _ (by omega) (hin.move (fun b h => hb.block b h) (fun b h => Nat.lt_of_lt_of_le h hb.size))⟩
  have HFX : Aside0 (N.ok x 6 false → ∀ long, Fx long x) := ⟨fun h long => fx_of long x how hsz h⟩
  have HTB : Aside0 (N.ok x 6 false → ∀ (long : Bool) (V : World), Below W.heap.size W V → Calls Tryd.prog 12 #[.agg #[.int .i64 x.d.ty, .bool x.d.bo, .int .i64 x.d.n, .int .u64 (x.d.bits : Int), .slice A1 n1 c1, .int .i64 x.d.ky, .int .i64 x.d.el, .slice A2 n2 c2, .slice A3 n3 c3], .bool long] V fun e w' => WB V w' (x.byB long) e) := ⟨fun h long V hb => Twc.thingBytes_all long x 6 false V _ how h (fx_of long x how hsz h).len (hin.move (fun b h => hb.block b h) (fun b h => Nat.lt_of_lt_of_le h hb.size))⟩
  clear hin how hsz hE hL
  have HB : Aside0 (Below W.heap.size W (W.alloc (.cells #[.int .i64 x.d.ty, .bool x.d.bo, .int .i64 x.d.n, .int .u64 (x.d.bits : Int), .slice A1 n1 c1, .int .i64 x.d.ky, .int .i64 x.d.el, .slice A2 n2 c2, .slice A3 n3 c3] 27))) := ⟨(Below.refl _ _).alloc (Nat.le_refl _) _⟩
  have HV := Aside0.mk (Blk.new W #[.int .i64 x.d.ty, .bool x.d.bo, .int .i64 x.d.n, .int .u64 (x.d.bits : Int), .slice A1 n1 c1, .int .i64 x.d.ky, .int .i64 x.d.el, .slice A2 n2 c2, .slice A3 n3 c3] 27)
  go_enter Tryd.func9, Tryd.ntmps9
  go_upto_region 1 with (fail)
  generalize hW1 : World.alloc _ _ = W1 at HB HV ⊢
  clear hW1
  obtain ⟨q0, q1, q2, q3, q4, q5, q6, q7, q8, qz⟩ := nine HV.out
  go_wp2_with (first
    | (go_at_call 10; (with_reducible refine (HFT.out _).mono ?_); rintro e w2 ⟨rfl, hb⟩; have HB2 := Aside0.mk (HB.out.trans (hb.mono HB.out.size)); have HV2 := Aside0.mk (HV.out.below hb HV.out.lt); obtain ⟨q0, q1, q2, q3, q4, q5, q6, q7, q8, qz⟩ := nine HV2.out; clear hb))
  go_at_call 11
  refine (HIT.out _ HB2.out).mono ?_
  rintro e w3 HQ
  obtain ⟨b, rfl, hb⟩ := HQ.out
  have HB3 := Aside0.mk (HB2.out.trans (HQ.below.mono HB2.out.size))
  have HV3 := Aside0.mk (HV2.out.below HQ.below HV2.out.lt)
  have HOK := Aside0.mk hb
  clear HQ hb q0 q1 q2 q3 q4 q5 q6 q7 q8 qz
  obtain ⟨q0, q1, q2, q3, q4, q5, q6, q7, q8, qz⟩ := nine HV3.out
  cases b with
  | false =>
    clear HOK
    go_wp2_with (fail)
    go_ret
    exact ⟨rfl, HB3.out⟩
  | true =>
    have HF := Aside0.mk (HFX.out (HOK.out.1 rfl) false)
    have HTX := Aside0.mk (HTB.out (HOK.out.1 rfl) false)
    obtain ⟨BX, hBX⟩ : ∃ BX, x.byB false = BX := ⟨_, rfl⟩
    obtain ⟨M, hM⟩ : ∃ M, BX.length = M := ⟨_, rfl⟩
    have hM9 : M ≤ 4000000 := by have := HF.out.len; rw [hBX, hM] at this; exact this
    rw [hBX] at HTX
    have hok := HOK.out.1 rfl
    have HWT : Aside0 (∀ V, Below W.heap.size W V → Calls Tryd.prog 18 #[.agg #[.int .i64 x.d.ty, .bool x.d.bo, .int .i64 x.d.n, .int .u64 (x.d.bits : Int), .slice A1 n1 c1, .int .i64 x.d.ky, .int .i64 x.d.el, .slice A2 n2 c2, .slice A3 n3 c3]] V fun e w' => WtOk V w' BX e) := ⟨fun V hb => by
      have h := writeThing_calls x 6 HF.out.wf A1 n1 c1 A2 n2 c2 A3 n3 c3 V hok (HI.out.move (fun b h => hb.block b h) (fun b h => Nat.lt_of_lt_of_le h hb.size)) (by rw [hBX, hM]; omega)
      rw [hBX] at h
      exact h⟩
    have hth := HF.out.th []
    rw [List.append_nil] at hth
    have hbx := HF.out.byt
    rw [hBX] at hth hbx
    have HTI : Aside0 (∀ (A4 : Option Addr) (c4 : Nat) (V : World), Below W.heap.size W V → (Kd.int .u8).C V A4 M BX → Calls Tryd.prog 14 #[.agg #[.int .i64 x.d.ty, .bool x.d.bo, .int .i64 x.d.n, .int .u64 (x.d.bits : Int), .slice A1 n1 c1, .int .i64 x.d.ky, .int .i64 x.d.el, .slice A2 n2 c2, .slice A3 n3 c3], .slice A4 M c4, .slice none 0 0] V fun e w' => e = .returned (.bool true) ∧ Below V.heap.size V w') := ⟨fun A4 c4 V hb hc => Twd.thIs_calls x HF.out.wf A1 n1 c1 A2 n2 c2 A3 n3 c3 A4 M c4 BX none 0 0 [] p1 p2 V (HI.out.move (fun b h => hb.block b h) (fun b h => Nat.lt_of_lt_of_le h hb.size)) hc ⟨rfl, by simp, fun h => absurd h (by simp)⟩ (by omega) (by omega) (by rw [List.append_nil]; exact hbx) (HE.out.below fun b h => hb.block b h) HF.out.ty (by rw [List.append_nil]; exact hth)⟩
    have HM := Aside0.mk hM
    clear hBX hM hok hth hbx
    go_wp2_with (first
      | (go_at_call 18; (with_reducible refine (HWT.out _ HB3.out).mono ?_); rintro e w4 HQ; obtain ⟨v4, rfl, ho⟩ := HQ.out; obtain ⟨A4, c4, rfl, hc4, hr4⟩ := ho.read; rw [HM.out] at hc4 hr4; rw [HM.out]; have HR4 := Aside0.mk hr4; have HB4 := Aside0.mk (HB3.out.trans (HQ.below.mono HB3.out.size)); have HV4 := Aside0.mk (HV3.out.below HQ.below HV3.out.lt); clear HQ ho hr4; obtain ⟨q0, q1, q2, q3, q4, q5, q6, q7, q8, qz⟩ := nine HV4.out)
      | (go_at_call 14; (with_reducible refine (HTI.out A4 c4 _ HB4.out HR4.out).mono ?_); rintro e w5 ⟨rfl, hb⟩; have HB5 := Aside0.mk (HB4.out.trans (hb.mono HB4.out.size)); clear hb))
    go_ret
    exact ⟨rfl, HB5.out⟩
end Go.Proofs.YtcboegodjlfmnaaDoor.Tvk
