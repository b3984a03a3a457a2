import Derived.Test.YtcboegodjlfmnaaDoorSkTwe
import Derived.Test.YtcboegodjlfmnaaDoorSkTrz
import Derived.Test.YtcboegodjlfmnaaDoorSkTsn
import Derived.Deep.RegionHeld3
namespace Go.Proofs.YtcboegodjlfmnaaDoor.Twf
open Go.Proofs.YtcboegodjlfmnaaDoor.Twe Go.Proofs.YtcboegodjlfmnaaDoor.Tit Go.Proofs.YtcboegodjlfmnaaDoor.Twd Go.Proofs.YtcboegodjlfmnaaDoor.Trt Go.Proofs.YtcboegodjlfmnaaDoor.Twb Go.Proofs.YtcboegodjlfmnaaDoor.Tbk Go.Proofs.YtcboegodjlfmnaaDoor.Twc Go.Proofs.YtcboegodjlfmnaaDoor.Twb Go.Proofs.YtcboegodjlfmnaaDoor.Twa Go.Proofs.YtcboegodjlfmnaaDoor.Tit Go.Proofs.YtcboegodjlfmnaaDoor.Tsd Go.Proofs.YtcboegodjlfmnaaDoor.Ton Go.Proofs.YtcboegodjlfmnaaDoor.Tpw Go.Proofs.YtcboegodjlfmnaaDoor.Tap Go.Proofs.YtcboegodjlfmnaaDoor.Tzm Go.Proofs.YtcboegodjlfmnaaDoor.Tzl Go.Proofs.YtcboegodjlfmnaaDoor.Trh Go.Proofs.YtcboegodjlfmnaaDoor.Trn Go.Proofs.YtcboegodjlfmnaaDoor.Trm Go.Proofs.YtcboegodjlfmnaaDoor.Tuv Go.Proofs.YtcboegodjlfmnaaDoor.Tpa Go.Proofs.YtcboegodjlfmnaaDoor.Duv Go.Proofs.YtcboegodjlfmnaaDoor.Dpu Go.Proofs.YtcboegodjlfmnaaDoor.Pak Go.Proofs.YtcboegodjlfmnaaDoor.Buf Go.Proofs.YtcboegodjlfmnaaDoor.Fit Go.Proofs.YtcboegodjlfmnaaDoor.Bit Go.Proofs.YtcboegodjlfmnaaDoor.Wrd Go.Proofs.YtcboegodjlfmnaaDoor.Spl Go.Proofs.YtcboegodjlfmnaaDoor.Str Go.Proofs.YtcboegodjlfmnaaDoor.Flt Go.Proofs.YtcboegodjlfmnaaDoor.Owe Go.Proofs.YtcboegodjlfmnaaDoor.Num Go.Proofs.YtcboegodjlfmnaaDoor.Le Go.Proofs.YtcboegodjlfmnaaDoor.Lst Go.Proofs.YtcboegodjlfmnaaDoor.Aid Go.RowKit Go.Proofs.YtcboegodjlfmnaaDoorW.PrintWords Go.Proofs.YtcboegodjlfmnaaDoorW.PrintLast Go.Proofs.YtcboegodjlfmnaaDoorW.PrintMore Go.Proofs.YtcboegodjlfmnaaDoor.Tpv Go.Proofs.YtcboegodjlfmnaaDoor.Tzz
set_option linter.unusedVariables false
set_option linter.unusedSimpArgs false
theorem len_sz : ∀ X : F, X.len ≤ F.sz X
  | .nil => Nat.le_refl _
  | .cons d id ls fs tl => by
    have := len_sz tl
    show tl.len + 1 ≤ 9 + d.bs.length + F.sz ls + F.sz fs + F.sz tl
    omega
set_option maxHeartbeats 8000000 in
set_option maxRecDepth 100000 in
theorem skip_holds0 (x : N) (cs : List Value) (A : Option Addr) (NN c : Nat) (zs : List Int) (fld : Bool) (W : World) (hin : x.In flT W (fun b => b < W.heap.size) cs) (how : NOw x) (hsz : N.sz x ≤ 1048576) (w0 : IsRow .u8 W A NN c zs) (y0 : NN * 1 ≤ 140737488351232) (hL : laidMetH Tryd.prog [("io.EOF", .iface "*errors.errorString" (.ptr (.agg [.lit (.string [69, 79, 70])]))), ("io.ErrUnexpectedEOF", .iface "*errors.errorString" (.ptr (.agg [.lit (.string [117, 110, 101, 120, 112, 101, 99, 116, 101, 100, 32, 69, 79, 70])])))] W) :
    Calls Tryd.prog 6 #[.agg cs.toArray, .slice A NN c, .bool fld] W fun e w' => e = .returned (.bool true) ∧ Below W.heap.size W w' := by
  obtain ⟨ys, hlen, hc, hC, hwf⟩ := isRow_open w0
  have hby : bytesB ys = true := bytesB_of fun x hx => byt_of_wf (hwf x hx)
  have HC := Aside0.mk hC
  have HBY := Aside0.mk hby
  have HLY : Aside0 (ys.length = NN) := ⟨hC.1⟩
  clear w0 y0 hwf hC hby hlen
  obtain ⟨bsv, lsv, fsv, lcs, fcs, e, hb1, hl1, _, hf1, _⟩ := hin.out
  obtain ⟨A1, c1, rfl, _⟩ := hb1.out
  obtain ⟨A2, c2, rfl, _⟩ := hl1.out
  obtain ⟨A3, c3, rfl, _⟩ := hf1.out
  have hsz2 : 9 + x.d.bs.length + F.sz x.ls + F.sz x.fs ≤ 1048576 := hsz
  have hn1 : x.d.bs.length ≤ 2147483647 := by omega
  have hn2 : x.ls.len ≤ 2147483647 := by have := len_sz x.ls; omega
  have hn3 : x.fs.len ≤ 2147483647 := by have := len_sz x.fs; omega
  have HFT := Aside0.mk fun V => fits_calls x.d.ty x.d.bo x.d.n x.d.bits A1 x.d.bs.length c1 x.d.ky x.d.el A2 x.ls.len c2 A3 x.fs.len c3 V hn1 hn2 hn3
  obtain ⟨n1, hq1⟩ : ∃ n1, x.d.bs.length = n1 := ⟨_, rfl⟩
  obtain ⟨n2, hq2⟩ : ∃ n2, x.ls.len = n2 := ⟨_, rfl⟩
  obtain ⟨n3, hq3⟩ : ∃ n3, x.fs.len = n3 := ⟨_, rfl⟩
  have e2 : cs = [.int .i64 x.d.ty, .bool x.d.bo, .int .i64 x.d.n, .int .u64 (x.d.bits : Int), .slice A1 n1 c1, .int .i64 x.d.ky, .int .i64 x.d.el, .slice A2 n2 c2, .slice A3 n3 c3] := by rw [e, ← hq1, ← hq2, ← hq3]; rfl
  subst e2
  rw [hq1, hq2, hq3] at HFT
  clear e hb1 hl1 hf1 hn1 hn2 hn3 hsz2 hq1 hq2 hq3
  obtain ⟨p1, p2, hE⟩ := Tla.e0_of_laid hL
  have HE := Aside0.mk hE
  have HI := Aside0.mk hin
  have HIT : Aside0 (∀ V, Below W.heap.size W V → Calls Tryd.prog 11 #[.agg #[.int .i64 x.d.ty, .bool x.d.bo, .int .i64 x.d.n, .int .u64 (x.d.bits : Int), .slice A1 n1 c1, .int .i64 x.d.ky, .int .i64 x.d.el, .slice A2 n2 c2, .slice A3 n3 c3], .int .i64 6, .bool false] V fun e w' => ItR (N.ok x 6 false) V w' e) := ⟨fun V hb => Tiv.isThing_all x how 6 false V _ (by omega) (hin.move (fun b h => hb.block b h) (fun b h => Nat.lt_of_lt_of_le h hb.size))⟩
  have HFX : Aside0 (N.ok x 6 false → ∀ long, Fx long x) := ⟨fun h long => fx_of long x how hsz h⟩
  have HTB : Aside0 (N.ok x 6 false → ∀ (long : Bool) (V : World), Below W.heap.size W V → Calls Tryd.prog 12 #[.agg #[.int .i64 x.d.ty, .bool x.d.bo, .int .i64 x.d.n, .int .u64 (x.d.bits : Int), .slice A1 n1 c1, .int .i64 x.d.ky, .int .i64 x.d.el, .slice A2 n2 c2, .slice A3 n3 c3], .bool long] V fun e w' => WB V w' (x.byB long) e) := ⟨fun h long V hb => Twc.thingBytes_all long x 6 false V _ how h (fx_of long x how hsz h).len (hin.move (fun b h => hb.block b h) (fun b h => Nat.lt_of_lt_of_le h hb.size))⟩
  clear hin how hsz hE hL
  have HB : Aside0 (Below W.heap.size W (W.alloc (.cells #[.int .i64 x.d.ty, .bool x.d.bo, .int .i64 x.d.n, .int .u64 (x.d.bits : Int), .slice A1 n1 c1, .int .i64 x.d.ky, .int .i64 x.d.el, .slice A2 n2 c2, .slice A3 n3 c3] 27))) := ⟨(Below.refl _ _).alloc (Nat.le_refl _) _⟩
  have HV := Aside0.mk (Blk.new W #[.int .i64 x.d.ty, .bool x.d.bo, .int .i64 x.d.n, .int .u64 (x.d.bits : Int), .slice A1 n1 c1, .int .i64 x.d.ky, .int .i64 x.d.el, .slice A2 n2 c2, .slice A3 n3 c3] 27)
  go_enter Tryd.func6, Tryd.ntmps6
  go_upto_region 1 with (fail)
  generalize hW1 : World.alloc _ _ = W1 at HB HV ⊢
  clear hW1
  obtain ⟨q0, q1, q2, q3, q4, q5, q6, q7, q8, qz⟩ := nine HV.out
  by_cases z1 : 2147483647 < NN
  · have k1 : decide (2147483647 < (NN : Int)) = true := decide_eq_true (by omega)
    have k11 : decide (2147483647 < NN) = true := decide_eq_true z1
    clear z1
    go_wp2_with (first
      | (go_at_call 10; (with_reducible refine (HFT.out _).mono ?_); rintro e w2 ⟨rfl, hb⟩; have HB2 := Aside0.mk (HB.out.trans (hb.mono HB.out.size)); have HV2 := Aside0.mk (HV.out.below hb HV.out.lt); obtain ⟨q0, q1, q2, q3, q4, q5, q6, q7, q8, qz⟩ := nine HV2.out; clear hb))
    go_ret
    exact ⟨rfl, HB2.out⟩
  have k1 : decide (2147483647 < (NN : Int)) = false := decide_eq_false (by omega)
  have k11 : decide (2147483647 < NN) = false := decide_eq_false z1
  clear z1
  by_cases z2 : 1000 < NN
  · have k2 : decide (1000 < (NN : Int)) = true := decide_eq_true (by omega)
    have k22 : decide (1000 < NN) = true := decide_eq_true z2
    clear z2
    go_wp2_with (first
      | (go_at_call 10; (with_reducible refine (HFT.out _).mono ?_); rintro e w2 ⟨rfl, hb⟩; have HB2 := Aside0.mk (HB.out.trans (hb.mono HB.out.size)); have HV2 := Aside0.mk (HV.out.below hb HV.out.lt); obtain ⟨q0, q1, q2, q3, q4, q5, q6, q7, q8, qz⟩ := nine HV2.out; clear hb))
    go_at_call 11
    refine (HIT.out _ HB2.out).mono ?_
    rintro e w3 HQ
    obtain ⟨b, rfl, hb⟩ := HQ.out
    have HB3 := Aside0.mk (HB2.out.trans (HQ.below.mono HB2.out.size))
    have HV3 := Aside0.mk (HV2.out.below HQ.below HV2.out.lt)
    have HOK := Aside0.mk hb
    clear HQ hb q0 q1 q2 q3 q4 q5 q6 q7 q8 qz
    obtain ⟨q0, q1, q2, q3, q4, q5, q6, q7, q8, qz⟩ := nine HV3.out
    cases b with
    | false =>
      clear HOK
      go_wp2_with (fail)
      go_ret
      exact ⟨rfl, HB3.out⟩
    | true =>
      go_wp2_with (fail)
      go_ret
      exact ⟨rfl, HB3.out⟩
  have k2 : decide (1000 < (NN : Int)) = false := decide_eq_false (by omega)
  have k22 : decide (1000 < NN) = false := decide_eq_false z2
  have hn9 : NN ≤ 1000 := by omega
  clear z2
  go_wp2_with (first
    | (go_at_call 10; (with_reducible refine (HFT.out _).mono ?_); rintro e w2 ⟨rfl, hb⟩; have HB2 := Aside0.mk (HB.out.trans (hb.mono HB.out.size)); have HV2 := Aside0.mk (HV.out.below hb HV.out.lt); obtain ⟨q0, q1, q2, q3, q4, q5, q6, q7, q8, qz⟩ := nine HV2.out; clear hb))
  go_at_call 11
  refine (HIT.out _ HB2.out).mono ?_
  rintro e w3 HQ
  obtain ⟨b, rfl, hb⟩ := HQ.out
  have HB3 := Aside0.mk (HB2.out.trans (HQ.below.mono HB2.out.size))
  have HV3 := Aside0.mk (HV2.out.below HQ.below HV2.out.lt)
  have HOK := Aside0.mk hb
  clear HQ hb q0 q1 q2 q3 q4 q5 q6 q7 q8 qz
  obtain ⟨q0, q1, q2, q3, q4, q5, q6, q7, q8, qz⟩ := nine HV3.out
  cases b with
  | false =>
    clear HOK
    go_wp2_with (fail)
    go_ret
    exact ⟨rfl, HB3.out⟩
  | true =>
    have HF := Aside0.mk (HFX.out (HOK.out rfl) false)
    have HTX := Aside0.mk (HTB.out (HOK.out rfl) false)
    obtain ⟨BX, hBX⟩ : ∃ BX, x.byB false = BX := ⟨_, rfl⟩
    obtain ⟨M, hM⟩ : ∃ M, BX.length = M := ⟨_, rfl⟩
    have hM9 : M ≤ 4000000 := by have := HF.out.len; rw [hBX, hM] at this; exact this
    rw [hBX] at HTX
    have hth := HF.out.th ys
    have hbx := HF.out.byt
    rw [hBX] at hth hbx
    have HM := Aside0.mk hM
    obtain ⟨TT, hTT⟩ : ∃ TT, BX ++ ys = TT := ⟨_, rfl⟩
    have HTT := Aside0.mk hTT
    have HTL : Aside0 (TT.length = M + NN) := ⟨by rw [← hTT, List.length_append, hM, HLY.out]⟩
    have HTB2 : Aside0 (bytesB TT = true) := ⟨by rw [← hTT]; exact Twe.bytes_app hbx HBY.out⟩
    rw [hTT] at hth
    have HTH := Aside0.mk hth
    have qM : ((M : Int) == (M : Int)) = true := by simp
    clear hBX hM hTT hth hbx
    go_upto_region 6 with (first
      | (go_at_call 12; (with_reducible refine (HTX.out _ HB3.out).mono ?_); rintro e w4 HQ; obtain ⟨v4, rfl, ho⟩ := HQ.out; obtain ⟨A4, c4, rfl, hc4, hr4⟩ := ho.read; rw [HM.out] at hc4 hr4; rw [HM.out]; have HR4 := Aside0.mk hr4; have HB4 := Aside0.mk (HB3.out.trans (HQ.below.mono HB3.out.size)); have HV4 := Aside0.mk (HV3.out.below HQ.below HV3.out.lt); clear HQ ho hr4))
    obtain ⟨U1, hU1⟩ : ∃ U1, w4.alloc (.cells #[] 5) = U1 := ⟨_, rfl⟩
    have HB1 : Aside0 (Below w4.heap.size w4 U1.drew) := ⟨hU1 ▸ ((Below.refl _ _).alloc (Nat.le_refl _) _).drew⟩
    have o1 : Own U1 w4.heap.size 5 .u8 (.slice (some ⟨w4.heap.size, 0, none⟩) 0 0) [] := hU1 ▸ Own.empty w4 w4.heap.size 5 .u8 (Nat.le_refl _)
    have HO1 : Aside0 (Own U1.drew w4.heap.size 5 .u8 (.slice (some ⟨w4.heap.size, 0, none⟩) 0 0) []) := ⟨o1.drewN 1⟩
    obtain ⟨q0, q1, q2, q3, q4, q5, q6, q7, q8, qz⟩ := nine HV4.out
    have HXA : Aside0 (∀ V, Below w4.heap.size w4 V → V.cell? ⟨W.heap.size, 0, none⟩ = some (.int .i64 x.d.ty)) := ⟨fun V h => (h.cell HV4.out.lt).trans q0⟩
    have HCW : Aside0 (∀ V, Below w4.heap.size w4 V → (Kd.int .u8).C V A4 M BX ∧ (Kd.int .u8).C V A NN ys) := ⟨fun V h => ⟨Kd.C_below HR4.out h, Kd.C_below (Kd.C_below HC.out HB4.out) h⟩⟩
    have HSK : Aside0 (∀ (V : World) (A' : Option Addr) (c' : Nat), Below w4.heap.size w4 V → (Kd.int .u8).C V A' (M + NN) TT → Calls Tryd.prog 15 #[.slice A' ((M : Nat) + NN) c', .int .i64 x.d.ty, .bool fld] V fun e w' => e = .returned (.tuple #[.int .i64 (M : Int), .bool true]) ∧ Below V.heap.size V w') := ⟨fun V A' c' hV hC => Tsn.skipThing_calls A' (M + NN) c' M TT ys x.d.ty fld x V hC (by omega) HTB2.out HTH.out (by rw [← HTT.out, ← HM.out, List.drop_left]) (by omega)⟩
    clear o1
    go_region_held3 (fun (V : World) => V.cell? ⟨W.heap.size, 0, none⟩ = some (.int .i64 x.d.ty))
      (first
        | with_reducible exact HXA.out _ HBr.out
        | with_reducible exact HXA.out _ HBq.out
        | with_reducible exact HXA.out _ HBp.out
        | with_reducible exact HXA.out _ HB1.out
        | with_reducible exact HXA.out _ (Below.refl _ _).drew)
      ((first
        | ((with_reducible refine appendReadStepAt (w0 := w4) (W := U1.drew) w4.heap.size ?g (.tmp 29) (.tmp 30) 23 5 .u8 1 ?o Tryd.underlying23 infoU8 ?d (.slice (some ⟨w4.heap.size, 0, none⟩) 0 0) [] A4 M c4 BX ?e1 ?e2 HO1.out HB1.out HB1.out.size ?hC ?hl ?_); (case g => rfl); (case o => rfl); (case d => decide); (case e1 => rfl); (case e2 => rfl); (case hC => exact (HCW.out _ HB1.out).1); (case hl => show (0 + M) * 1 ≤ _; omega); intro v5 w5 ho hb hg hat; rw [List.nil_append] at ho; have HOp := Aside0.mk ho; have HBp := Aside0.mk hb; clear ho hb hg hat)
        | ((with_reducible refine appendReadStepAt (w0 := w4) (W := w5) w4.heap.size ?g (.tmp 31) (.tmp 32) 23 5 .u8 1 ?o Tryd.underlying23 infoU8 ?d _ BX A NN c ys ?e1 ?e2 HOp.out HBp.out HBp.out.size ?hC ?hl ?_); (case g => rfl); (case o => rfl); (case d => decide); (case e1 => rfl); (case e2 => rfl); (case hC => exact (HCW.out _ HBp.out).2); (case hl => rw [HM.out]; omega); intro v6 w6 ho hb hg hat; rw [HTT.out] at ho; obtain ⟨A6, c6, rfl, hc6, hr6⟩ := ho.read; rw [HTL.out] at hc6 hr6; rw [HTL.out]; have HRq := Aside0.mk hr6; have HBq := Aside0.mk hb; clear ho hb hg hat)
        | (go_at_call 15; (with_reducible refine (HSK.out _ A6 c6 HBq.out HRq.out).mono ?_); rintro e w7 ⟨rfl, hb⟩; have HBr := Aside0.mk (HBq.out.trans (hb.mono HBq.out.size)); clear hb)
        | fail "no arm"))
    go_wp2_with (fail)
    go_ret
    exact ⟨rfl, HB4.out.trans (HBr.out.mono HB4.out.size)⟩
end Go.Proofs.YtcboegodjlfmnaaDoor.Twf
