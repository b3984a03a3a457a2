import Derived.Test.YtcboegodjlfmnaaDoorSlTwe
import Derived.Test.YtcboegodjlfmnaaDoorSlTrz
import Derived.Deep.RegionHeld3
namespace Go.Proofs.YtcboegodjlfmnaaDoor.Twh
open Go.Proofs.YtcboegodjlfmnaaDoor.Twe Go.Proofs.YtcboegodjlfmnaaDoor.Tit Go.Proofs.YtcboegodjlfmnaaDoor.Twd Go.Proofs.YtcboegodjlfmnaaDoor.Trt Go.Proofs.YtcboegodjlfmnaaDoor.Twb Go.Proofs.YtcboegodjlfmnaaDoor.Tbk Go.Proofs.YtcboegodjlfmnaaDoor.Twc Go.Proofs.YtcboegodjlfmnaaDoor.Twb Go.Proofs.YtcboegodjlfmnaaDoor.Twa Go.Proofs.YtcboegodjlfmnaaDoor.Tit Go.Proofs.YtcboegodjlfmnaaDoor.Tsd Go.Proofs.YtcboegodjlfmnaaDoor.Ton Go.Proofs.YtcboegodjlfmnaaDoor.Tpw Go.Proofs.YtcboegodjlfmnaaDoor.Tap Go.Proofs.YtcboegodjlfmnaaDoor.Tzm Go.Proofs.YtcboegodjlfmnaaDoor.Tzl Go.Proofs.YtcboegodjlfmnaaDoor.Trh Go.Proofs.YtcboegodjlfmnaaDoor.Trn Go.Proofs.YtcboegodjlfmnaaDoor.Trm Go.Proofs.YtcboegodjlfmnaaDoor.Tuv Go.Proofs.YtcboegodjlfmnaaDoor.Tpa Go.Proofs.YtcboegodjlfmnaaDoor.Duv Go.Proofs.YtcboegodjlfmnaaDoor.Dpu Go.Proofs.YtcboegodjlfmnaaDoor.Pak Go.Proofs.YtcboegodjlfmnaaDoor.Buf Go.Proofs.YtcboegodjlfmnaaDoor.Fit Go.Proofs.YtcboegodjlfmnaaDoor.Bit Go.Proofs.YtcboegodjlfmnaaDoor.Wrd Go.Proofs.YtcboegodjlfmnaaDoor.Spl Go.Proofs.YtcboegodjlfmnaaDoor.Str Go.Proofs.YtcboegodjlfmnaaDoor.Flt Go.Proofs.YtcboegodjlfmnaaDoor.Owe Go.Proofs.YtcboegodjlfmnaaDoor.Num Go.Proofs.YtcboegodjlfmnaaDoor.Le Go.Proofs.YtcboegodjlfmnaaDoor.Lst Go.Proofs.YtcboegodjlfmnaaDoor.Aid Go.RowKit Go.Proofs.YtcboegodjlfmnaaDoorW.PrintWords Go.Proofs.YtcboegodjlfmnaaDoorW.PrintLast Go.Proofs.YtcboegodjlfmnaaDoorW.PrintMore Go.Proofs.YtcboegodjlfmnaaDoor.Tpv Go.Proofs.YtcboegodjlfmnaaDoor.Tzz
set_option linter.unusedVariables false
set_option linter.unusedSimpArgs false
theorem len_sz : ∀ X : F, X.len ≤ F.sz X
  | .nil => Nat.le_refl _
  | .cons d id ls fs tl => by
    have := len_sz tl
    show tl.len + 1 ≤ 9 + d.bs.length + F.sz ls + F.sz fs + F.sz tl
    omega
theorem mask_any (a : Int) (M : Nat) (hM : M < 4611686018427387904) : ∃ r : Nat, Go.bits .and .i64 a (M : Int) = (r : Int) ∧ r ≤ M := by
  have h : Go.bits .and .i64 a (M : Int) = IntKind.i64.wrap (((BitVec.ofInt 64 a &&& BitVec.ofInt 64 (M : Int)).toNat : Nat) : Int) := rfl
  have h2 : (BitVec.ofInt 64 a &&& BitVec.ofInt 64 (M : Int)).toNat ≤ M := by
    rw [BitVec.toNat_and]
    refine Nat.le_trans Nat.and_le_right ?_
    rw [BitVec.toNat_ofInt]
    omega
  refine ⟨(BitVec.ofInt 64 a &&& BitVec.ofInt 64 (M : Int)).toNat, ?_, h2⟩
  rw [h, IntWalk.i64_in _ (by omega)]
structure CutR (w wx : World) (v8 : Value) : Prop where
  mk :: (out : v8 = .bool false ∧ Below w.heap.size w wx)
set_option maxHeartbeats 8000000 in
set_option maxRecDepth 100000 in
theorem cut_holds0 (x : N) (cs : List Value) (at' : Int) (W : World) (hin : x.In flT W (fun b => b < W.heap.size) cs) (how : NOw x) (hsz : N.sz x ≤ 1048576) (w0 : (Lit.int .i64 at').wf = true) (hL : laidMetH Tryd.prog [("io.EOF", .iface "*errors.errorString" (.ptr (.agg [.lit (.string [69, 79, 70])]))), ("io.ErrUnexpectedEOF", .iface "*errors.errorString" (.ptr (.agg [.lit (.string [117, 110, 101, 120, 112, 101, 99, 116, 101, 100, 32, 69, 79, 70])])))] W) :
    Calls Tryd.prog 3 #[.agg cs.toArray, .int .i64 at'] W fun e w' => e = .returned (.bool true) ∧ Below W.heap.size W w' := by
  obtain ⟨bsv, lsv, fsv, lcs, fcs, e, hb1, hl1, _, hf1, _⟩ := hin.out
  obtain ⟨A1, c1, rfl, _⟩ := hb1.out
  obtain ⟨A2, c2, rfl, _⟩ := hl1.out
  obtain ⟨A3, c3, rfl, _⟩ := hf1.out
  have hsz2 : 9 + x.d.bs.length + F.sz x.ls + F.sz x.fs ≤ 1048576 := hsz
  have hn1 : x.d.bs.length ≤ 2147483647 := by omega
  have hn2 : x.ls.len ≤ 2147483647 := by have := len_sz x.ls; omega
  have hn3 : x.fs.len ≤ 2147483647 := by have := len_sz x.fs; omega
  have HFT := Aside0.mk fun V => fits_calls x.d.ty x.d.bo x.d.n x.d.bits A1 x.d.bs.length c1 x.d.ky x.d.el A2 x.ls.len c2 A3 x.fs.len c3 V hn1 hn2 hn3
  obtain ⟨n1, hq1⟩ : ∃ n1, x.d.bs.length = n1 := ⟨_, rfl⟩
  obtain ⟨n2, hq2⟩ : ∃ n2, x.ls.len = n2 := ⟨_, rfl⟩
  obtain ⟨n3, hq3⟩ : ∃ n3, x.fs.len = n3 := ⟨_, rfl⟩
  have e2 : cs = [.int .i64 x.d.ty, .bool x.d.bo, .int .i64 x.d.n, .int .u64 (x.d.bits : Int), .slice A1 n1 c1, .int .i64 x.d.ky, .int .i64 x.d.el, .slice A2 n2 c2, .slice A3 n3 c3] := by rw [e, ← hq1, ← hq2, ← hq3]; rfl
  subst e2
  rw [hq1, hq2, hq3] at HFT
  clear e hb1 hl1 hf1 hn1 hn2 hn3 hsz2 hq1 hq2 hq3
  obtain ⟨p1, p2, hE⟩ := Tla.e0_of_laid hL
  have HE := Aside0.mk hE
  have HI := Aside0.mk hin
  have HIT : Aside0 (∀ V, Below W.heap.size W V → Calls Tryd.prog 11 #[.agg #[.int .i64 x.d.ty, .bool x.d.bo, .int .i64 x.d.n, .int .u64 (x.d.bits : Int), .slice A1 n1 c1, .int .i64 x.d.ky, .int .i64 x.d.el, .slice A2 n2 c2, .slice A3 n3 c3], .int .i64 6, .bool false] V fun e w' => ItR (N.ok x 6 false) V w' e) := ⟨fun V hb => Tiv.isThing_all x how 6 false V _ (by omega) (hin.move (fun b h => hb.block b h) (fun b h => Nat.lt_of_lt_of_le h hb.size))⟩
  have HFX : Aside0 (N.ok x 6 false → ∀ long, Fx long x) := ⟨fun h long => fx_of long x how hsz h⟩
  have HTB : Aside0 (N.ok x 6 false → ∀ (long : Bool) (V : World), Below W.heap.size W V → Calls Tryd.prog 12 #[.agg #[.int .i64 x.d.ty, .bool x.d.bo, .int .i64 x.d.n, .int .u64 (x.d.bits : Int), .slice A1 n1 c1, .int .i64 x.d.ky, .int .i64 x.d.el, .slice A2 n2 c2, .slice A3 n3 c3], .bool long] V fun e w' => WB V w' (x.byB long) e) := ⟨fun h long V hb => Twc.thingBytes_all long x 6 false V _ how h (fx_of long x how hsz h).len (hin.move (fun b h => hb.block b h) (fun b h => Nat.lt_of_lt_of_le h hb.size))⟩
  clear hin how hsz hE hL
  have HB : Aside0 (Below W.heap.size W (W.alloc (.cells #[.int .i64 x.d.ty, .bool x.d.bo, .int .i64 x.d.n, .int .u64 (x.d.bits : Int), .slice A1 n1 c1, .int .i64 x.d.ky, .int .i64 x.d.el, .slice A2 n2 c2, .slice A3 n3 c3] 27))) := ⟨(Below.refl _ _).alloc (Nat.le_refl _) _⟩
  have HV := Aside0.mk (Blk.new W #[.int .i64 x.d.ty, .bool x.d.bo, .int .i64 x.d.n, .int .u64 (x.d.bits : Int), .slice A1 n1 c1, .int .i64 x.d.ky, .int .i64 x.d.el, .slice A2 n2 c2, .slice A3 n3 c3] 27)
  go_enter Tryd.func3, Tryd.ntmps3
  go_upto_region 1 with (fail)
  generalize hW1 : World.alloc _ _ = W1 at HB HV ⊢
  clear hW1
  obtain ⟨q0, q1, q2, q3, q4, q5, q6, q7, q8, qz⟩ := nine HV.out
  go_wp2_with (first
    | (go_at_call 10; (with_reducible refine (HFT.out _).mono ?_); rintro e w2 ⟨rfl, hb⟩; have HB2 := Aside0.mk (HB.out.trans (hb.mono HB.out.size)); have HV2 := Aside0.mk (HV.out.below hb HV.out.lt); obtain ⟨q0, q1, q2, q3, q4, q5, q6, q7, q8, qz⟩ := nine HV2.out; clear hb))
  go_at_call 11
  refine (HIT.out _ HB2.out).mono ?_
  rintro e w3 HQ
  obtain ⟨b, rfl, hb⟩ := HQ.out
  have HB3 := Aside0.mk (HB2.out.trans (HQ.below.mono HB2.out.size))
  have HV3 := Aside0.mk (HV2.out.below HQ.below HV2.out.lt)
  have HOK := Aside0.mk hb
  clear HQ hb q0 q1 q2 q3 q4 q5 q6 q7 q8 qz
  obtain ⟨q0, q1, q2, q3, q4, q5, q6, q7, q8, qz⟩ := nine HV3.out
  cases b with
  | false =>
    clear HOK
    go_wp2_with (fail)
    go_ret
    exact ⟨rfl, HB3.out⟩
  | true =>
    have HF := Aside0.mk (HFX.out (HOK.out.1 rfl) false)
    have HTX := Aside0.mk (HTB.out (HOK.out.1 rfl) false)
    obtain ⟨BX, hBX⟩ : ∃ BX, x.byB false = BX := ⟨_, rfl⟩
    obtain ⟨M, hM⟩ : ∃ M, BX.length = M := ⟨_, rfl⟩
    have hM9 : M ≤ 4000000 := by have := HF.out.len; rw [hBX, hM] at this; exact this
    rw [hBX] at HTX
    have hpos : 0 < M := by have := HF.out.ne; rw [hBX, hM] at this; exact this
    have hth := HF.out.th []
    rw [List.append_nil] at hth
    have hbx := HF.out.byt
    rw [hBX] at hth hbx
    have HM := Aside0.mk hM
    have HTH := Aside0.mk hth
    have HBX := Aside0.mk hbx
    have HPRE : Aside0 (∀ k, k < M → thP 7 x.d.ty (BX.take k) = .cut) := ⟨fun k hk => th_breaks false x 6 false (BX.take k) (BX.drop k) (HOK.out.1 rfl) HF.out.ty.1 (by rw [hBX, List.take_append_drop]) (fun h => by have h2 := congrArg List.length h; rw [List.length_drop, hM] at h2; simp at h2; omega)⟩
    have qM : ((M : Int) == (M : Int)) = true := by simp
    clear hBX hM hth hbx
    obtain ⟨r, hr, hr9⟩ := mask_any at' 16777215 (by decide)
    have e1 : ((16777215 : Nat) : Int) = 16777215 := rfl
    rw [e1] at hr
    obtain ⟨k, hk⟩ : ∃ k, r % M = k := ⟨_, rfl⟩
    have hkM : k < M := by rw [← hk]; exact Nat.mod_lt _ hpos
    have hrt : (r : Int).tmod (M : Int) = (k : Int) := by rw [Int.tmod_eq_emod_of_nonneg (by omega), ← hk]; rfl
    have hM0 : ((M : Int) == 0) = false := by simpa using (show (M : Int) ≠ 0 by omega)
    have hM0' : (M : Int) ≠ 0 := by omega
    have hMn : ¬ M = 0 := by omega
    have hMb : (M == 0) = false := by simpa using hMn
    have hMd : decide (M = 0) = false := decide_eq_false hMn
    have hMe : decide ((M : Int) = 0) = false := decide_eq_false hM0'
    have hk0 : (0 : Int) ≤ (k : Int) := by omega
    have hk1 : (k : Int) ≤ (M : Int) := by omega
    have hwk : IntKind.i64.wrap (k : Int) = (k : Int) := IntWalk.i64_in _ (by omega)
    have hwt : IntKind.i64.wrap ((r : Int).tmod (M : Int)) = (k : Int) := by rw [hrt]; exact hwk
    clear hk e1 hr9
    go_upto_region 6 with (first
      | (go_at_call 12; (with_reducible refine (HTX.out _ HB3.out).mono ?_); rintro e w4 HQ; obtain ⟨v4, rfl, ho⟩ := HQ.out; obtain ⟨A4, c4, rfl, hc4, hr4⟩ := ho.read; rw [HM.out] at hc4 hr4; rw [HM.out]; have HR4 := Aside0.mk hr4; have HB4 := Aside0.mk (HB3.out.trans (HQ.below.mono HB3.out.size)); have HV4 := Aside0.mk (HV3.out.below HQ.below HV3.out.lt); clear HQ ho hr4))
    obtain ⟨i8, h8⟩ := h8
    obtain ⟨hcut1, hC1⟩ := cutHi (P := Tryd.prog) 23 5 Tryd.underlying23 h8.1 A4 M c4 .i64 (k : Int) k rfl (by omega) hc4
    obtain ⟨q0, q1, q2, q3, q4, q5, q6, q7, q8, qz⟩ := nine HV4.out
    have HXA : Aside0 (∀ V, Below w4.heap.size w4 V → V.cell? ⟨W.heap.size, 0, none⟩ = some (.int .i64 x.d.ty)) := ⟨fun V h => (h.cell HV4.out.lt).trans q0⟩
    have HRT : Aside0 (∀ (V : World), Below w4.heap.size w4 V → Calls Tryd.prog 13 #[.slice A4 k c4, .int .i64 x.d.ty] V fun e w' => RtOutS (BX.take k) k .cut V w' e) := ⟨fun V hV => by
      have h := readThing_callsS A4 k c4 (BX.take k) x.d.ty p1 p2 V (hC1 (.int .u8) V BX (Kd.C_below HR4.out hV)) (by omega) (bytesB_of fun y hy => bytesB_mem HBX.out y (List.mem_of_mem_take hy)) ((HE.out.below fun b hb => HB4.out.block b hb).below fun b hb => hV.block b hb) (by have := HF.out.ty; omega) (by rw [HPRE.out k hkM]; intro h; cases h)
      rw [HPRE.out k hkM] at h
      exact h⟩
    have HBa : Aside0 (Below w4.heap.size w4 (w4.alloc (.cells #[.int .i64 0, .bool false, .int .i64 0, .int .u64 0, .slice none 0 0, .int .i64 0, .int .i64 0, .slice none 0 0, .slice none 0 0] 27)).drew) := ⟨((Below.refl _ _).alloc (Nat.le_refl _) _).drew⟩
    have HBn : Aside0 (Below w4.heap.size w4 w4.drew) := ⟨(Below.refl _ _).drew⟩
    have HZa : Aside0 (Blk (w4.alloc (.cells #[.int .i64 0, .bool false, .int .i64 0, .int .u64 0, .slice none 0 0, .int .i64 0, .int .i64 0, .slice none 0 0, .slice none 0 0] 27)).drew w4.heap.size #[.int .i64 0, .bool false, .int .i64 0, .int .u64 0, .slice none 0 0, .int .i64 0, .int .i64 0, .slice none 0 0, .slice none 0 0] 27) := ⟨(Blk.new w4 _ _).drew⟩
    clear hC1 h8
    go_cut [6, 7, 8] from 17 to 30 (fun v6 v7 v8 wx => CutR w4 wx v8)
    case first =>
      go_region_held3 (fun (V : World) => V.cell? ⟨W.heap.size, 0, none⟩ = some (.int .i64 x.d.ty))
        (first
          | with_reducible exact HXA.out _ (belowSets (Nat.le_refl _) HBr.out)
          | with_reducible exact HXA.out _ (HBr.out.alloc HBr.out.size _)
          | with_reducible exact HXA.out _ HBr.out
          | with_reducible exact HXA.out _ HBa.out
          | with_reducible exact HXA.out _ HBn.out)
        ((first
          | (go_at_call 13; (with_reducible refine (HRT.out _ HBn.out).mono ?_); rintro e w5 HQ; obtain rfl := HQ.cut rfl; have HBr := Aside0.mk (HBn.out.trans (HQ.below.mono HBn.out.size)); clear HQ)
          | (go_at_call 13; (with_reducible refine (HRT.out _ HBa.out).mono ?_); rintro e w5 HQ; obtain rfl := HQ.cut rfl; have hzr := HZa.out.below HQ.below HZa.out.lt; obtain ⟨z0, z1, z2, z3, z4, z5, z6, z7, z8, zz⟩ := nine hzr; clear hzr; have HBr := Aside0.mk (HBa.out.trans (HQ.below.mono HBa.out.size)); clear HQ)
          | fail "no arm"))
      all_goals (go_wp2_with (fail); go_meet)
      all_goals first
        | (with_reducible exact ⟨⟨rfl, HBr.out.alloc HBr.out.size _⟩⟩)
        | (with_reducible exact ⟨⟨rfl, belowSets (Nat.le_refl _) HBr.out⟩⟩)
    case rest =>
      obtain ⟨rfl, hbc⟩ := hcut.out
      have HBc := Aside0.mk (HB4.out.trans (hbc.mono HB4.out.size))
      have HVc := Aside0.mk (HV4.out.below hbc HV4.out.lt)
      have HTI : Aside0 (Calls Tryd.prog 14 #[.agg #[.int .i64 x.d.ty, .bool x.d.bo, .int .i64 x.d.n, .int .u64 (x.d.bits : Int), .slice A1 n1 c1, .int .i64 x.d.ky, .int .i64 x.d.el, .slice A2 n2 c2, .slice A3 n3 c3], .slice A4 M c4, .slice none 0 0] wc fun e w' => e = .returned (.bool true) ∧ Below wc.heap.size wc w') := ⟨Twd.thIs_calls x HF.out.wf A1 n1 c1 A2 n2 c2 A3 n3 c3 A4 M c4 BX none 0 0 [] p1 p2 wc (HI.out.move (fun b h => HBc.out.block b h) (fun b h => Nat.lt_of_lt_of_le h HBc.out.size)) (Kd.C_below HR4.out hbc) ⟨rfl, by simp, fun h => absurd h (by simp)⟩ (by omega) (by omega) (by rw [List.append_nil]; exact HBX.out) (HE.out.below fun b h => HBc.out.block b h) HF.out.ty (by rw [List.append_nil]; exact HTH.out)⟩
      clear hcut hbc q0 q1 q2 q3 q4 q5 q6 q7 q8 qz
      obtain ⟨q0, q1, q2, q3, q4, q5, q6, q7, q8, qz⟩ := nine HVc.out
      go_wp2_with (first
        | (go_at_call 14; (with_reducible refine HTI.out.mono ?_); rintro e w6 ⟨rfl, hb⟩; have HB6 := Aside0.mk (HBc.out.trans (hb.mono HBc.out.size)); clear hb))
      go_ret
      exact ⟨rfl, HB6.out⟩
end Go.Proofs.YtcboegodjlfmnaaDoor.Twh
