import Derived.Test.YtoopljlbiifmfaaLrl
import Derived.Test.YtoopljlbiifmfaaRvh
import Derived.Test.YtoopljlbiifmfaaPad
/-! Levels in runs, written: the law. -/
namespace Go.Proofs.Ytoopljlbiifmfaa.Llw
open Go.Proofs.Ytoopljlbiifmfaa.Pad Go.Proofs.Ytoopljlbiifmfaa.Rvh Go.Proofs.Ytoopljlbiifmfaa.Uva Go.Proofs.Ytoopljlbiifmfaa.Lrl Go.Proofs.Ytoopljlbiifmfaa.Rlx Go.Proofs.Ytoopljlbiifmfaa.Rle Go.Proofs.Ytoopljlbiifmfaa.Run Go.Proofs.Ytoopljlbiifmfaa.Rlp Go.Proofs.Ytoopljlbiifmfaa.Rlb Go.Proofs.Ytoopljlbiifmfaa.Buf Go.Proofs.Ytoopljlbiifmfaa.Fit Go.Proofs.Ytoopljlbiifmfaa.Bit Go.Proofs.Ytoopljlbiifmfaa.Wrd Go.Proofs.Ytoopljlbiifmfaa.Spl Go.Proofs.Ytoopljlbiifmfaa.Str Go.Proofs.Ytoopljlbiifmfaa.Flt Go.Proofs.Ytoopljlbiifmfaa.Owe Go.Proofs.Ytoopljlbiifmfaa.Num Go.Proofs.Ytoopljlbiifmfaa.Le Go.Proofs.Ytoopljlbiifmfaa.Lst Go.Proofs.Ytoopljlbiifmfaa.Aid Go.RowKit Go.Proofs.YtoopljlbiifmfaaW.PrintWords Go.Proofs.YtoopljlbiifmfaaW.PrintLast Go.Proofs.YtoopljlbiifmfaaW.PrintMore
set_option linter.unusedVariables false
set_option linter.unusedSimpArgs false
set_option maxHeartbeats 8000000 in
set_option maxRecDepth 100000 in
theorem levelsWrittenLaw (x : Int) (a1 : Option Addr) (len1 cap1 : Nat) (z1 : List Int) (W : World) (hx : (Lit.int .i64 x).wf = true) (w1 : IsRow .u8 W a1 len1 cap1 z1) (y1 : len1 * 1 ≤ 140737488351232) :
    Calls Try.prog 3 #[.int .i64 x, .slice a1 len1 cap1] W fun e w' => e = .returned (.bool true) ∧ Below W.heap.size W w' := by
  obtain ⟨l, hlen, hc, hC, hwf⟩ := isRow_open w1
  have HLN := Aside0.mk hlen
  have HC := Aside0.mk hC
  have HWF := Aside0.mk hwf
  clear w1 hC hwf hlen
  by_cases h1 : 2147483647 < len1
  · have q1 : decide (2147483647 < (len1 : Int)) = true := decide_eq_true (by omega)
    go_enter Try.func3, Try.ntmps3
    go_wp2
    go_ret
    exact ⟨rfl, Below.refl _ _⟩
  have q1 : decide (2147483647 < (len1 : Int)) = false := decide_eq_false (by omega)
  obtain ⟨hs1, hs2⟩ := widthI_bd x 8 (by omega)
  obtain ⟨w, hw⟩ : ∃ w : Nat, widthI x 8 = (w : Int) := ⟨(widthI x 8).toNat, by omega⟩
  rw [hw] at hs1 hs2
  have HSX := Aside0.mk hw
  have hw1 : 1 ≤ w := by omega
  have hw8 : w ≤ 8 := by omega
  clear hs1 hs2 hw
  have HEW : Aside0 (∀ w0 : World, Calls Try.prog 5 #[.int .i64 x, .int .i64 8] w0 fun e w' => e = .returned (.int .i64 (w : Int)) ∧ w0 = w') := ⟨fun w0 => by have := enWidth_calls x 8 (by omega) (by omega) w0; rw [HSX.out] at this; exact this⟩
  have HWI : Aside0 (∀ (A : Option Addr) (c : Nat) (W1 : World), (Kd.int .u8).C W1 A len1 l → len1 ≤ c → Calls Try.prog 7 #[.int .i64 64, .slice A len1 c] W1 fun e w' => ∃ v, e = .returned v ∧ Own w' W1.heap.size 37 .u64 v l ∧ Below W1.heap.size W1 w') := ⟨fun A c W1 hA hcA => by
    have := wide_byte_calls A len1 c l W1 hA hcA (by omega) HWF.out
    rw [wide64_bytes HWF.out] at this
    exact this⟩
  have HU64 : Aside0 (u64L l) := ⟨fun x hx => by have := HWF.out x hx; simp [Lit.wf, IntKind.min, IntKind.max, IntKind.signed, IntKind.bits] at this; unfold u64B; omega⟩
  by_cases hf : fitL w l ∧ l.length ≤ 100000
  · have HFB : Aside0 (fitB w l = true) := ⟨decide_eq_true hf⟩
    have HFL := Aside0.mk hf.1
    have hn9 : len1 ≤ 100000 := by have := hf.2; rw [HLN.out] at this; exact this
    have HENC : Aside0 (∀ w2, Below W.heap.size W w2 → _) := ⟨fun w2 hb => encodeLevelsRl_calls a1 len1 cap1 w l w2 (Kd.C_below HC.out hb) hc hn9 hw1 hw8 HFL.out⟩
    clear hf
    go_enter Try.func3, Try.ntmps3
    go_wp2_with (first
      | (go_at_call 5; (with_reducible refine (HEW.out _).mono ?_); rintro e w0 ⟨rfl, rfl⟩)
      | (go_at_call 7; (first
        | ((with_reducible refine (HWI.out a1 cap1 W HC.out hc).mono ?_); rintro e w1 ⟨v1, rfl, ho, hb⟩; obtain ⟨A1, c1, rfl, hc1, hr1⟩ := ho.read; rw [HLN.out] at hc1 hr1; rw [HLN.out]; have HR1 := Aside0.mk hr1; have HB1 := Aside0.mk hb; clear ho hb hr1)
        | ((with_reducible refine (HWI.out a1 cap1 w4 (Kd.C_below HC.out HB4.out) hc).mono ?_); rintro e w6 ⟨v6, rfl, ho, hb⟩; obtain ⟨A6, c6, rfl, hc6, hr6⟩ := ho.read; rw [HLN.out] at hc6 hr6; rw [HLN.out]; have HR6 := Aside0.mk hr6; have HR46 := Aside0.mk (Kd.C_below HR4.out hb); have HB6 := Aside0.mk (HB4.out.trans (hb.mono HB4.out.size)); clear ho hb hr6)))
      | (go_at_call 6; (with_reducible refine (allFit_calls w A1 len1 c1 l w1 HR1.out hc1 (by omega) (by omega) HU64.out).mono ?_); rintro e w2 ⟨he, rfl⟩; rw [HFB.out] at he; subst he)
      | (go_at_call 8; (with_reducible refine (HENC.out w1 HB1.out).mono ?_); rintro e w3 ⟨v3, rs, rfl, ho, hv, hk, hb⟩; have HV3 := Aside0.mk hv; have HK3 := Aside0.mk hk; obtain ⟨X, hX⟩ : ∃ X, hyb w rs = X := ⟨_, rfl⟩; have HX := Aside0.mk hX; have hN9 : X.length ≤ 900000 := (by rw [← hX]; have := hyb_le w (by omega) rs hk (by rw [hv, HLN.out]; omega); rw [hv, HLN.out] at this; omega); rw [hX] at ho; obtain ⟨A3, c3, rfl, hc3, hr3⟩ := ho.read; obtain ⟨N, hN⟩ : ∃ N, X.length = N := ⟨_, rfl⟩; rw [hN] at hc3 hr3 hN9; rw [hN]; have HR3 := Aside0.mk hr3; have HB3 := Aside0.mk (HB1.out.trans (hb.mono HB1.out.size)); clear ho hb hr3 hv hk hX hN)
      | (go_at_call 9; (with_reducible refine (readHybrid_calls A3 N c3 w X rs w3 HR3.out HX.out.symm hc3 (by omega) hw1 (by omega) HK3.out (by rw [HV3.out, HLN.out]; omega)).mono ?_); rintro e w4 ⟨v4, rfl, ho, hb⟩; rw [HV3.out] at ho; obtain ⟨A4, c4, rfl, hc4, hr4⟩ := ho.read; rw [HLN.out] at hc4 hr4; rw [HLN.out]; have HR4 := Aside0.mk hr4; have HB4 := Aside0.mk (HB3.out.trans (hb.mono HB3.out.size)); clear ho hb hr4)
      | (go_at_call 10; (with_reducible refine (padded_calls A4 A6 len1 c4 c6 l w6 HR46.out HR6.out hc4 (by omega)).mono ?_); rintro e w7 ⟨rfl, ⟨nd, rfl⟩⟩; have HB7 := Aside0.mk (HB6.out.trans ((drewN_below w6 nd).mono HB6.out.size))))
    go_ret
    exact ⟨rfl, HB7.out⟩
  · have HFB : Aside0 (fitB w l = false) := ⟨decide_eq_false hf⟩
    clear hf
    go_enter Try.func3, Try.ntmps3
    go_wp2_with (first
      | (go_at_call 5; (with_reducible refine (HEW.out _).mono ?_); rintro e w0 ⟨rfl, rfl⟩)
      | (go_at_call 7; (with_reducible refine (HWI.out a1 cap1 W HC.out hc).mono ?_); rintro e w1 ⟨v1, rfl, ho, hb⟩; obtain ⟨A1, c1, rfl, hc1, hr1⟩ := ho.read; rw [HLN.out] at hc1 hr1; rw [HLN.out]; have HR1 := Aside0.mk hr1; have HB1 := Aside0.mk hb; clear ho hb hr1)
      | (go_at_call 6; (with_reducible refine (allFit_calls w A1 len1 c1 l w1 HR1.out hc1 (by omega) (by omega) HU64.out).mono ?_); rintro e w2 ⟨he, rfl⟩; rw [HFB.out] at he; subst he))
    go_ret
    exact ⟨rfl, HB1.out⟩
end Go.Proofs.Ytoopljlbiifmfaa.Llw
