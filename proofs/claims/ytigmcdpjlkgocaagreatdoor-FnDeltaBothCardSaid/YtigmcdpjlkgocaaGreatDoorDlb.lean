import Derived.Test.YtigmcdpjlkgocaaGreatDoorDew
import Derived.Test.YtigmcdpjlkgocaaGreatDoorDdm
/-! Differences, written and read: the law. -/
namespace Go.Proofs.YtigmcdpjlkgocaaGreatDoor.Dlb
open Go.Proofs.YtigmcdpjlkgocaaGreatDoor.Dew Go.Proofs.YtigmcdpjlkgocaaGreatDoor.Ddm Go.Proofs.YtigmcdpjlkgocaaGreatDoor.Ddc Go.Proofs.YtigmcdpjlkgocaaGreatDoor.Dhr Go.Proofs.YtigmcdpjlkgocaaGreatDoor.Dst Go.Proofs.YtigmcdpjlkgocaaGreatDoor.Deo Go.Proofs.YtigmcdpjlkgocaaGreatDoor.Den Go.Proofs.YtigmcdpjlkgocaaGreatDoor.Deb Go.Proofs.YtigmcdpjlkgocaaGreatDoor.Drx Go.Proofs.YtigmcdpjlkgocaaGreatDoor.Dds Go.Proofs.YtigmcdpjlkgocaaGreatDoor.Dbw Go.Proofs.YtigmcdpjlkgocaaGreatDoor.Dbk Go.Proofs.YtigmcdpjlkgocaaGreatDoor.Dhd Go.Proofs.YtigmcdpjlkgocaaGreatDoor.Dgr Go.Proofs.YtigmcdpjlkgocaaGreatDoor.Dpu Go.Proofs.YtigmcdpjlkgocaaGreatDoor.Pak Go.Proofs.YtigmcdpjlkgocaaGreatDoor.Buf Go.Proofs.YtigmcdpjlkgocaaGreatDoor.Fit Go.Proofs.YtigmcdpjlkgocaaGreatDoor.Bit Go.Proofs.YtigmcdpjlkgocaaGreatDoor.Wrd Go.Proofs.YtigmcdpjlkgocaaGreatDoor.Spl Go.Proofs.YtigmcdpjlkgocaaGreatDoor.Str Go.Proofs.YtigmcdpjlkgocaaGreatDoor.Flt Go.Proofs.YtigmcdpjlkgocaaGreatDoor.Owe Go.Proofs.YtigmcdpjlkgocaaGreatDoor.Num Go.Proofs.YtigmcdpjlkgocaaGreatDoor.Le Go.Proofs.YtigmcdpjlkgocaaGreatDoor.Lst Go.Proofs.YtigmcdpjlkgocaaGreatDoor.Aid Go.RowKit Go.Proofs.YtigmcdpjlkgocaaGreatDoorW.PrintWords Go.Proofs.YtigmcdpjlkgocaaGreatDoorW.PrintLast Go.Proofs.YtigmcdpjlkgocaaGreatDoorW.PrintMore
set_option linter.unusedVariables false
set_option linter.unusedSimpArgs false
theorem isStr64 {l : List Int} {bs : List DBlk} {N : Nat} (hl : l.length = N) (hN : N ≤ 100000) (hwf : ∀ x ∈ l, (Lit.int .i64 x).wf = true) (h : EncOf .i64 64 l bs) : IsStr .i64 64 (hdL N (fstI l) ++ blksB bs) 128 4 32 N (fstI l) bs := by
  have hw := wf64 hwf
  exact ⟨by rw [List.append_nil, hdL_eq], by omega, by omega, by omega, by omega, by omega, by omega, by omega, by rw [min64]; exact hw.1, by rw [max64]; exact hw.2, by rw [← hl]; exact h.ok⟩
theorem isStr32 {l : List Int} {bs : List DBlk} {N : Nat} (hl : l.length = N) (hN : N ≤ 100000) (hwf : ∀ x ∈ l, (Lit.int .i32 x).wf = true) (h : EncOf .i32 32 l bs) : IsStr .i32 32 (hdL N (fstI l) ++ blksB bs) 128 4 32 N (fstI l) bs := by
  have hw := wf32 hwf
  exact ⟨by rw [List.append_nil, hdL_eq], by omega, by omega, by omega, by omega, by omega, by omega, by omega, by rw [min32]; exact hw.1, by rw [max32]; exact hw.2, by rw [← hl]; exact h.ok⟩
theorem str_len64 {l : List Int} {bs : List DBlk} {N : Nat} (hN : N ≤ 100000) (hwf : ∀ x ∈ l, (Lit.int .i64 x).wf = true) (h : EncOf .i64 64 l bs) : (hdL N (fstI l) ++ blksB bs).length ≤ 2000040 := by
  have hw := wf64 hwf
  have := hdL_le N (fstI l) (by omega) hw.1 hw.2
  have := h.len
  rw [List.length_append]; omega
theorem str_len32 {l : List Int} {bs : List DBlk} {N : Nat} (hN : N ≤ 100000) (hwf : ∀ x ∈ l, (Lit.int .i32 x).wf = true) (h : EncOf .i32 32 l bs) : (hdL N (fstI l) ++ blksB bs).length ≤ 2000040 := by
  have hw := wf32 hwf
  have := hdL_le N (fstI l) (by omega) (by omega) (by omega)
  have := h.len
  rw [List.length_append]; omega
set_option maxHeartbeats 16000000 in
set_option maxRecDepth 100000 in
theorem deltaBothLaw (a1 : Option Addr) (len1 cap1 : Nat) (z1 : List Int) (a2 : Option Addr) (len2 cap2 : Nat) (z2 : List Int) (W : World) (w1 : IsRow .i32 W a1 len1 cap1 z1) (y1 : len1 * 4 ≤ 140737488351232) (w2 : IsRow .i64 W a2 len2 cap2 z2) (y2 : len2 * 8 ≤ 140737488351232) :
    Calls Tryz.prog 3 #[.slice a1 len1 cap1, .slice a2 len2 cap2] W fun e w' => e = .returned (.bool true) ∧ Below W.heap.size W w' := by
  obtain ⟨l, hlen, hc, hC, hwf⟩ := isRow_open w1
  obtain ⟨l2, hlen2, hc2, hC2, hwf2⟩ := isRow_open w2
  have HLN := Aside0.mk hlen
  have HC := Aside0.mk hC
  have HWF := Aside0.mk hwf
  have HLN2 := Aside0.mk hlen2
  have HC2 := Aside0.mk hC2
  have HWF2 := Aside0.mk hwf2
  clear w1 hC hwf hlen w2 hC2 hwf2 hlen2
  by_cases h1 : 2147483647 < len1
  · have q1 : decide (2147483647 < (len1 : Int)) = true := decide_eq_true (by omega)
    go_enter Tryz.func3, Tryz.ntmps3
    go_wp2
    go_ret
    exact ⟨rfl, Below.refl _ _⟩
  have q1 : decide (2147483647 < (len1 : Int)) = false := decide_eq_false (by omega)
  by_cases h2 : 2147483647 < len2
  · have q2 : decide (2147483647 < (len2 : Int)) = true := decide_eq_true (by omega)
    go_enter Tryz.func3, Tryz.ntmps3
    go_wp2
    go_ret
    exact ⟨rfl, Below.refl _ _⟩
  have q2 : decide (2147483647 < (len2 : Int)) = false := decide_eq_false (by omega)
  by_cases h3 : 100000 < len1
  · have q3 : decide (100000 < (len1 : Int)) = true := decide_eq_true (by omega)
    go_enter Tryz.func3, Tryz.ntmps3
    go_wp2
    go_ret
    exact ⟨rfl, Below.refl _ _⟩
  have q3 : decide (100000 < (len1 : Int)) = false := decide_eq_false (by omega)
  by_cases h4 : 100000 < len2
  · have q4 : decide (100000 < (len2 : Int)) = true := decide_eq_true (by omega)
    go_enter Tryz.func3, Tryz.ntmps3
    go_wp2
    go_ret
    exact ⟨rfl, Below.refl _ _⟩
  have q4 : decide (100000 < (len2 : Int)) = false := decide_eq_false (by omega)
  have hn9 : len1 ≤ 100000 := by omega
  have hn92 : len2 ≤ 100000 := by omega
  have HENC := Aside0.mk fun W1 h => encodeInt32sDelta_calls a1 len1 cap1 l W1 h hc hn9 HWF.out
  have HENC2 := Aside0.mk fun W1 h => encodeInt64sDelta_calls a2 len2 cap2 l2 W1 h hc2 hn92 HWF2.out
  go_enter Tryz.func3, Tryz.ntmps3
  go_wp2_with (first
    | (go_at_call 4; go_loud (with_reducible refine (HENC.out W HC.out).mono ?_); rintro e w3 ⟨v3, bs, rfl, ho, hk, hb⟩; have HK3 := Aside0.mk hk; have HIS3 := Aside0.mk (isStr32 HLN.out hn9 HWF.out hk); have hN9 := str_len32 (N := len1) hn9 HWF.out hk; obtain ⟨X, hX⟩ : ∃ X, hdL len1 (fstI l) ++ blksB bs = X := ⟨_, rfl⟩; rw [hX] at ho HIS3 hN9; obtain ⟨A3, c3, rfl, hc3, hr3⟩ := ho.read; obtain ⟨N, hN⟩ : ∃ N, X.length = N := ⟨_, rfl⟩; rw [hN] at hc3 hr3 hN9; rw [hN]; have HR3 := Aside0.mk hr3; have HB3 := Aside0.mk hb; clear ho hb hr3 hk hX hN)
    | (go_at_call 5; go_loud (with_reducible refine (HENC2.out w3 (Kd.C_below HC2.out HB3.out)).mono ?_); rintro e w4 ⟨v4, bs2, rfl, ho, hk, hb⟩; have HK4 := Aside0.mk hk; have HIS4 := Aside0.mk (isStr64 HLN2.out hn92 HWF2.out hk); have hN92 := str_len64 (N := len2) hn92 HWF2.out hk; obtain ⟨X2, hX2⟩ : ∃ X, hdL len2 (fstI l2) ++ blksB bs2 = X := ⟨_, rfl⟩; rw [hX2] at ho HIS4 hN92; obtain ⟨A4, c4, rfl, hc4, hr4⟩ := ho.read; obtain ⟨N2, hN2⟩ : ∃ N, X2.length = N := ⟨_, rfl⟩; rw [hN2] at hc4 hr4 hN92; rw [hN2]; have HR4 := Aside0.mk hr4; have HR34 := Aside0.mk (Kd.C_below HR3.out hb); have HB4 := Aside0.mk (HB3.out.trans (hb.mono HB3.out.size)); clear ho hb hr4 hk hX2 hN2)
    | (go_at_call 6; go_loud (with_reducible refine (decodeInt32sDelta_calls A3 N c3 X 128 4 32 len1 (fstI l) bs w4 HR34.out HIS3.out hc3 (by omega)).mono ?_); rintro e w5 ⟨v5, rfl, ho, hb⟩; rw [show (fstI l :: blksV .i32 (fstI l) bs).take len1 = l by have := HK3.out.vals; rw [HLN.out] at this; exact this] at ho; obtain ⟨A5, c5, rfl, hc5, hr5⟩ := ho.read; rw [HLN.out] at hc5 hr5; rw [HLN.out]; have HR5 := Aside0.mk hr5; have HR45 := Aside0.mk (Kd.C_below HR4.out hb); have HB5 := Aside0.mk (HB4.out.trans (hb.mono HB4.out.size)); clear ho hb hr5)
    | (go_at_call 7; go_loud (with_reducible refine (decodeInt64sDelta_calls A4 N2 c4 X2 128 4 32 len2 (fstI l2) bs2 w5 HR45.out HIS4.out hc4 (by omega)).mono ?_); rintro e w6 ⟨v6, rfl, ho, hb⟩; rw [show (fstI l2 :: blksV .i64 (fstI l2) bs2).take len2 = l2 by have := HK4.out.vals; rw [HLN2.out] at this; exact this] at ho; obtain ⟨A6, c6, rfl, hc6, hr6⟩ := ho.read; rw [HLN2.out] at hc6 hr6; rw [HLN2.out]; have HR6 := Aside0.mk hr6; have HR56 := Aside0.mk (Kd.C_below HR5.out hb); have HB6 := Aside0.mk (HB5.out.trans (hb.mono HB5.out.size)); clear ho hb hr6)
    | (go_at_call 8; go_loud (with_reducible refine (sameNumbers_int32_calls A5 a1 len1 c5 cap1 l w6 HR56.out (Kd.C_below HC.out HB6.out) (by omega)).mono ?_); rintro e w7 ⟨rfl, ⟨nd, rfl⟩⟩; have HR67 := Aside0.mk (Kd.C_drewN HR6.out nd); have HB7 := Aside0.mk (HB6.out.trans ((drewN_below w6 nd).mono HB6.out.size)))
    | (go_at_call 9; go_loud (with_reducible refine (sameNumbers_int64_calls A6 a2 len2 c6 cap2 l2 _ HR67.out (Kd.C_below HC2.out HB7.out) (by omega)).mono ?_); rintro e w8 ⟨rfl, ⟨nd2, rfl⟩⟩; have HB8 := Aside0.mk (HB7.out.trans ((drewN_below _ nd2).mono HB7.out.size))))
  go_ret
  exact ⟨rfl, HB6.out.trans ((drewN_below w6 _).mono HB6.out.size)⟩
end Go.Proofs.YtigmcdpjlkgocaaGreatDoor.Dlb
