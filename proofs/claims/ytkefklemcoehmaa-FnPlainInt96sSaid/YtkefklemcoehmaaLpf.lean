import Derived.Test.YtkefklemcoehmaaLsf
import Derived.Test.YtkefklemcoehmaaImf
/-! The laws of streams of numbers of 64 bits, and of plain numbers with points. -/
namespace Go.Proofs.Ytkefklemcoehmaa.Lpf
open Go.Proofs.Ytkefklemcoehmaa.Lsf Go.Proofs.Ytkefklemcoehmaa.Imf Go.Proofs.Ytkefklemcoehmaa.Wrd Go.Proofs.Ytkefklemcoehmaa.Pln Go.Proofs.Ytkefklemcoehmaa.Spq Go.Proofs.Ytkefklemcoehmaa.Sim Go.Proofs.Ytkefklemcoehmaa.Spe Go.Proofs.Ytkefklemcoehmaa.Spd Go.Proofs.Ytkefklemcoehmaa.Spl Go.Proofs.Ytkefklemcoehmaa.Str Go.Proofs.Ytkefklemcoehmaa.Flt Go.Proofs.Ytkefklemcoehmaa.Owe Go.Proofs.Ytkefklemcoehmaa.Num Go.Proofs.Ytkefklemcoehmaa.Le Go.Proofs.Ytkefklemcoehmaa.Lst Go.Proofs.Ytkefklemcoehmaa.Aid Go.RowKit Go.Proofs.YtkefklemcoehmaaW.PrintWords Go.Proofs.YtkefklemcoehmaaW.PrintLast Go.Proofs.YtkefklemcoehmaaW.PrintMore
set_option linter.unusedVariables false
set_option linter.unusedSimpArgs false
theorem enLow_any (kx : Int) (k : Nat) (hkx : kx = k) (A : Option Addr) (n c : Nat) (l : List Int) (hk : k ≤ 8) (w : World) (hC : (Kd.int .u64).C w A n l) (hc : n ≤ c) (hn : n ≤ 2147483647) (hh : u64L l) :
    Calls Try.prog 7 #[.int .i64 kx, .slice A n c] w fun e w' => ∃ v, e = .returned v ∧ Own w' w.heap.size 5 .u8 v (enLowL k l) ∧ Below w.heap.size w w' := by
  subst hkx; exact enLow_calls k A n c l hk w hC hc hn hh
theorem u64_u32 {l : List Int} (h : u32L l) : u64L l := fun x hx => by have := h x hx; unfold u32B at this; unfold u64B; omega
theorem sw8_streams (l : List Int) (n : Nat) (hn : l.length = n) (hu : u64L l) : sw8 (streamsL 8 (enLowL 8 l)) n = l := by
  apply List.ext_getElem
  · rw [sw8_length, hn]
  · intro j h1 h2
    have hj : j < n := by rw [sw8_length] at h1; exact h1
    rw [← rd_nat _ _ h1, rd_sw8 _ _ _ hj, ← rd_nat _ _ h2]
    have r0 := rd_streams 8 (by omega) l (j) (by omega)
    obtain ⟨a0, b0⟩ := quot_eq (S := 0) hj
    have r1 := rd_streams 8 (by omega) l (n + j) (by omega)
    obtain ⟨a1, b1⟩ := quot_eq (S := 1) hj
    have r2 := rd_streams 8 (by omega) l (2 * n + j) (by omega)
    obtain ⟨a2, b2⟩ := quot_eq (S := 2) hj
    have r3 := rd_streams 8 (by omega) l (3 * n + j) (by omega)
    obtain ⟨a3, b3⟩ := quot_eq (S := 3) hj
    have r4 := rd_streams 8 (by omega) l (4 * n + j) (by omega)
    obtain ⟨a4, b4⟩ := quot_eq (S := 4) hj
    have r5 := rd_streams 8 (by omega) l (5 * n + j) (by omega)
    obtain ⟨a5, b5⟩ := quot_eq (S := 5) hj
    have r6 := rd_streams 8 (by omega) l (6 * n + j) (by omega)
    obtain ⟨a6, b6⟩ := quot_eq (S := 6) hj
    have r7 := rd_streams 8 (by omega) l (7 * n + j) (by omega)
    obtain ⟨a7, b7⟩ := quot_eq (S := 7) hj
    rw [Nat.zero_mul, Nat.zero_add] at a0 b0
    rw [Nat.one_mul] at a1 b1
    rw [hn] at r0 r1 r2 r3 r4 r5 r6 r7
    rw [a0, b0] at r0
    rw [a1, b1] at r1
    rw [a2, b2] at r2
    rw [a3, b3] at r3
    rw [a4, b4] at r4
    rw [a5, b5] at r5
    rw [a6, b6] at r6
    rw [a7, b7] at r7
    rw [r0, r1, r2, r3, r4, r5, r6, r7]
    have hb : u64B (rd l (j : Nat)) := hu _ (rd_mem h2)
    have := le8_bytes _ hb.1 hb.2
    obtain ⟨e0, e1, e2, e3, e4, e5, e6, e7⟩ := p256
    rw [e0, e1, e2, e3, e4, e5, e6, e7, Int.ediv_one]
    exact this
set_option maxHeartbeats 8000000 in
theorem splitDoublesLaw (a0 : Option Addr) (len0 cap0 : Nat) (z0 : List Int) (W : World) (w0 : IsRow .u64 W a0 len0 cap0 z0) (y0 : len0 * 8 ≤ 140737488351232) :
    Calls Try.prog 5 #[.slice a0 len0 cap0] W fun e w' => e = .returned (.bool true) ∧ Below W.heap.size W w' := by
  obtain ⟨l, hlen, hc, hC, hwf⟩ := isRow_open w0
  have HLN := Aside0.mk hlen
  have HC := Aside0.mk hC
  have hu : u64L l := fun x hx => u64_of_wf (hwf x hx)
  have HU := Aside0.mk hu
  have HWF := Aside0.mk hwf
  clear w0 hC hwf hu hlen
  by_cases h1 : 2147483647 < len0
  · have q1 : decide (2147483647 < (len0 : Int)) = true := decide_eq_true (by omega)
    go_enter Try.func5, Try.ntmps5
    go_wp2
    go_ret
    exact ⟨rfl, Below.refl _ _⟩
  have q1 : decide (2147483647 < (len0 : Int)) = false := decide_eq_false (by omega)
  by_cases h2 : 100000 < len0
  · have q2 : decide (100000 < (len0 : Int)) = true := decide_eq_true (by omega)
    go_enter Try.func5, Try.ntmps5
    go_wp2
    go_ret
    exact ⟨rfl, Below.refl _ _⟩
  have q2 : decide (100000 < (len0 : Int)) = false := decide_eq_false (by omega)
  obtain ⟨X, hX⟩ : ∃ X, streamsL 8 (enLowL 8 l) = X := ⟨_, rfl⟩
  have HX := Aside0.mk hX
  have HXL : Aside0 (X.length = 8 * len0) := ⟨by rw [← hX, streamsL_length, enLowL_length, HLN.out, Nat.mul_comm]⟩
  have HXB : Aside0 (bytesB X = true) := ⟨by rw [← hX]; exact streams_bytes 8 (by omega) l⟩
  have HXS : Aside0 (sw8 X len0 = l) := ⟨by rw [← hX]; exact sw8_streams l len0 HLN.out HU.out⟩
  have HEL : Aside0 ((enLowL 8 l).length = 8 * len0) := ⟨by rw [enLowL_length, HLN.out, Nat.mul_comm]⟩
  obtain ⟨N, hN⟩ : ∃ N, 8 * len0 = N := ⟨_, rfl⟩
  have hN1 : N ≤ 800000 := by omega
  have HN : Aside0 (N = 8 * len0) := ⟨hN.symm⟩
  rw [hN] at HXL HEL
  have HEN : Aside0 (∀ (A1 : Option Addr) (c1 : Nat) (w1 : World), (Kd.int .u64).C w1 A1 len0 l → len0 ≤ c1 → Calls Try.prog 7 #[.int .i64 8, .slice A1 len0 c1] w1 fun e w' => ∃ v, e = .returned v ∧ Own w' w1.heap.size 5 .u8 v (enLowL 8 l) ∧ Below w1.heap.size w1 w') :=
    ⟨fun A1 c1 w1 h h' => enLow_calls 8 A1 len0 c1 l (by omega) w1 h h' (by omega) HU.out⟩
  have HST : Aside0 (∀ (A2 : Option Addr) (c2 : Nat) (w2 : World), (Kd.int .u8).C w2 A2 N (enLowL 8 l) → N ≤ c2 → Calls Try.prog 13 #[.int .i64 8, .slice A2 N c2] w2 fun e w' => ∃ v, e = .returned v ∧ Own w' w2.heap.size 5 .u8 v (streamsL 8 (enLowL 8 l)) ∧ Below w2.heap.size w2 w') :=
    ⟨fun A2 c2 w2 h h' => streams_calls 8 len0 A2 N c2 (enLowL 8 l) w2 (by omega) (by omega) h h' HN.out (by omega)⟩
  clear hX hN
  go_enter Try.func5, Try.ntmps5
  go_wp2_with (first
    | (go_at_call 7; (with_reducible refine (HEN.out a0 cap0 W HC.out hc).mono ?_); rintro e w2 ⟨v2, rfl, ho, hb⟩; obtain ⟨A2, c2, rfl, hc2, hr2⟩ := ho.read; rw [HEL.out] at hc2 hr2; rw [HEL.out]; have HR2 := Aside0.mk hr2; have HB2 := Aside0.mk hb; clear ho hb hr2)
    | (go_at_call 13; (with_reducible refine (HST.out A2 c2 w2 HR2.out hc2).mono ?_); rintro e w3 ⟨v3, rfl, ho, hb⟩; rw [HX.out] at ho; obtain ⟨A3, c3, rfl, hc3, hr3⟩ := ho.read; rw [HXL.out] at hc3 hr3; rw [HXL.out]; have HR3 := Aside0.mk hr3; have HB3 := Aside0.mk (HB2.out.trans (hb.mono HB2.out.size)); clear ho hb hr3)
    | (go_at_call 17; (with_reducible refine (encodeDoublesSplit_calls a0 len0 cap0 l w3 (Kd.C_below HC.out HB3.out) hc (by omega) HU.out).mono ?_); rintro e w4 ⟨v4, rfl, ho, hb⟩; rw [HX.out] at ho; obtain ⟨A4, c4, rfl, hc4, hr4⟩ := ho.read; rw [HXL.out] at hc4 hr4; rw [HXL.out]; have HR4 := Aside0.mk hr4; have HR34 := Aside0.mk (Kd.C_below HR3.out hb); have HB4 := Aside0.mk (HB3.out.trans (hb.mono HB3.out.size)); clear ho hb hr4)
    | (go_at_call 18; (with_reducible refine (decodeDoublesSplit_calls A3 N c3 len0 X w4 HR34.out hc3 HN.out (by omega) HXB.out).mono ?_); rintro e w5 ⟨v5, rfl, ho, hb⟩; rw [HXS.out] at ho; obtain ⟨A5, c5, rfl, hc5, hr5⟩ := ho.read; rw [HLN.out] at hc5 hr5; rw [HLN.out]; have HR5 := Aside0.mk hr5; have HR35 := Aside0.mk (Kd.C_below HR34.out hb); have HR45 := Aside0.mk (Kd.C_below HR4.out hb); have HB5 := Aside0.mk (HB4.out.trans (hb.mono HB4.out.size)); clear ho hb hr5)
    | (go_at_call 11; (with_reducible refine (enBytes_calls A4 A3 N c4 c3 X w5 HR45.out HR35.out).mono ?_); rintro e w6 ⟨rfl, ⟨nd, rfl⟩⟩; have HB6 := Aside0.mk (HB5.out.trans ((drewN_below w5 nd).mono HB5.out.size)))
    | (go_at_call 19; (with_reducible refine (sameNumbers_uint64_calls A5 a0 len0 c5 cap0 l _ (Kd.C_drewN HR5.out _) (Kd.C_below HC.out HB6.out) (by omega)).mono ?_); rintro e w7 ⟨rfl, ⟨nd2, rfl⟩⟩; have HB7 := Aside0.mk (HB6.out.trans ((drewN_below _ nd2).mono HB6.out.size))))
  go_ret
  exact ⟨rfl, by have := HB7.out; rw [World.drewN_drewN] at this; exact this⟩
set_option maxRecDepth 100000 in
set_option maxHeartbeats 4000000 in
theorem plainFloatsLaw (a0 : Option Addr) (len0 cap0 : Nat) (z0 : List Int) (a1 : Option Addr) (len1 cap1 : Nat) (z1 : List Int) (W : World) (w0 : IsRow .u32 W a0 len0 cap0 z0) (y0 : len0 * 4 ≤ 140737488351232) (w1 : IsRow .u64 W a1 len1 cap1 z1) (y1 : len1 * 8 ≤ 140737488351232) :
    Calls Try.prog 6 #[.slice a0 len0 cap0, .slice a1 len1 cap1] W fun e w' => e = .returned (.bool true) ∧ Below W.heap.size W w' := by
  obtain ⟨l, hlen, hc, hC, hwf⟩ := isRow_open w0
  obtain ⟨d, hlend, hcd, hCd, hwfd⟩ := isRow_open w1
  have HLN := Aside0.mk hlen
  have HC := Aside0.mk hC
  have HU : Aside0 (u32L l) := ⟨fun x hx => u32_of_wf (hwf x hx)⟩
  have HWF := Aside0.mk hwf
  have HDN := Aside0.mk hlend
  have HCD := Aside0.mk hCd
  have HUD : Aside0 (u64L d) := ⟨fun x hx => u64_of_wf (hwfd x hx)⟩
  clear w0 w1 hC hwf hlen hlend hCd hwfd
  by_cases h1 : 2147483647 < len0
  · have q1 : decide (2147483647 < (len0 : Int)) = true := decide_eq_true (by omega)
    go_enter Try.func6, Try.ntmps6
    go_wp2
    go_ret
    exact ⟨rfl, Below.refl _ _⟩
  have q1 : decide (2147483647 < (len0 : Int)) = false := decide_eq_false (by omega)
  by_cases h1d : 2147483647 < len1
  · have q1d : decide (2147483647 < (len1 : Int)) = true := decide_eq_true (by omega)
    go_enter Try.func6, Try.ntmps6
    go_wp2
    go_ret
    exact ⟨rfl, Below.refl _ _⟩
  have q1d : decide (2147483647 < (len1 : Int)) = false := decide_eq_false (by omega)
  by_cases h2 : 100000 < len0
  · have q2 : decide (100000 < (len0 : Int)) = true := decide_eq_true (by omega)
    go_enter Try.func6, Try.ntmps6
    go_wp2
    go_ret
    exact ⟨rfl, Below.refl _ _⟩
  have q2 : decide (100000 < (len0 : Int)) = false := decide_eq_false (by omega)
  by_cases h2d : 100000 < len1
  · have q2d : decide (100000 < (len1 : Int)) = true := decide_eq_true (by omega)
    go_enter Try.func6, Try.ntmps6
    go_wp2
    go_ret
    exact ⟨rfl, Below.refl _ _⟩
  have q2d : decide (100000 < (len1 : Int)) = false := decide_eq_false (by omega)
  obtain ⟨X, hX⟩ : ∃ X, enLowL 4 l = X := ⟨_, rfl⟩
  obtain ⟨Y, hY⟩ : ∃ Y, enLowL 8 d = Y := ⟨_, rfl⟩
  obtain ⟨N, hN⟩ : ∃ N, 4 * len0 = N := ⟨_, rfl⟩
  obtain ⟨M, hM⟩ : ∃ M, 8 * len1 = M := ⟨_, rfl⟩
  have HX := Aside0.mk hX
  have HY := Aside0.mk hY
  have HXL : Aside0 (X.length = N) := ⟨by rw [← hX, enLowL_length, HLN.out, ← hN, Nat.mul_comm]⟩
  have HYL : Aside0 (Y.length = M) := ⟨by rw [← hY, enLowL_length, HDN.out, ← hM, Nat.mul_comm]⟩
  have HXB : Aside0 (bytesB X = true) := ⟨by rw [← hX]; exact enLow_bytes 4 l⟩
  have HYB : Aside0 (bytesB Y = true) := ⟨by rw [← hY]; exact enLow_bytes 8 d⟩
  have HXS : Aside0 (pw4 X len0 = l) := ⟨by rw [← hX]; exact pw4_enLow l len0 HLN.out HU.out⟩
  have HYS : Aside0 (pw8 Y len1 = d) := ⟨by rw [← hY]; exact pw8_enLow d len1 HDN.out HUD.out⟩
  have hN1 : N ≤ 400000 := by omega
  have hM1 : M ≤ 800000 := by omega
  have HN : Aside0 (N = 4 * len0) := ⟨hN.symm⟩
  have HM : Aside0 (M = 8 * len1) := ⟨hM.symm⟩
  clear hX hY hN hM
  go_enter Try.func6, Try.ntmps6
  go_wp2_with (first
    | (go_at_call 8; (with_reducible refine (wide_uint32_calls a0 len0 cap0 l W HC.out hc (by omega) HWF.out).mono ?_); rintro e w1 ⟨v1, rfl, ho, hb⟩; rw [wide32_u32 HU.out] at ho; obtain ⟨A1, c1, rfl, hc1, hr1⟩ := ho.read; rw [HLN.out] at hc1 hr1; rw [HLN.out]; have HR1 := Aside0.mk hr1; have HB1 := Aside0.mk hb; clear ho hb hr1)
    | (go_at_call 7; (first
      | ((with_reducible refine (enLow_any 4 4 rfl A1 len0 c1 l (by omega) w1 HR1.out hc1 (by omega) (u64_u32 HU.out)).mono ?_); rintro e w2 ⟨v2, rfl, ho, hb⟩; rw [HX.out] at ho; obtain ⟨A2, c2, rfl, hc2, hr2⟩ := ho.read; rw [HXL.out] at hc2 hr2; rw [HXL.out]; have HS2 := Aside0.mk hr2; have HB2 := Aside0.mk (HB1.out.trans (hb.mono HB1.out.size)); clear ho hb hr2)
      | ((with_reducible refine (enLow_any 8 8 rfl a1 len1 cap1 d (by omega) w2 (Kd.C_below HCD.out HB2.out) hcd (by omega) HUD.out).mono ?_); rintro e w3 ⟨v3, rfl, ho, hb⟩; rw [HY.out] at ho; obtain ⟨A3, c3, rfl, hc3, hr3⟩ := ho.read; rw [HYL.out] at hc3 hr3; rw [HYL.out]; have HL3 := Aside0.mk hr3; have HS3 := Aside0.mk (Kd.C_below HS2.out hb); have HB3 := Aside0.mk (HB2.out.trans (hb.mono HB2.out.size)); clear ho hb hr3)))
    | (go_at_call 14; (with_reducible refine (encodeFloatsPlain_calls a0 len0 cap0 l w3 (Kd.C_below HC.out HB3.out) hc (by omega) HU.out).mono ?_); rintro e w4 ⟨v4, rfl, ho, hb⟩; rw [HX.out] at ho; obtain ⟨A4, c4, rfl, hc4, hr4⟩ := ho.read; rw [HXL.out] at hc4 hr4; rw [HXL.out]; have HA4 := Aside0.mk hr4; have HS4 := Aside0.mk (Kd.C_below HS3.out hb); have HL4 := Aside0.mk (Kd.C_below HL3.out hb); have HB4 := Aside0.mk (HB3.out.trans (hb.mono HB3.out.size)); clear ho hb hr4)
    | (go_at_call 17; (with_reducible refine (encodeDoublesPlain_calls a1 len1 cap1 d w4 (Kd.C_below HCD.out HB4.out) hcd (by omega) HUD.out).mono ?_); rintro e w5 ⟨v5, rfl, ho, hb⟩; rw [HY.out] at ho; obtain ⟨A5, c5, rfl, hc5, hr5⟩ := ho.read; rw [HYL.out] at hc5 hr5; rw [HYL.out]; have HD5 := Aside0.mk hr5; have HS5 := Aside0.mk (Kd.C_below HS4.out hb); have HL5 := Aside0.mk (Kd.C_below HL4.out hb); have HA5 := Aside0.mk (Kd.C_below HA4.out hb); have HB5 := Aside0.mk (HB4.out.trans (hb.mono HB4.out.size)); clear ho hb hr5)
    | (go_at_call 15; (with_reducible refine (decodeFloatsPlain_calls A2 N c2 len0 X w5 HS5.out hc2 HN.out (by omega) HXB.out).mono ?_); rintro e w6 ⟨v6, rfl, ho, hb⟩; rw [HXS.out] at ho; obtain ⟨A6, c6, rfl, hc6, hr6⟩ := ho.read; rw [HLN.out] at hc6 hr6; rw [HLN.out]; have HE6 := Aside0.mk hr6; have HS6 := Aside0.mk (Kd.C_below HS5.out hb); have HL6 := Aside0.mk (Kd.C_below HL5.out hb); have HA6 := Aside0.mk (Kd.C_below HA5.out hb); have HD6 := Aside0.mk (Kd.C_below HD5.out hb); have HB6 := Aside0.mk (HB5.out.trans (hb.mono HB5.out.size)); clear ho hb hr6)
    | (go_at_call 18; (with_reducible refine (decodeDoublesPlain_calls A3 M c3 len1 Y w6 HL6.out hc3 HM.out (by omega) HYB.out).mono ?_); rintro e w7 ⟨v7, rfl, ho, hb⟩; rw [HYS.out] at ho; obtain ⟨A7, c7, rfl, hc7, hr7⟩ := ho.read; rw [HDN.out] at hc7 hr7; rw [HDN.out]; have HF7 := Aside0.mk hr7; have HS7 := Aside0.mk (Kd.C_below HS6.out hb); have HL7 := Aside0.mk (Kd.C_below HL6.out hb); have HA7 := Aside0.mk (Kd.C_below HA6.out hb); have HD7 := Aside0.mk (Kd.C_below HD6.out hb); have HE7 := Aside0.mk (Kd.C_below HE6.out hb); have HB7 := Aside0.mk (HB6.out.trans (hb.mono HB6.out.size)); clear ho hb hr7)
    | (go_at_call 11; (first
      | ((with_reducible refine (enBytes_calls A4 A2 N c4 c2 X w7 HA7.out HS7.out).mono ?_); rintro e w8 ⟨rfl, ⟨nd, rfl⟩⟩; have HB8 := Aside0.mk (HB7.out.trans ((drewN_below w7 nd).mono HB7.out.size)))
      | ((with_reducible refine (enBytes_calls A5 A3 M c5 c3 Y _ (Kd.C_drewN HD7.out _) (Kd.C_drewN HL7.out _)).mono ?_); rintro e w9 ⟨rfl, ⟨nd2, rfl⟩⟩; have HB9 := Aside0.mk (HB8.out.trans ((drewN_below _ nd2).mono HB8.out.size)); rw [World.drewN_drewN] at HB9)))
    | (go_at_call 16; (with_reducible refine (sameNumbers_uint32_calls A6 a0 len0 c6 cap0 l _ (Kd.C_drewN HE7.out _) (Kd.C_below HC.out HB9.out) (by omega)).mono ?_); rintro e w10 ⟨rfl, ⟨nd3, rfl⟩⟩; have HB10 := Aside0.mk (HB9.out.trans ((drewN_below _ nd3).mono HB9.out.size)); rw [World.drewN_drewN] at HB10)
    | (go_at_call 19; (with_reducible refine (sameNumbers_uint64_calls A7 a1 len1 c7 cap1 d _ (Kd.C_drewN HF7.out _) (Kd.C_below HCD.out HB10.out) (by omega)).mono ?_); rintro e w11 ⟨rfl, ⟨nd4, rfl⟩⟩; have HB11 := Aside0.mk (HB10.out.trans ((drewN_below _ nd4).mono HB10.out.size)); rw [World.drewN_drewN] at HB11))
  go_ret
  exact ⟨rfl, HB11.out⟩
end Go.Proofs.Ytkefklemcoehmaa.Lpf

