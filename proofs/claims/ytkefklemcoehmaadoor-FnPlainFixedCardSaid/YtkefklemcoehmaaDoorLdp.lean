import Derived.Test.YtkefklemcoehmaaDoorImd
/-! The laws of plain whole numbers, bits, texts of one length. -/
namespace Go.Proofs.YtkefklemcoehmaaDoor.Ldp
open Go.Proofs.YtkefklemcoehmaaDoor.Imd Go.Proofs.YtkefklemcoehmaaDoor.Pln Go.Proofs.YtkefklemcoehmaaDoor.Wrd Go.Proofs.YtkefklemcoehmaaDoor.Spl Go.Proofs.YtkefklemcoehmaaDoor.Str Go.Proofs.YtkefklemcoehmaaDoor.Flt Go.Proofs.YtkefklemcoehmaaDoor.Owe Go.Proofs.YtkefklemcoehmaaDoor.Num Go.Proofs.YtkefklemcoehmaaDoor.Le Go.Proofs.YtkefklemcoehmaaDoor.Lst Go.Proofs.YtkefklemcoehmaaDoor.Aid Go.RowKit Go.Proofs.YtkefklemcoehmaaDoorW.PrintWords Go.Proofs.YtkefklemcoehmaaDoorW.PrintLast Go.Proofs.YtkefklemcoehmaaDoorW.PrintMore
set_option linter.unusedVariables false
set_option linter.unusedSimpArgs false
theorem enLow_any (kx : Int) (k : Nat) (hkx : kx = k) (A : Option Addr) (n c : Nat) (l : List Int) (hk : k ≤ 8) (w : World) (hC : (Kd.int .u64).C w A n l) (hc : n ≤ c) (hn : n ≤ 2147483647) (hh : u64L l) :
    Calls Tryd.prog 12 #[.int .i64 kx, .slice A n c] w fun e w' => ∃ v, e = .returned v ∧ Own w' w.heap.size 5 .u8 v (enLowL k l) ∧ Below w.heap.size w w' := by
  subst hkx; exact enLow_calls k A n c l hk w hC hc hn hh
set_option maxHeartbeats 4000000 in
theorem plainInt32sLaw (a0 : Option Addr) (len0 cap0 : Nat) (z0 : List Int) (W : World) (w0 : IsRow .i32 W a0 len0 cap0 z0) (y0 : len0 * 4 ≤ 140737488351232) :
    Calls Tryd.prog 7 #[.slice a0 len0 cap0] W fun e w' => e = .returned (.bool true) ∧ Below W.heap.size W w' := by
  obtain ⟨l, hlen, hc, hC, hwf⟩ := isRow_open w0
  have HLN := Aside0.mk hlen
  have HC := Aside0.mk hC
  have HWF := Aside0.mk hwf
  clear w0 hC hwf hlen
  by_cases h1 : 2147483647 < len0
  · have q1 : decide (2147483647 < (len0 : Int)) = true := decide_eq_true (by omega)
    go_enter Tryd.func7, Tryd.ntmps7
    go_wp2
    go_ret
    exact ⟨rfl, Below.refl _ _⟩
  have q1 : decide (2147483647 < (len0 : Int)) = false := decide_eq_false (by omega)
  by_cases h2 : 100000 < len0
  · have q2 : decide (100000 < (len0 : Int)) = true := decide_eq_true (by omega)
    go_enter Tryd.func7, Tryd.ntmps7
    go_wp2
    go_ret
    exact ⟨rfl, Below.refl _ _⟩
  have q2 : decide (100000 < (len0 : Int)) = false := decide_eq_false (by omega)
  have hWL : (wideL 32 l).length = len0 := by rw [← HLN.out]; exact List.length_map _
  have HWL := Aside0.mk hWL
  have HU : Aside0 (u64L (wideL 32 l)) := ⟨by intro x hx; simp only [wideL, List.mem_map] at hx; obtain ⟨y, _, rfl⟩ := hx; simp only [wideI]; unfold u64B; omega⟩
  obtain ⟨X, hX⟩ : ∃ X, enLowL 4 (wideL 32 l) = X := ⟨_, rfl⟩
  obtain ⟨N, hN⟩ : ∃ N, 4 * len0 = N := ⟨_, rfl⟩
  have HX := Aside0.mk hX
  have HXL : Aside0 (X.length = N) := ⟨by rw [← hX, enLowL_length, hWL, ← hN, Nat.mul_comm]⟩
  have HXB : Aside0 (bytesB X = true) := ⟨by rw [← hX]; exact enLow_bytes 4 _⟩
  have HXS : Aside0 (dw32 X len0 = l) := ⟨by rw [← hX]; exact dw32_enLow l len0 HLN.out HWF.out⟩
  have hN1 : N ≤ 800000 := by omega
  have HN : Aside0 (N = 4 * len0) := ⟨hN.symm⟩
  clear hX hN hWL
  go_enter Tryd.func7, Tryd.ntmps7
  go_wp2_with (first
    | (go_at_call 25; (with_reducible refine (wide_int32_calls a0 len0 cap0 l W HC.out hc (by omega) HWF.out).mono ?_); rintro e w1 ⟨v1, rfl, ho, hb⟩; obtain ⟨A1, c1, rfl, hc1, hr1⟩ := ho.read; rw [HWL.out] at hc1 hr1; rw [HWL.out]; have HR1 := Aside0.mk hr1; have HB1 := Aside0.mk hb; clear ho hb hr1)
    | (go_at_call 12; (with_reducible refine (enLow_any 4 4 rfl A1 len0 c1 _ (by omega) w1 HR1.out hc1 (by omega) HU.out).mono ?_); rintro e w2 ⟨v2, rfl, ho, hb⟩; rw [HX.out] at ho; obtain ⟨A2, c2, rfl, hc2, hr2⟩ := ho.read; rw [HXL.out] at hc2 hr2; rw [HXL.out]; have HR2 := Aside0.mk hr2; have HB2 := Aside0.mk (HB1.out.trans (hb.mono HB1.out.size)); clear ho hb hr2)
    | (go_at_call 26; (with_reducible refine (encodeInt32sPlain_calls a0 len0 cap0 l w2 (Kd.C_below HC.out HB2.out) hc (by omega) HWF.out).mono ?_); rintro e w3 ⟨v3, rfl, ho, hb⟩; rw [HX.out] at ho; obtain ⟨A3, c3, rfl, hc3, hr3⟩ := ho.read; rw [HXL.out] at hc3 hr3; rw [HXL.out]; have HR3 := Aside0.mk hr3; have HR23 := Aside0.mk (Kd.C_below HR2.out hb); have HB3 := Aside0.mk (HB2.out.trans (hb.mono HB2.out.size)); clear ho hb hr3)
    | (go_at_call 27; (with_reducible refine (decodeInt32sPlain_calls A2 N c2 len0 X w3 HR23.out hc2 HN.out (by omega) HXB.out).mono ?_); rintro e w4 ⟨v4, rfl, ho, hb⟩; rw [HXS.out] at ho; obtain ⟨A4, c4, rfl, hc4, hr4⟩ := ho.read; rw [HLN.out] at hc4 hr4; rw [HLN.out]; have HR4 := Aside0.mk hr4; have HR24 := Aside0.mk (Kd.C_below HR23.out hb); have HR34 := Aside0.mk (Kd.C_below HR3.out hb); have HB4 := Aside0.mk (HB3.out.trans (hb.mono HB3.out.size)); clear ho hb hr4)
    | (go_at_call 11; (with_reducible refine (enBytes_calls A3 A2 N c3 c2 X w4 HR34.out HR24.out).mono ?_); rintro e w5 ⟨rfl, ⟨nd, rfl⟩⟩; have HB5 := Aside0.mk (HB4.out.trans ((drewN_below w4 nd).mono HB4.out.size)))
    | (go_at_call 28; (with_reducible refine (sameNumbers_int32_calls A4 a0 len0 c4 cap0 l _ (Kd.C_drewN HR4.out _) (Kd.C_below HC.out HB5.out) (by omega)).mono ?_); rintro e w6 ⟨rfl, ⟨nd2, rfl⟩⟩; have HB6 := Aside0.mk (HB5.out.trans ((drewN_below _ nd2).mono HB5.out.size)); rw [World.drewN_drewN] at HB6))
  go_ret
  exact ⟨rfl, HB6.out⟩
set_option maxHeartbeats 4000000 in
theorem plainInt64sLaw (a0 : Option Addr) (len0 cap0 : Nat) (z0 : List Int) (W : World) (w0 : IsRow .i64 W a0 len0 cap0 z0) (y0 : len0 * 8 ≤ 140737488351232) :
    Calls Tryd.prog 4 #[.slice a0 len0 cap0] W fun e w' => e = .returned (.bool true) ∧ Below W.heap.size W w' := by
  obtain ⟨l, hlen, hc, hC, hwf⟩ := isRow_open w0
  have HLN := Aside0.mk hlen
  have HC := Aside0.mk hC
  have HWF := Aside0.mk hwf
  clear w0 hC hwf hlen
  by_cases h1 : 2147483647 < len0
  · have q1 : decide (2147483647 < (len0 : Int)) = true := decide_eq_true (by omega)
    go_enter Tryd.func4, Tryd.ntmps4
    go_wp2
    go_ret
    exact ⟨rfl, Below.refl _ _⟩
  have q1 : decide (2147483647 < (len0 : Int)) = false := decide_eq_false (by omega)
  by_cases h2 : 100000 < len0
  · have q2 : decide (100000 < (len0 : Int)) = true := decide_eq_true (by omega)
    go_enter Tryd.func4, Tryd.ntmps4
    go_wp2
    go_ret
    exact ⟨rfl, Below.refl _ _⟩
  have q2 : decide (100000 < (len0 : Int)) = false := decide_eq_false (by omega)
  have hWL : (wideL 64 l).length = len0 := by rw [← HLN.out]; exact List.length_map _
  have HWL := Aside0.mk hWL
  have HU : Aside0 (u64L (wideL 64 l)) := ⟨by intro x hx; simp only [wideL, List.mem_map] at hx; obtain ⟨y, _, rfl⟩ := hx; simp only [wideI]; unfold u64B; omega⟩
  obtain ⟨X, hX⟩ : ∃ X, enLowL 8 (wideL 64 l) = X := ⟨_, rfl⟩
  obtain ⟨N, hN⟩ : ∃ N, 8 * len0 = N := ⟨_, rfl⟩
  have HX := Aside0.mk hX
  have HXL : Aside0 (X.length = N) := ⟨by rw [← hX, enLowL_length, hWL, ← hN, Nat.mul_comm]⟩
  have HXB : Aside0 (bytesB X = true) := ⟨by rw [← hX]; exact enLow_bytes 8 _⟩
  have HXS : Aside0 (dw64 X len0 = l) := ⟨by rw [← hX]; exact dw64_enLow l len0 HLN.out HWF.out⟩
  have hN1 : N ≤ 800000 := by omega
  have HN : Aside0 (N = 8 * len0) := ⟨hN.symm⟩
  clear hX hN hWL
  go_enter Tryd.func4, Tryd.ntmps4
  go_wp2_with (first
    | (go_at_call 13; (with_reducible refine (wide_int64_calls a0 len0 cap0 l W HC.out hc (by omega) HWF.out).mono ?_); rintro e w1 ⟨v1, rfl, ho, hb⟩; obtain ⟨A1, c1, rfl, hc1, hr1⟩ := ho.read; rw [HWL.out] at hc1 hr1; rw [HWL.out]; have HR1 := Aside0.mk hr1; have HB1 := Aside0.mk hb; clear ho hb hr1)
    | (go_at_call 12; (with_reducible refine (enLow_any 8 8 rfl A1 len0 c1 _ (by omega) w1 HR1.out hc1 (by omega) HU.out).mono ?_); rintro e w2 ⟨v2, rfl, ho, hb⟩; rw [HX.out] at ho; obtain ⟨A2, c2, rfl, hc2, hr2⟩ := ho.read; rw [HXL.out] at hc2 hr2; rw [HXL.out]; have HR2 := Aside0.mk hr2; have HB2 := Aside0.mk (HB1.out.trans (hb.mono HB1.out.size)); clear ho hb hr2)
    | (go_at_call 14; (with_reducible refine (encodeInt64sPlain_calls a0 len0 cap0 l w2 (Kd.C_below HC.out HB2.out) hc (by omega) HWF.out).mono ?_); rintro e w3 ⟨v3, rfl, ho, hb⟩; rw [HX.out] at ho; obtain ⟨A3, c3, rfl, hc3, hr3⟩ := ho.read; rw [HXL.out] at hc3 hr3; rw [HXL.out]; have HR3 := Aside0.mk hr3; have HR23 := Aside0.mk (Kd.C_below HR2.out hb); have HB3 := Aside0.mk (HB2.out.trans (hb.mono HB2.out.size)); clear ho hb hr3)
    | (go_at_call 15; (with_reducible refine (decodeInt64sPlain_calls A2 N c2 len0 X w3 HR23.out hc2 HN.out (by omega) HXB.out).mono ?_); rintro e w4 ⟨v4, rfl, ho, hb⟩; rw [HXS.out] at ho; obtain ⟨A4, c4, rfl, hc4, hr4⟩ := ho.read; rw [HLN.out] at hc4 hr4; rw [HLN.out]; have HR4 := Aside0.mk hr4; have HR24 := Aside0.mk (Kd.C_below HR23.out hb); have HR34 := Aside0.mk (Kd.C_below HR3.out hb); have HB4 := Aside0.mk (HB3.out.trans (hb.mono HB3.out.size)); clear ho hb hr4)
    | (go_at_call 11; (with_reducible refine (enBytes_calls A3 A2 N c3 c2 X w4 HR34.out HR24.out).mono ?_); rintro e w5 ⟨rfl, ⟨nd, rfl⟩⟩; have HB5 := Aside0.mk (HB4.out.trans ((drewN_below w4 nd).mono HB4.out.size)))
    | (go_at_call 16; (with_reducible refine (sameNumbers_int64_calls A4 a0 len0 c4 cap0 l _ (Kd.C_drewN HR4.out _) (Kd.C_below HC.out HB5.out) (by omega)).mono ?_); rintro e w6 ⟨rfl, ⟨nd2, rfl⟩⟩; have HB6 := Aside0.mk (HB5.out.trans ((drewN_below _ nd2).mono HB5.out.size)); rw [World.drewN_drewN] at HB6))
  go_ret
  exact ⟨rfl, HB6.out⟩
set_option maxHeartbeats 4000000 in
theorem bitsPlainLaw (a0 : Option Addr) (len0 cap0 : Nat) (z0 : List Int) (W : World) (w0 : IsRow .u8 W a0 len0 cap0 z0) (y0 : len0 * 1 ≤ 140737488351232) :
    Calls Tryd.prog 3 #[.slice a0 len0 cap0] W fun e w' => e = .returned (.bool true) ∧ Below W.heap.size W w' := by
  obtain ⟨l, hlen, hc, hC, hwf⟩ := isRow_open w0
  have HLN := Aside0.mk hlen
  have HC := Aside0.mk hC
  clear w0 hC hwf hlen
  by_cases h1 : 2147483647 < len0
  · have q1 : decide (2147483647 < (len0 : Int)) = true := decide_eq_true (by omega)
    go_enter Tryd.func3, Tryd.ntmps3
    go_wp2
    go_ret
    exact ⟨rfl, Below.refl _ _⟩
  have q1 : decide (2147483647 < (len0 : Int)) = false := decide_eq_false (by omega)
  have HSH : Aside0 (Calls Tryd.prog 8 #[.slice (some ⟨W.heap.size, 0, none⟩) 1 1] (W.alloc (.cells #[.slice a0 len0 cap0] 22)) fun e w' => e = .returned (.bool (shortB [l])) ∧ W.alloc (.cells #[.slice a0 len0 cap0] 22) = w') :=
    ⟨short_calls 5 (some ⟨W.heap.size, 0, none⟩) 1 1 [l] _ (boxC HC.out hc _ _) (Nat.le_refl _) (by omega) (fun j hj => (by
      obtain rfl : j = 0 := by omega
      show l.length ≤ _
      rw [HLN.out]; omega))⟩
  have HBA : Aside0 (Below W.heap.size W (W.alloc (.cells #[.slice a0 len0 cap0] 22))) := ⟨(Below.refl _ _).alloc (Nat.le_refl _) _⟩
  have hsb : shortB [l] = decide (1 + len0 ≤ 100000) := by unfold shortB sumLen; simp [HLN.out]
  rw [hsb] at HSH
  clear hsb
  by_cases h2 : 1 + len0 ≤ 100000
  · rw [decide_eq_true h2] at HSH
    go_enter Tryd.func3, Tryd.ntmps3
    go_wp2_with (first
      | (go_at_call 8; (with_reducible refine HSH.out.mono ?_); rintro e w1 ⟨rfl, rfl⟩)
      | (go_at_call 9; (with_reducible refine (encodeBitsPlain_calls a0 len0 cap0 l _ (Kd.C_below HC.out HBA.out) hc (by omega)).mono ?_); rintro e w2 ⟨v2, rfl, ho, hb⟩; obtain ⟨A2, c2, rfl, hc2, hr2⟩ := ho.read; rw [HLN.out] at hc2 hr2; rw [HLN.out]; have HR2 := Aside0.mk hr2; have HB2 := Aside0.mk (HBA.out.trans (hb.mono HBA.out.size)); clear ho hb hr2)
      | (go_at_call 10; (with_reducible refine (decodeBitsPlain_calls a0 len0 cap0 l w2 (Kd.C_below HC.out HB2.out) hc (by omega)).mono ?_); rintro e w3 ⟨v3, rfl, ho, hb⟩; obtain ⟨A3, c3, rfl, hc3, hr3⟩ := ho.read; rw [HLN.out] at hc3 hr3; rw [HLN.out]; have HR3 := Aside0.mk hr3; have HR23 := Aside0.mk (Kd.C_below HR2.out hb); have HB3 := Aside0.mk (HB2.out.trans (hb.mono HB2.out.size)); clear ho hb hr3)
      | (go_at_call 11; (first
        | ((with_reducible refine (enBytes_calls A2 a0 len0 c2 cap0 l w3 HR23.out (Kd.C_below HC.out HB3.out)).mono ?_); rintro e w4 ⟨rfl, ⟨nd, rfl⟩⟩; have HB4 := Aside0.mk (HB3.out.trans ((drewN_below w3 nd).mono HB3.out.size)))
        | ((with_reducible refine (enBytes_calls A3 a0 len0 c3 cap0 l _ (Kd.C_drewN HR3.out _) (Kd.C_below HC.out HB4.out)).mono ?_); rintro e w5 ⟨rfl, ⟨nd2, rfl⟩⟩; have HB5 := Aside0.mk (HB4.out.trans ((drewN_below _ nd2).mono HB4.out.size)); rw [World.drewN_drewN] at HB5))))
    go_ret
    exact ⟨rfl, HB5.out⟩
  · rw [decide_eq_false h2] at HSH
    go_enter Tryd.func3, Tryd.ntmps3
    go_wp2_with (first
      | (go_at_call 8; (with_reducible refine HSH.out.mono ?_); rintro e w1 ⟨rfl, rfl⟩))
    go_ret
    exact ⟨rfl, HBA.out⟩
theorem mask_bd (a : Int) : 0 ≤ Go.bits .and .i64 a 65535 ∧ Go.bits .and .i64 a 65535 ≤ 65535 := by
  have h : Go.bits .and .i64 a 65535 = IntKind.i64.wrap (((BitVec.ofInt 64 a &&& BitVec.ofInt 64 65535).toNat : Nat) : Int) := rfl
  have h2 : (BitVec.ofInt 64 a &&& BitVec.ofInt 64 65535).toNat ≤ 65535 := by
    rw [BitVec.toNat_and]
    exact Nat.and_le_right
  rw [h, IntWalk.i64_in _ (by omega)]
  omega
def widthI (x : Int) (m : Int) : Int := 1 + Go.bits .and .i64 x 65535 % m
theorem widthI_bd (x m : Int) (h : 0 < m) : 1 ≤ widthI x m ∧ widthI x m ≤ m := by
  have := Int.emod_nonneg (Go.bits .and .i64 x 65535) (show m ≠ 0 by omega)
  have := Int.emod_lt_of_pos (Go.bits .and .i64 x 65535) h
  unfold widthI; omega
set_option maxHeartbeats 4000000 in
theorem enWidth_calls (x m : Int) (h0 : 0 < m) (h1 : m ≤ 1000) (w : World) :
    Calls Tryd.prog 17 #[.int .i64 x, .int .i64 m] w fun e w' => e = .returned (.int .i64 (widthI x m)) ∧ w = w' := by
  obtain ⟨y, hy⟩ : ∃ y, Go.bits .and .i64 x 65535 = y := ⟨_, rfl⟩
  have HB := mask_bd x
  rw [hy] at HB
  obtain ⟨hy0, hy1⟩ := HB
  have HY := Aside0.mk hy
  have q3 : (m == 0) = false := by simpa using (show m ≠ 0 by omega)
  have q4 : ¬ m = 0 := by omega
  have b0 := Int.emod_nonneg y (show m ≠ 0 by omega)
  have b1 := Int.emod_lt_of_pos y h0
  have hrt : y.tmod m = y % m := Int.tmod_eq_emod_of_nonneg hy0
  obtain ⟨r, hr⟩ : ∃ r, y % m = r := ⟨_, rfl⟩
  rw [hr] at b0 b1 hrt
  have HR := Aside0.mk hr
  go_enter Tryd.func17, Tryd.ntmps17
  go_wp2_with (fail)
  go_ret
  refine ⟨?_, rfl⟩
  unfold widthI
  rw [HY.out, HR.out]
  rfl
set_option maxHeartbeats 4000000 in
theorem plainFixedLaw (x : Int) (a1 : Option Addr) (len1 cap1 : Nat) (z1 : List Int) (W : World) (w0 : (Lit.int .i64 x).wf = true) (w1 : IsRow .u8 W a1 len1 cap1 z1) (y1 : len1 * 1 ≤ 140737488351232) :
    Calls Tryd.prog 5 #[.int .i64 x, .slice a1 len1 cap1] W fun e w' => e = .returned (.bool true) ∧ Below W.heap.size W w' := by
  obtain ⟨l, hlen, hc, hC, hwf⟩ := isRow_open w1
  have HLN := Aside0.mk hlen
  have HC := Aside0.mk hC
  obtain ⟨s, hs⟩ : ∃ s, widthI x 100 = s := ⟨_, rfl⟩
  have hsb := widthI_bd x 100 (by omega)
  rw [hs] at hsb
  obtain ⟨hs0, hs1⟩ := hsb
  have HSX := Aside0.mk hs
  clear hs w0
  clear w1 hC hwf hlen
  by_cases h1 : 2147483647 < len1
  · have q1 : decide (2147483647 < (len1 : Int)) = true := decide_eq_true (by omega)
    go_enter Tryd.func5, Tryd.ntmps5
    go_wp2
    go_ret
    exact ⟨rfl, Below.refl _ _⟩
  have q1 : decide (2147483647 < (len1 : Int)) = false := decide_eq_false (by omega)
  have HSH : Aside0 (Calls Tryd.prog 8 #[.slice (some ⟨W.heap.size, 0, none⟩) 1 1] (W.alloc (.cells #[.slice a1 len1 cap1] 22)) fun e w' => e = .returned (.bool (shortB [l])) ∧ W.alloc (.cells #[.slice a1 len1 cap1] 22) = w') :=
    ⟨short_calls 5 (some ⟨W.heap.size, 0, none⟩) 1 1 [l] _ (boxC HC.out hc _ _) (Nat.le_refl _) (by omega) (fun j hj => (by
      obtain rfl : j = 0 := by omega
      show l.length ≤ _
      rw [HLN.out]; omega))⟩
  have HBA : Aside0 (Below W.heap.size W (W.alloc (.cells #[.slice a1 len1 cap1] 22))) := ⟨(Below.refl _ _).alloc (Nat.le_refl _) _⟩
  have hsb : shortB [l] = decide (1 + len1 ≤ 100000) := by unfold shortB sumLen; simp [HLN.out]
  rw [hsb] at HSH
  clear hsb
  by_cases h2 : 1 + len1 ≤ 100000
  · rw [decide_eq_true h2] at HSH
    have q3 : (s == 0) = false := by simpa using (show s ≠ 0 by omega)
    have q4 : ¬ s = 0 := by omega
    by_cases h3 : ¬ (len1 : Int) % s = 0
    · have hrt : (len1 : Int).tmod s = (len1 : Int) % s := Int.tmod_eq_emod_of_nonneg (by omega)
      have q5 : ((len1 : Int) % s != 0) = true := by simpa using h3
      have q6 : decide ((len1 : Int) % s = 0) = false := decide_eq_false h3
      go_enter Tryd.func5, Tryd.ntmps5
      go_wp2_with (first
        | (go_at_call 17; (with_reducible refine (enWidth_calls x 100 (by omega) (by omega) W).mono ?_); rintro e w0 ⟨he, rfl⟩; rw [HSX.out] at he; subst he)
        | (go_at_call 8; (with_reducible refine HSH.out.mono ?_); rintro e w1 ⟨rfl, rfl⟩))
      go_ret
      exact ⟨rfl, HBA.out⟩
    have hr : (len1 : Int) % s = 0 := by omega
    have HRR := Aside0.mk hr
    have hrt : (len1 : Int).tmod s = 0 := by rw [Int.tmod_eq_emod_of_nonneg (by omega)]; exact hr
    clear h3
    go_enter Tryd.func5, Tryd.ntmps5
    go_wp2_with (first
      | (go_at_call 17; (with_reducible refine (enWidth_calls x 100 (by omega) (by omega) W).mono ?_); rintro e w0 ⟨he, rfl⟩; rw [HSX.out] at he; subst he)
      | (go_at_call 8; (with_reducible refine HSH.out.mono ?_); rintro e w1 ⟨rfl, rfl⟩)
      | (go_at_call 18; (with_reducible refine (encodeFixedPlain_calls a1 len1 cap1 l s _ (Kd.C_below HC.out HBA.out) hc (by omega) (by omega) (by omega) HRR.out).mono ?_); rintro e w2 ⟨v2, rfl, ho, hb⟩; obtain ⟨A2, c2, rfl, hc2, hr2⟩ := ho.read; rw [HLN.out] at hc2 hr2; rw [HLN.out]; have HR2 := Aside0.mk hr2; have HB2 := Aside0.mk (HBA.out.trans (hb.mono HBA.out.size)); clear ho hb hr2)
      | (go_at_call 19; (with_reducible refine (decodeFixedPlain_calls a1 len1 cap1 l s w2 (Kd.C_below HC.out HB2.out) hc (by omega) (by omega) (by omega) HRR.out).mono ?_); rintro e w3 ⟨v3, rfl, ho, hb⟩; obtain ⟨A3, c3, rfl, hc3, hr3⟩ := ho.read; rw [HLN.out] at hc3 hr3; rw [HLN.out]; have HR3 := Aside0.mk hr3; have HR23 := Aside0.mk (Kd.C_below HR2.out hb); have HB3 := Aside0.mk (HB2.out.trans (hb.mono HB2.out.size)); clear ho hb hr3)
      | (go_at_call 11; (first
        | ((with_reducible refine (enBytes_calls A2 a1 len1 c2 cap1 l w3 HR23.out (Kd.C_below HC.out HB3.out)).mono ?_); rintro e w4 ⟨rfl, ⟨nd, rfl⟩⟩; have HB4 := Aside0.mk (HB3.out.trans ((drewN_below w3 nd).mono HB3.out.size)))
        | ((with_reducible refine (enBytes_calls A3 a1 len1 c3 cap1 l _ (Kd.C_drewN HR3.out _) (Kd.C_below HC.out HB4.out)).mono ?_); rintro e w5 ⟨rfl, ⟨nd2, rfl⟩⟩; have HB5 := Aside0.mk (HB4.out.trans ((drewN_below _ nd2).mono HB4.out.size)); rw [World.drewN_drewN] at HB5))))
    go_ret
    exact ⟨rfl, HB5.out⟩
  · rw [decide_eq_false h2] at HSH
    go_enter Tryd.func5, Tryd.ntmps5
    go_wp2_with (first
      | (go_at_call 17; (with_reducible refine (enWidth_calls x 100 (by omega) (by omega) W).mono ?_); rintro e w0 ⟨he, rfl⟩; rw [HSX.out] at he; subst he)
      | (go_at_call 8; (with_reducible refine HSH.out.mono ?_); rintro e w1 ⟨rfl, rfl⟩))
    go_ret
    exact ⟨rfl, HBA.out⟩
end Go.Proofs.YtkefklemcoehmaaDoor.Ldp
