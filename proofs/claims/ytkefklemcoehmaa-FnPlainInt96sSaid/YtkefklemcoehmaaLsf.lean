import Derived.Test.YtkefklemcoehmaaSim
/-! The law of streams of numbers with points of 32 bits. -/
namespace Go.Proofs.Ytkefklemcoehmaa.Lsf
open Go.Proofs.Ytkefklemcoehmaa.Sim Go.Proofs.Ytkefklemcoehmaa.Spe Go.Proofs.Ytkefklemcoehmaa.Spd Go.Proofs.Ytkefklemcoehmaa.Spl Go.Proofs.Ytkefklemcoehmaa.Str Go.Proofs.Ytkefklemcoehmaa.Flt Go.Proofs.Ytkefklemcoehmaa.Owe Go.Proofs.Ytkefklemcoehmaa.Num Go.Proofs.Ytkefklemcoehmaa.Le Go.Proofs.Ytkefklemcoehmaa.Lst Go.Proofs.Ytkefklemcoehmaa.Aid Go.RowKit Go.Proofs.YtkefklemcoehmaaW.PrintWords Go.Proofs.YtkefklemcoehmaaW.PrintLast Go.Proofs.YtkefklemcoehmaaW.PrintMore
set_option linter.unusedVariables false
set_option linter.unusedSimpArgs false
theorem wide32_u32 {l : List Int} (hu : u32L l) : wideL 32 l = l := by
  unfold wideL
  conv => rhs; rw [← List.map_id l]
  apply List.map_congr_left
  intro x hx
  have := hu x hx
  unfold u32B at this
  simp only [wideI, id]; omega
theorem rd_streams (k : Nat) (hk : 0 < k) (l : List Int) (i : Nat) (hi : i < k * l.length) : rd (streamsL k (enLowL k l)) (i : Nat) = rd l (i % l.length : Nat) / 256 ^ (i / l.length) % 256 := by
  rw [rd_nat _ _ (by rw [streamsL_length, enLowL_length, Nat.mul_comm]; exact hi)]
  simp only [streams_enLow k hk]
  simp
theorem streams_bytes (k : Nat) (hk : 0 < k) (l : List Int) : bytesB (streamsL k (enLowL k l)) = true := by
  rw [streams_enLow k hk]
  apply bytesB_of
  intro x hx
  simp only [List.mem_map] at hx
  obtain ⟨i, _, rfl⟩ := hx
  exact ⟨Int.emod_nonneg _ (by decide), Int.emod_lt_of_pos _ (by decide)⟩
theorem sw4_streams (l : List Int) (n : Nat) (hn : l.length = n) (hu : u32L l) : sw4 (streamsL 4 (enLowL 4 l)) n = l := by
  apply List.ext_getElem
  · rw [sw4_length, hn]
  · intro j h1 h2
    have hj : j < n := by rw [sw4_length] at h1; exact h1
    rw [← rd_nat _ _ h1, rd_sw4 _ _ _ hj, ← rd_nat _ _ h2]
    have r0 := rd_streams 4 (by omega) l j (by omega)
    have r1 := rd_streams 4 (by omega) l (n + j) (by omega)
    have r2 := rd_streams 4 (by omega) l (2 * n + j) (by omega)
    have r3 := rd_streams 4 (by omega) l (3 * n + j) (by omega)
    obtain ⟨a0, b0⟩ := quot_eq (S := 0) hj
    obtain ⟨a1, b1⟩ := quot_eq (S := 1) hj
    obtain ⟨a2, b2⟩ := quot_eq (S := 2) hj
    obtain ⟨a3, b3⟩ := quot_eq (S := 3) hj
    rw [Nat.zero_mul, Nat.zero_add] at a0 b0
    rw [Nat.one_mul] at a1 b1
    rw [hn] at r0 r1 r2 r3
    rw [a0, b0] at r0
    rw [a1, b1] at r1
    rw [a2, b2] at r2
    rw [a3, b3] at r3
    rw [r0, r1, r2, r3]
    have hb : u32B (rd l (j : Nat)) := hu _ (rd_mem h2)
    have := le4_bytes _ hb.1 hb.2
    simpa using this
set_option maxHeartbeats 4000000 in
theorem splitFloatsLaw (a0 : Option Addr) (len0 cap0 : Nat) (z0 : List Int) (W : World) (w0 : IsRow .u32 W a0 len0 cap0 z0) (y0 : len0 * 4 ≤ 140737488351232) :
    Calls Try.prog 4 #[.slice a0 len0 cap0] W fun e w' => e = .returned (.bool true) ∧ Below W.heap.size W w' := by
  obtain ⟨l, hlen, hc, hC, hwf⟩ := isRow_open w0
  have HLN := Aside0.mk hlen
  have HC := Aside0.mk hC
  have hu : u32L l := fun x hx => u32_of_wf (hwf x hx)
  have HU := Aside0.mk hu
  have HWF := Aside0.mk hwf
  clear w0 hC hwf hu hlen
  by_cases h1 : 2147483647 < len0
  · have q1 : decide (2147483647 < (len0 : Int)) = true := decide_eq_true (by omega)
    go_enter Try.func4, Try.ntmps4
    go_wp2
    go_ret
    exact ⟨rfl, Below.refl _ _⟩
  have q1 : decide (2147483647 < (len0 : Int)) = false := decide_eq_false (by omega)
  by_cases h2 : 100000 < len0
  · have q2 : decide (100000 < (len0 : Int)) = true := decide_eq_true (by omega)
    go_enter Try.func4, Try.ntmps4
    go_wp2
    go_ret
    exact ⟨rfl, Below.refl _ _⟩
  have q2 : decide (100000 < (len0 : Int)) = false := decide_eq_false (by omega)
  obtain ⟨X, hX⟩ : ∃ X, streamsL 4 (enLowL 4 l) = X := ⟨_, rfl⟩
  have HX := Aside0.mk hX
  have HXL : Aside0 (X.length = 4 * len0) := ⟨by rw [← hX, streamsL_length, enLowL_length, HLN.out, Nat.mul_comm]⟩
  have HXB : Aside0 (bytesB X = true) := ⟨by rw [← hX]; exact streams_bytes 4 (by omega) l⟩
  have HXS : Aside0 (sw4 X len0 = l) := ⟨by rw [← hX]; exact sw4_streams l len0 HLN.out HU.out⟩
  have HEL : Aside0 ((enLowL 4 l).length = 4 * len0) := ⟨by rw [enLowL_length, HLN.out, Nat.mul_comm]⟩
  obtain ⟨N, hN⟩ : ∃ N, 4 * len0 = N := ⟨_, rfl⟩
  have hN1 : N ≤ 400000 := by omega
  have HN : Aside0 (N = 4 * len0) := ⟨hN.symm⟩
  rw [hN] at HXL HEL
  have HEN : Aside0 (∀ (A1 : Option Addr) (c1 : Nat) (w1 : World), (Kd.int .u64).C w1 A1 len0 l → len0 ≤ c1 → Calls Try.prog 7 #[.int .i64 4, .slice A1 len0 c1] w1 fun e w' => ∃ v, e = .returned v ∧ Own w' w1.heap.size 5 .u8 v (enLowL 4 l) ∧ Below w1.heap.size w1 w') :=
    ⟨fun A1 c1 w1 h h' => enLow_calls 4 A1 len0 c1 l (by omega) w1 h h' (by omega) (fun x hx => by have := HU.out x hx; unfold u32B at this; unfold u64B; omega)⟩
  have HST : Aside0 (∀ (A2 : Option Addr) (c2 : Nat) (w2 : World), (Kd.int .u8).C w2 A2 N (enLowL 4 l) → N ≤ c2 → Calls Try.prog 13 #[.int .i64 4, .slice A2 N c2] w2 fun e w' => ∃ v, e = .returned v ∧ Own w' w2.heap.size 5 .u8 v (streamsL 4 (enLowL 4 l)) ∧ Below w2.heap.size w2 w') :=
    ⟨fun A2 c2 w2 h h' => streams_calls 4 len0 A2 N c2 (enLowL 4 l) w2 (by omega) (by omega) h h' HN.out (by omega)⟩
  clear hX hN
  go_enter Try.func4, Try.ntmps4
  go_wp2_with (first
    | (go_at_call 8; (with_reducible refine (wide_uint32_calls a0 len0 cap0 l W HC.out hc (by omega) HWF.out).mono ?_); rintro e w1 ⟨v1, rfl, ho, hb⟩; rw [wide32_u32 HU.out] at ho; obtain ⟨A1, c1, rfl, hc1, hr1⟩ := ho.read; rw [HLN.out] at hc1 hr1; rw [HLN.out]; have HR1 := Aside0.mk hr1; have HB1 := Aside0.mk hb; clear ho hb hr1)
    | (go_at_call 7; (with_reducible refine (HEN.out A1 c1 w1 HR1.out hc1).mono ?_); rintro e w2 ⟨v2, rfl, ho, hb⟩; obtain ⟨A2, c2, rfl, hc2, hr2⟩ := ho.read; rw [HEL.out] at hc2 hr2; rw [HEL.out]; have HR2 := Aside0.mk hr2; have HB2 := Aside0.mk (HB1.out.trans (hb.mono HB1.out.size)); clear ho hb hr2)
    | (go_at_call 13; (with_reducible refine (HST.out A2 c2 w2 HR2.out hc2).mono ?_); rintro e w3 ⟨v3, rfl, ho, hb⟩; rw [HX.out] at ho; obtain ⟨A3, c3, rfl, hc3, hr3⟩ := ho.read; rw [HXL.out] at hc3 hr3; rw [HXL.out]; have HR3 := Aside0.mk hr3; have HB3 := Aside0.mk (HB2.out.trans (hb.mono HB2.out.size)); clear ho hb hr3)
    | (go_at_call 14; (with_reducible refine (encodeFloatsSplit_calls a0 len0 cap0 l w3 (Kd.C_below HC.out HB3.out) hc (by omega) HU.out).mono ?_); rintro e w4 ⟨v4, rfl, ho, hb⟩; rw [HX.out] at ho; obtain ⟨A4, c4, rfl, hc4, hr4⟩ := ho.read; rw [HXL.out] at hc4 hr4; rw [HXL.out]; have HR4 := Aside0.mk hr4; have HR34 := Aside0.mk (Kd.C_below HR3.out hb); have HB4 := Aside0.mk (HB3.out.trans (hb.mono HB3.out.size)); clear ho hb hr4)
    | (go_at_call 15; (with_reducible refine (decodeFloatsSplit_calls A3 N c3 len0 X w4 HR34.out hc3 HN.out (by omega) HXB.out).mono ?_); rintro e w5 ⟨v5, rfl, ho, hb⟩; rw [HXS.out] at ho; obtain ⟨A5, c5, rfl, hc5, hr5⟩ := ho.read; rw [HLN.out] at hc5 hr5; rw [HLN.out]; have HR5 := Aside0.mk hr5; have HR35 := Aside0.mk (Kd.C_below HR34.out hb); have HR45 := Aside0.mk (Kd.C_below HR4.out hb); have HB5 := Aside0.mk (HB4.out.trans (hb.mono HB4.out.size)); clear ho hb hr5)
    | (go_at_call 11; (with_reducible refine (enBytes_calls A4 A3 N c4 c3 X w5 HR45.out HR35.out).mono ?_); rintro e w6 ⟨rfl, ⟨nd, rfl⟩⟩; have HB6 := Aside0.mk (HB5.out.trans ((drewN_below w5 nd).mono HB5.out.size)))
    | (go_at_call 16; (with_reducible refine (sameNumbers_uint32_calls A5 a0 len0 c5 cap0 l _ (Kd.C_drewN HR5.out _) (Kd.C_below HC.out HB6.out) (by omega)).mono ?_); rintro e w7 ⟨rfl, ⟨nd2, rfl⟩⟩; have HB7 := Aside0.mk (HB6.out.trans ((drewN_below _ nd2).mono HB6.out.size))))
  go_ret
  exact ⟨rfl, by have := HB7.out; rw [World.drewN_drewN] at this; exact this⟩
end Go.Proofs.Ytkefklemcoehmaa.Lsf
