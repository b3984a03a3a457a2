import Derived.Test.YtoopljlbiifmfaaDoorRhc
import Derived.Test.YtoopljlbiifmfaaDoorLid
/-! Numbers of 32 bits in whatever runs are read: the laws. -/
namespace Go.Proofs.YtoopljlbiifmfaaDoor.Lir
open Go.Proofs.YtoopljlbiifmfaaDoor.Rhc Go.Proofs.YtoopljlbiifmfaaDoor.Lid Go.Proofs.YtoopljlbiifmfaaDoor.Dei Go.Proofs.YtoopljlbiifmfaaDoor.Uni Go.Proofs.YtoopljlbiifmfaaDoor.Rhb Go.Proofs.YtoopljlbiifmfaaDoor.Rub Go.Proofs.YtoopljlbiifmfaaDoor.Rus Go.Proofs.YtoopljlbiifmfaaDoor.Rin Go.Proofs.YtoopljlbiifmfaaDoor.Uva Go.Proofs.YtoopljlbiifmfaaDoor.Rle Go.Proofs.YtoopljlbiifmfaaDoor.Run Go.Proofs.YtoopljlbiifmfaaDoor.Rlp Go.Proofs.YtoopljlbiifmfaaDoor.Rlb Go.Proofs.YtoopljlbiifmfaaDoor.Buf Go.Proofs.YtoopljlbiifmfaaDoor.Fit Go.Proofs.YtoopljlbiifmfaaDoor.Bit Go.Proofs.YtoopljlbiifmfaaDoor.Wrd Go.Proofs.YtoopljlbiifmfaaDoor.Spl Go.Proofs.YtoopljlbiifmfaaDoor.Str Go.Proofs.YtoopljlbiifmfaaDoor.Flt Go.Proofs.YtoopljlbiifmfaaDoor.Owe Go.Proofs.YtoopljlbiifmfaaDoor.Num Go.Proofs.YtoopljlbiifmfaaDoor.Le Go.Proofs.YtoopljlbiifmfaaDoor.Lst Go.Proofs.YtoopljlbiifmfaaDoor.Aid Go.RowKit Go.Proofs.YtoopljlbiifmfaaDoorW.PrintWords Go.Proofs.YtoopljlbiifmfaaDoorW.PrintLast Go.Proofs.YtoopljlbiifmfaaDoorW.PrintMore
set_option linter.unusedVariables false
set_option linter.unusedSimpArgs false
theorem hybV_fit (w : Nat) (rs : List R) (h : hybOk w rs) : fitL w (hybV rs) := by
  intro x hx
  simp only [hybV, List.mem_flatMap] at hx
  obtain ⟨r, hr, hx⟩ := hx
  have hk := h r hr
  cases r with
  | rep v k =>
    have := List.eq_of_mem_replicate hx
    subst this
    obtain ⟨_, h2⟩ := hk
    exact ⟨by omega, by exact_mod_cast h2⟩
  | grp l => exact hk.2.2 x hx
theorem fit_u64 {w : Nat} {l : List Int} (hw : w ≤ 32) (h : fitL w l) : u64L l := fun x hx => by
  have h1 := h x hx
  have h2 := two_pow_le hw
  have h3 : (2 : Int) ^ w = ((2 ^ w : Nat) : Int) := by push_cast; rfl
  have h4 : (2 : Nat) ^ 32 = 4294967296 := by decide
  rw [h3] at h1
  unfold u64B; omega
theorem fits3_all {ls : List RunT} (h : fits3 ls = true) : ls.length ≤ 2147483647 ∧ ∀ r ∈ ls, r.2.2.length ≤ 2147483647 := of_decide_eq_true h
set_option maxHeartbeats 8000000 in
set_option maxRecDepth 100000 in
theorem runsReadLaw (x : Int) (a1 : Option Addr) (len1 cap1 : Nat) (ls : List RunT) (W : World) (hx : (Lit.int .i64 x).wf = true) (w1 : IsRuns 32 W a1 len1 cap1 ls) :
    Calls Tryd.prog 8 #[.int .i64 x, .slice a1 len1 cap1] W fun e w' => e = .returned (.bool true) ∧ Below W.heap.size W w' := by
  have HLN : Aside0 (ls.length = len1) := ⟨w1.C.1⟩
  have HC := Aside0.mk w1.C
  have hc := w1.le
  have HWF : Aside0 (wfRuns ls) := ⟨w1.wf⟩
  have HF3 := Aside0.mk (zzFits3_calls _ a1 len1 cap1 ls W w1.C hc)
  clear w1
  by_cases f3 : fits3 ls = false
  · rw [f3] at HF3
    clear f3
    go_enter Tryd.func8, Tryd.ntmps8
    go_wp2_with (first
      | (go_at_call 10; (with_reducible refine HF3.out.mono ?_); rintro e w2 ⟨rfl, hb⟩; have HB2 := Aside0.mk hb; clear hb))
    go_ret
    exact ⟨rfl, HB2.out⟩
  have f3t : fits3 ls = true := by simpa using f3
  rw [f3t] at HF3
  obtain ⟨hn9, hp9⟩ := fits3_all f3t
  rw [HLN.out] at hn9
  have HP9 := Aside0.mk hp9
  clear f3 f3t hp9
  obtain ⟨hs1, hs2⟩ := widthI_bd x 32 (by omega)
  obtain ⟨w, hw⟩ : ∃ w : Nat, widthI x 32 = (w : Int) := ⟨(widthI x 32).toNat, by omega⟩
  rw [hw] at hs1 hs2
  have HSX := Aside0.mk hw
  have hw1 : 1 ≤ w := by omega
  have hw8 : w ≤ 32 := by omega
  clear hs1 hs2 hw
  have HEW : Aside0 (∀ w0 : World, Calls Tryd.prog 20 #[.int .i64 x, .int .i64 32] w0 fun e w' => e = .returned (.int .i64 (w : Int)) ∧ w0 = w') := ⟨fun w0 => by have := enWidth_calls x 32 (by omega) (by omega) w0; rw [HSX.out] at this; exact this⟩
  have HAR : Aside0 (∀ w0, Below W.heap.size W w0 → Calls Tryd.prog 11 #[.int .i64 w, .slice a1 len1 cap1] w0 fun e w' => e = .returned (.bool (areB w ls)) ∧ Below w0.heap.size w0 w') := ⟨fun w0 hb => areRuns_calls _ w a1 len1 cap1 ls w0 (Kd.C_below HC.out hb) hc hn9 (by omega) HWF.out HP9.out⟩
  by_cases ar : areP w ls
  · rw [areB_true ar] at HAR
    have HOK := Aside0.mk (rsR_ok w ls ar HWF.out)
    have HAP := Aside0.mk ar
    have hv9 : (hybV (rsR ls)).length ≤ 100000 := by have := hybV_le ls; have := ar.2.1; omega
    have hX9 := hyb_le w (by omega) (rsR ls) HOK.out (by omega)
    have HBY := Aside0.mk (fit_u64 (by omega) (hybV_fit w (rsR ls) HOK.out))
    obtain ⟨X, hX⟩ : ∃ X, hyb w (rsR ls) = X := ⟨_, rfl⟩
    obtain ⟨N, hN⟩ : ∃ N, X.length = N := ⟨_, rfl⟩
    rw [hX, hN] at hX9
    have hN9 : N ≤ 900000 := by omega
    obtain ⟨V, hV⟩ : ∃ V, hybV (rsR ls) = V := ⟨_, rfl⟩
    obtain ⟨K, hK⟩ : ∃ K, V.length = K := ⟨_, rfl⟩
    have hVK : (hybV (rsR ls)).length ≤ 1000000 := by omega
    rw [hV, hK] at hv9
    rw [hV] at HBY
    have HHB : Aside0 (∀ w0, Below W.heap.size W w0 → Calls Tryd.prog 14 #[.int .i64 w, .slice a1 len1 cap1] w0 fun e w' => ∃ v, e = .returned v ∧ Own w' w0.heap.size 5 .u8 v X ∧ Below w0.heap.size w0 w') := ⟨fun w0 hb => by
      have := hybridBytes_calls _ w a1 len1 cap1 ls w0 (Kd.C_below HC.out hb) hc HAP.out HWF.out hw1 (by omega)
      rw [hX] at this; exact this⟩
    have HRV : Aside0 (∀ w0, Below W.heap.size W w0 → Calls Tryd.prog 15 #[.slice a1 len1 cap1] w0 fun e w' => ∃ v, e = .returned v ∧ Own w' w0.heap.size 32 .u64 v V ∧ Below w0.heap.size w0 w') := ⟨fun w0 hb => by
      have := runValues_calls _ w a1 len1 cap1 ls w0 (Kd.C_below HC.out hb) hc HAP.out HWF.out
      rw [hV] at this; exact this⟩
    have HDL : Aside0 (∀ (A : Option Addr) (c : Nat) (w0 : World), (Kd.int .u8).C w0 A N X → N ≤ c → Calls Tryd.prog 29 #[.string ⟨#[114, 108, 101]⟩, .int .i64 w, .slice A N c] w0 fun e w' => ∃ v, e = .returned (.tuple #[v, .bool true]) ∧ Own w' w0.heap.size 21 .i32 v (i32L V) ∧ Below w0.heap.size w0 w') := ⟨fun A c w0 h hcA => by
      have := decodeInt32sRl_calls A N c w X (rsR ls) w0 h hX.symm hcA (by omega) hw1 (by omega) HOK.out hVK
      rw [hV] at this; exact this⟩
    have HXN := Aside0.mk hN
    have HVN : Aside0 (V.length = K) := ⟨hK⟩
    have HIN : Aside0 ((i32L V).length = K) := ⟨by rw [i32L_length]; exact hK⟩
    clear hX hN hV hK ar hX9 hVK
    go_enter Tryd.func8, Tryd.ntmps8
    go_wp2_with (first
      | (go_at_call 10; (with_reducible refine HF3.out.mono ?_); rintro e w2 ⟨rfl, hb⟩; have HB2 := Aside0.mk hb; clear hb)
      | (go_at_call 20; (with_reducible refine (HEW.out _).mono ?_); rintro e w0 ⟨rfl, rfl⟩)
      | (go_at_call 11; (with_reducible refine (HAR.out _ HB2.out).mono ?_); rintro e w3 ⟨rfl, hb⟩; have HB3 := Aside0.mk (HB2.out.trans (hb.mono HB2.out.size)); clear hb)
      | (go_at_call 14; (with_reducible refine (HHB.out _ HB3.out).mono ?_); rintro e w4 ⟨v4, rfl, ho, hb⟩; obtain ⟨A4, c4, rfl, hc4, hr4⟩ := ho.read; rw [HXN.out] at hc4 hr4; rw [HXN.out]; have HR4 := Aside0.mk hr4; have HB4 := Aside0.mk (HB3.out.trans (hb.mono HB3.out.size)); clear ho hb hr4)
      | (go_at_call 29; (with_reducible refine (HDL.out A4 c4 w4 HR4.out hc4).mono ?_); rintro e w5 ⟨v5, rfl, ho, hb⟩; obtain ⟨A5, c5, rfl, hc5, hr5⟩ := ho.read; rw [HIN.out] at hc5 hr5; rw [HIN.out]; have HR5 := Aside0.mk hr5; have HB5 := Aside0.mk (HB4.out.trans (hb.mono HB4.out.size)); clear ho hb hr5)
      | (go_at_call 15; (with_reducible refine (HRV.out _ HB5.out).mono ?_); rintro e w6 ⟨v6, rfl, ho, hb⟩; obtain ⟨A6, c6, rfl, hc6, hr6⟩ := ho.read; rw [HVN.out] at hc6 hr6; rw [HVN.out]; have HR6 := Aside0.mk hr6; have HR56 := Aside0.mk (Kd.C_below HR5.out hb); have HB6 := Aside0.mk (HB5.out.trans (hb.mono HB5.out.size)); clear ho hb hr6)
      | (go_at_call 31; (with_reducible refine (enInts_calls A6 K c6 V w6 HR6.out hc6 (by omega) HBY.out).mono ?_); rintro e w7 ⟨v7, rfl, ho, hb⟩; obtain ⟨A7, c7, rfl, hc7, hr7⟩ := ho.read; rw [HIN.out] at hc7 hr7; rw [HIN.out]; have HR7 := Aside0.mk hr7; have HR57 := Aside0.mk (Kd.C_below HR56.out hb); have HB7 := Aside0.mk (HB6.out.trans (hb.mono HB6.out.size)); clear ho hb hr7)
      | (go_at_call 30; (with_reducible refine (sameNumbers_int32_calls A5 A7 K c5 c7 (i32L V) w7 HR57.out HR7.out (by omega)).mono ?_); rintro e w8 ⟨rfl, ⟨nd, rfl⟩⟩; have HB8 := Aside0.mk (HB7.out.trans ((drewN_below w7 nd).mono HB7.out.size))))
    go_ret
    exact ⟨rfl, HB8.out⟩
  · rw [areB_false ar] at HAR
    clear ar
    go_enter Tryd.func8, Tryd.ntmps8
    go_wp2_with (first
      | (go_at_call 10; (with_reducible refine HF3.out.mono ?_); rintro e w2 ⟨rfl, hb⟩; have HB2 := Aside0.mk hb; clear hb)
      | (go_at_call 20; (with_reducible refine (HEW.out _).mono ?_); rintro e w0 ⟨rfl, rfl⟩)
      | (go_at_call 11; (with_reducible refine (HAR.out _ HB2.out).mono ?_); rintro e w3 ⟨rfl, hb⟩; have HB3 := Aside0.mk (HB2.out.trans (hb.mono HB2.out.size)); clear hb))
    go_ret
    exact ⟨rfl, HB3.out⟩
set_option maxHeartbeats 8000000 in
set_option maxRecDepth 100000 in
theorem indexReadLaw (x : Int) (a1 : Option Addr) (len1 cap1 : Nat) (ls : List RunT) (W : World) (hx : (Lit.int .i64 x).wf = true) (w1 : IsRuns 32 W a1 len1 cap1 ls) :
    Calls Tryd.prog 7 #[.int .i64 x, .slice a1 len1 cap1] W fun e w' => e = .returned (.bool true) ∧ Below W.heap.size W w' := by
  have HLN : Aside0 (ls.length = len1) := ⟨w1.C.1⟩
  have HC := Aside0.mk w1.C
  have hc := w1.le
  have HWF : Aside0 (wfRuns ls) := ⟨w1.wf⟩
  have HF3 := Aside0.mk (zzFits3_calls _ a1 len1 cap1 ls W w1.C hc)
  clear w1
  by_cases f3 : fits3 ls = false
  · rw [f3] at HF3
    clear f3
    go_enter Tryd.func7, Tryd.ntmps7
    go_wp2_with (first
      | (go_at_call 10; (with_reducible refine HF3.out.mono ?_); rintro e w2 ⟨rfl, hb⟩; have HB2 := Aside0.mk hb; clear hb))
    go_ret
    exact ⟨rfl, HB2.out⟩
  have f3t : fits3 ls = true := by simpa using f3
  rw [f3t] at HF3
  obtain ⟨hn9, hp9⟩ := fits3_all f3t
  rw [HLN.out] at hn9
  have HP9 := Aside0.mk hp9
  clear f3 f3t hp9
  obtain ⟨hs1, hs2⟩ := widthI_bd x 20 (by omega)
  obtain ⟨w, hw⟩ : ∃ w : Nat, widthI x 20 = (w : Int) := ⟨(widthI x 20).toNat, by omega⟩
  rw [hw] at hs1 hs2
  have HSX := Aside0.mk hw
  have hw1 : 1 ≤ w := by omega
  have hw8 : w ≤ 20 := by omega
  clear hs1 hs2 hw
  have HEW : Aside0 (∀ w0 : World, Calls Tryd.prog 20 #[.int .i64 x, .int .i64 20] w0 fun e w' => e = .returned (.int .i64 (w : Int)) ∧ w0 = w') := ⟨fun w0 => by have := enWidth_calls x 20 (by omega) (by omega) w0; rw [HSX.out] at this; exact this⟩
  have HAR : Aside0 (∀ w0, Below W.heap.size W w0 → Calls Tryd.prog 11 #[.int .i64 w, .slice a1 len1 cap1] w0 fun e w' => e = .returned (.bool (areB w ls)) ∧ Below w0.heap.size w0 w') := ⟨fun w0 hb => areRuns_calls _ w a1 len1 cap1 ls w0 (Kd.C_below HC.out hb) hc hn9 (by omega) HWF.out HP9.out⟩
  by_cases ar : areP w ls
  · rw [areB_true ar] at HAR
    have HOK := Aside0.mk (rsR_ok w ls ar HWF.out)
    have HAP := Aside0.mk ar
    have hv9 : (hybV (rsR ls)).length ≤ 100000 := by have := hybV_le ls; have := ar.2.1; omega
    have hX9 := hyb_le w (by omega) (rsR ls) HOK.out (by omega)
    have HBY := Aside0.mk (fit_u64 (by omega) (hybV_fit w (rsR ls) HOK.out))
    obtain ⟨X, hX⟩ : ∃ X, hyb w (rsR ls) = X := ⟨_, rfl⟩
    obtain ⟨N, hN⟩ : ∃ N, X.length = N := ⟨_, rfl⟩
    rw [hX, hN] at hX9
    have hN9 : N ≤ 900000 := by omega
    obtain ⟨V, hV⟩ : ∃ V, hybV (rsR ls) = V := ⟨_, rfl⟩
    obtain ⟨K, hK⟩ : ∃ K, V.length = K := ⟨_, rfl⟩
    have hVK : (hybV (rsR ls)).length ≤ 1000000 := by omega
    rw [hV, hK] at hv9
    rw [hV] at HBY
    have HHB : Aside0 (∀ w0, Below W.heap.size W w0 → Calls Tryd.prog 14 #[.int .i64 w, .slice a1 len1 cap1] w0 fun e w' => ∃ v, e = .returned v ∧ Own w' w0.heap.size 5 .u8 v X ∧ Below w0.heap.size w0 w') := ⟨fun w0 hb => by
      have := hybridBytes_calls _ w a1 len1 cap1 ls w0 (Kd.C_below HC.out hb) hc HAP.out HWF.out hw1 (by omega)
      rw [hX] at this; exact this⟩
    have HRV : Aside0 (∀ w0, Below W.heap.size W w0 → Calls Tryd.prog 15 #[.slice a1 len1 cap1] w0 fun e w' => ∃ v, e = .returned v ∧ Own w' w0.heap.size 32 .u64 v V ∧ Below w0.heap.size w0 w') := ⟨fun w0 hb => by
      have := runValues_calls _ w a1 len1 cap1 ls w0 (Kd.C_below HC.out hb) hc HAP.out HWF.out
      rw [hV] at this; exact this⟩
    have HDL : Aside0 (∀ (A : Option Addr) (c : Nat) (w0 : World), (Kd.int .u8).C w0 A (N + 1) ((w : Int) :: X) → N + 1 ≤ c → Calls Tryd.prog 29 #[.string ⟨#[114, 108, 101, 100, 105, 99, 116]⟩, .int .i64 0, .slice A (N + 1) c] w0 fun e w' => ∃ v, e = .returned (.tuple #[v, .bool true]) ∧ Own w' w0.heap.size 21 .i32 v (i32L V) ∧ Below w0.heap.size w0 w') := ⟨fun A c w0 h hcA => by
      have := decodeInt32sDi_calls A N c w X (rsR ls) w0 h hX.symm hcA (by omega) hw1 (by omega) HOK.out hVK
      rw [hV] at this; exact this⟩
    have hwm : (w : Int) % 256 = (w : Int) := by omega
    have hwr : IntKind.u8.wrap (w : Int) = (w : Int) := by rw [IntKind.wrap_u8]; omega
    have HXN := Aside0.mk hN
    have HVN : Aside0 (V.length = K) := ⟨hK⟩
    have HIN : Aside0 ((i32L V).length = K) := ⟨by rw [i32L_length]; exact hK⟩
    clear hX hN hV hK ar hX9 hVK
    go_enter Tryd.func7, Tryd.ntmps7
    go_wp2_with (first
      | (go_at_call 10; (with_reducible refine HF3.out.mono ?_); rintro e w2 ⟨rfl, hb⟩; have HB2 := Aside0.mk hb; clear hb)
      | (go_at_call 20; (with_reducible refine (HEW.out _).mono ?_); rintro e w0 ⟨rfl, rfl⟩)
      | (go_at_call 11; (with_reducible refine (HAR.out _ HB2.out).mono ?_); rintro e w3 ⟨rfl, hb⟩; have HB3 := Aside0.mk (HB2.out.trans (hb.mono HB2.out.size)); clear hb)
      | (go_at_call 14; (with_reducible refine (HHB.out _ (HB3.out.alloc HB3.out.size (.cells #[.int .u8 (w : Int)] 5))).mono ?_); rintro e w4 ⟨v4, rfl, ho, hb⟩; have HL4 : Aside0 (Own w4 W.heap.size 5 .u8 (.slice (some ⟨w3.heap.size, 0, none⟩) 1 1) [(w : Int)]) := ⟨Own.below (⟨own_lit w3 W.heap.size 5 .u8 [(w : Int)] HB3.out.size (by simp)⟩ : Own _ W.heap.size 5 .u8 (.slice (some ⟨w3.heap.size, 0, none⟩) 1 1) [(w : Int)]) hb⟩; obtain ⟨A4, c4, rfl, hc4, hr4⟩ := ho.read; rw [HXN.out] at hc4 hr4; rw [HXN.out]; have HR4 := Aside0.mk hr4; have HB4 := Aside0.mk ((HB3.out.alloc HB3.out.size (.cells #[.int .u8 (w : Int)] 5)).trans (hb.mono (HB3.out.alloc HB3.out.size _).size)); clear ho hb hr4)
      | (at_builtin; go_loud (refine appendRead (w0 := W) W.heap.size rfl (.tmp 20) (.tmp 23) 25 5 .u8 1 rfl Tryd.underlying25 infoU8 (by decide) _ [(w : Int)] A4 N c4 X rfl rfl HL4.out HB4.out ?hb HR4.out ?hl ?_); (case hb => exact HB4.out.size); (case hl => simp; omega); intro v9 w9 ho hb hg; have HB9 := Aside0.mk hb; obtain ⟨A9, c9, rfl, hc9, hr9⟩ := ho.read; have hl9 : ([(w : Int)] ++ X).length = N + 1 := (by rw [List.length_append, HXN.out, List.length_singleton, Nat.add_comm]); rw [hl9] at hc9 hr9; rw [hl9]; have HR9 : Aside0 ((Kd.int .u8).C w9 A9 (N + 1) ((w : Int) :: X)) := ⟨hr9⟩; clear ho hb hg hr9 hl9)
      | (go_at_call 29; (with_reducible refine (HDL.out A9 c9 w9 HR9.out hc9).mono ?_); rintro e w5 ⟨v5, rfl, ho, hb⟩; obtain ⟨A5, c5, rfl, hc5, hr5⟩ := ho.read; rw [HIN.out] at hc5 hr5; rw [HIN.out]; have HR5 := Aside0.mk hr5; have HB5 := Aside0.mk (HB9.out.trans (hb.mono HB9.out.size)); clear ho hb hr5)
      | (go_at_call 15; (with_reducible refine (HRV.out _ HB5.out).mono ?_); rintro e w6 ⟨v6, rfl, ho, hb⟩; obtain ⟨A6, c6, rfl, hc6, hr6⟩ := ho.read; rw [HVN.out] at hc6 hr6; rw [HVN.out]; have HR6 := Aside0.mk hr6; have HR56 := Aside0.mk (Kd.C_below HR5.out hb); have HB6 := Aside0.mk (HB5.out.trans (hb.mono HB5.out.size)); clear ho hb hr6)
      | (go_at_call 31; (with_reducible refine (enInts_calls A6 K c6 V w6 HR6.out hc6 (by omega) HBY.out).mono ?_); rintro e w7 ⟨v7, rfl, ho, hb⟩; obtain ⟨A7, c7, rfl, hc7, hr7⟩ := ho.read; rw [HIN.out] at hc7 hr7; rw [HIN.out]; have HR7 := Aside0.mk hr7; have HR57 := Aside0.mk (Kd.C_below HR56.out hb); have HB7 := Aside0.mk (HB6.out.trans (hb.mono HB6.out.size)); clear ho hb hr7)
      | (go_at_call 30; (with_reducible refine (sameNumbers_int32_calls A5 A7 K c5 c7 (i32L V) w7 HR57.out HR7.out (by omega)).mono ?_); rintro e w8 ⟨rfl, ⟨nd, rfl⟩⟩; have HB8 := Aside0.mk (HB7.out.trans ((drewN_below w7 nd).mono HB7.out.size))))
    go_ret
    exact ⟨rfl, HB8.out⟩
  · rw [areB_false ar] at HAR
    clear ar
    go_enter Tryd.func7, Tryd.ntmps7
    go_wp2_with (first
      | (go_at_call 10; (with_reducible refine HF3.out.mono ?_); rintro e w2 ⟨rfl, hb⟩; have HB2 := Aside0.mk hb; clear hb)
      | (go_at_call 20; (with_reducible refine (HEW.out _).mono ?_); rintro e w0 ⟨rfl, rfl⟩)
      | (go_at_call 11; (with_reducible refine (HAR.out _ HB2.out).mono ?_); rintro e w3 ⟨rfl, hb⟩; have HB3 := Aside0.mk (HB2.out.trans (hb.mono HB2.out.size)); clear hb))
    go_ret
    exact ⟨rfl, HB3.out⟩
end Go.Proofs.YtoopljlbiifmfaaDoor.Lir
