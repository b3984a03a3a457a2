import Derived.Test.YtigmcdpjlkgocaaDoorDfh
import Derived.Test.YtigmcdpjlkgocaaDoorDfq
/-! Texts of one length are written and read in the same way: the law. -/
namespace Go.Proofs.YtigmcdpjlkgocaaDoor.Dfx
open Go.Proofs.YtigmcdpjlkgocaaDoor.Dfh Go.Proofs.YtigmcdpjlkgocaaDoor.Dfq Go.Proofs.YtigmcdpjlkgocaaDoor.Dlq Go.Proofs.YtigmcdpjlkgocaaDoor.Dfm Go.Proofs.YtigmcdpjlkgocaaDoor.Dff Go.Proofs.YtigmcdpjlkgocaaDoor.Dfg Go.Proofs.YtigmcdpjlkgocaaDoor.Dfs Go.Proofs.YtigmcdpjlkgocaaDoor.Dfe0 Go.Proofs.YtigmcdpjlkgocaaDoor.Dfl Go.Proofs.YtigmcdpjlkgocaaDoor.Dhd Go.Proofs.YtigmcdpjlkgocaaDoor.Dgr Go.Proofs.YtigmcdpjlkgocaaDoor.Dml Go.Proofs.YtigmcdpjlkgocaaDoor.Dby Go.Proofs.YtigmcdpjlkgocaaDoor.Dfp Go.Proofs.YtigmcdpjlkgocaaDoor.Dls Go.Proofs.YtigmcdpjlkgocaaDoor.Dlp Go.Proofs.YtigmcdpjlkgocaaDoor.Dre Go.Proofs.YtigmcdpjlkgocaaDoor.Dle Go.Proofs.YtigmcdpjlkgocaaDoor.Dib Go.Proofs.YtigmcdpjlkgocaaDoor.Dew Go.Proofs.YtigmcdpjlkgocaaDoor.Dtx Go.Proofs.YtigmcdpjlkgocaaDoor.Dct Go.Proofs.YtigmcdpjlkgocaaDoor.Dst Go.Proofs.YtigmcdpjlkgocaaDoor.Deo Go.Proofs.YtigmcdpjlkgocaaDoor.Den Go.Proofs.YtigmcdpjlkgocaaDoor.Deb Go.Proofs.YtigmcdpjlkgocaaDoor.Dds Go.Proofs.YtigmcdpjlkgocaaDoor.Dpu Go.Proofs.YtigmcdpjlkgocaaDoor.Pak Go.Proofs.YtigmcdpjlkgocaaDoor.Buf Go.Proofs.YtigmcdpjlkgocaaDoor.Fit Go.Proofs.YtigmcdpjlkgocaaDoor.Bit Go.Proofs.YtigmcdpjlkgocaaDoor.Wrd Go.Proofs.YtigmcdpjlkgocaaDoor.Spl Go.Proofs.YtigmcdpjlkgocaaDoor.Str Go.Proofs.YtigmcdpjlkgocaaDoor.Flt Go.Proofs.YtigmcdpjlkgocaaDoor.Owe Go.Proofs.YtigmcdpjlkgocaaDoor.Num Go.Proofs.YtigmcdpjlkgocaaDoor.Le Go.Proofs.YtigmcdpjlkgocaaDoor.Lst Go.Proofs.YtigmcdpjlkgocaaDoor.Aid Go.RowKit Go.Proofs.YtigmcdpjlkgocaaDoorW.PrintWords Go.Proofs.YtigmcdpjlkgocaaDoorW.PrintLast Go.Proofs.YtigmcdpjlkgocaaDoorW.PrintMore
set_option linter.unusedVariables false
set_option linter.unusedSimpArgs false
set_option maxHeartbeats 32000000 in
set_option maxRecDepth 200000 in
theorem frontsFixedLaw (x : Int) (A : Option Addr) (N c : Nat) (D : List Int) (La : Option Addr) (nl cl : Nat) (lz : List Int) (b p : Int) (Am : Option Addr) (nm cm : Nat) (mr : List Int) (W : World) (hD : (Kd.int .u8).C W A N D) (hc : N ≤ c) (hLs : (Kd.int .i64).C W La nl lz) (hcl : nl ≤ cl) (hM : (Kd.int .i64).C W Am nm mr) (hcm : nm ≤ cm) :
    Calls Tryd.prog 8 #[.int .i64 x, .slice A N c, .slice La nl cl, .agg #[.int .i64 b, .int .i64 p, .slice Am nm cm]] W fun e w' => e = .returned (.bool true) ∧ Below W.heap.size W w' := by
  have HC := Aside0.mk hD
  have HDN : Aside0 (D.length = N) := ⟨hD.1⟩
  have HM := Aside0.mk hM
  have HLs := Aside0.mk hLs
  have hwb := widthI_bd x 100 (by decide)
  obtain ⟨s, hs⟩ : ∃ s : Nat, widthI x 100 = (s : Int) := ⟨(widthI x 100).toNat, by omega⟩
  rw [hs] at hwb
  have hs1 : 1 ≤ s := by omega
  have hs9 : s ≤ 100 := by omega
  have HSX := Aside0.mk hs
  have hB0 : Aside0 (Below W.heap.size W (W.alloc (.cells #[.int .i64 b, .int .i64 p, .slice Am nm cm] 25))) := ⟨(Below.refl _ _).alloc (Nat.le_refl _) _⟩
  obtain ⟨x0, x1, x2⟩ := form_cells W b p Am nm cm
  have hlt0 : W.heap.size < (W.alloc (.cells #[.int .i64 b, .int .i64 p, .slice Am nm cm] 25)).heap.size := by simp
  obtain ⟨w0, hw0⟩ : ∃ w0, W.alloc (.cells #[.int .i64 b, .int .i64 p, .slice Am nm cm] 25) = w0 := ⟨_, rfl⟩
  rw [hw0] at hB0 x0 x1 x2 hlt0
  have HW0 := Aside0.mk hw0
  have HXA : Aside0 (∀ W1, Below w0.heap.size w0 W1 → W1.cell? ⟨W.heap.size, 0, none⟩ = some (.int .i64 b) ∧ W1.cell? ⟨W.heap.size, 1, none⟩ = some (.int .i64 p) ∧ W1.cell? ⟨W.heap.size, 2, none⟩ = some (.slice Am nm cm)) := ⟨fun W1 h => ⟨(h.cell hlt0).trans x0, (h.cell hlt0).trans x1, (h.cell hlt0).trans x2⟩⟩
  have HWC : Aside0 (∀ W1, Below w0.heap.size w0 W1 → Below W.heap.size W W1) := ⟨fun W1 h => hB0.out.trans (h.mono (Nat.le_of_lt hlt0))⟩
  have HI := Aside0.mk fun W1 h => isForm_calls b p Am nm cm mr W1 h hcm
  have HEW := Aside0.mk fun W1 => enWidth_calls x 100 (by decide) (by decide) W1
  rw [hs] at HEW
  clear hD hM hLs hs hwb hw0
  by_cases h1 : 2147483647 < N
  · have q1 : decide (2147483647 < (N : Int)) = true := decide_eq_true (by omega)
    go_enter Tryd.func8, Tryd.ntmps8
    go_wp2_with (fail)
    go_ret
    exact ⟨rfl, by rw [HW0.out]; exact hB0.out⟩
  have q1 : decide (2147483647 < (N : Int)) = false := decide_eq_false (by omega)
  by_cases hl0 : 2147483647 < nl
  · have ql : decide (2147483647 < (nl : Int)) = true := decide_eq_true (by omega)
    go_enter Tryd.func8, Tryd.ntmps8
    go_wp2_with (fail)
    go_ret
    exact ⟨rfl, by rw [HW0.out]; exact hB0.out⟩
  have ql : decide (2147483647 < (nl : Int)) = false := decide_eq_false (by omega)
  obtain ⟨zf, hzf⟩ : ∃ z, decide (nm ≤ 2147483647) = z := ⟨_, rfl⟩
  have HZ1 : Aside0 (∀ W1, Calls Tryd.prog 11 #[.agg #[.int .i64 b, .int .i64 p, .slice Am nm cm]] W1 fun e w' => e = .returned (.bool zf) ∧ Below W1.heap.size W1 w') := ⟨fun W1 => by rw [← hzf]; exact zzFits1_calls b p Am nm cm W1⟩
  have HSH : Aside0 (∀ W1, Below W.heap.size W W1 → Calls Tryd.prog 18 #[.slice (some ⟨W1.heap.size, 0, none⟩) 1 1] (W1.alloc (.cells #[.slice A N c] 29)) fun e w' => e = .returned (.bool (decide (1 + N ≤ 100000))) ∧ W1.alloc (.cells #[.slice A N c] 29) = w') := ⟨fun W1 h => by
    have hh := short_calls 5 (some ⟨W1.heap.size, 0, none⟩) 1 1 [D] _ (boxC (Kd.C_below HC.out h) hc 29 5) (Nat.le_refl _) (by omega) (fun j hj => (by
      obtain rfl : j = 0 := by omega
      show D.length ≤ _
      rw [HDN.out]; omega))
    have e : shortB [D] = decide (1 + N ≤ 100000) := by unfold shortB sumLen; simp [HDN.out]
    rw [e] at hh
    exact hh⟩
  clear hzf
  go_enter Tryd.func8, Tryd.ntmps8
  cases zf
  · go_wp2_with (first
      | (go_at_call 11; go_loud (with_reducible refine (HZ1.out _).mono ?_); rintro e w2 ⟨rfl, hb⟩; rw [HW0.out] at hb; have HB2 := Aside0.mk hb; have HB2s := Aside0.mk (HB2.out.alloc HB2.out.size (.cells #[.slice A N c] 29)); obtain ⟨y0, y1, y2⟩ := HXA.out _ HB2s.out; clear hb))
    go_ret
    exact ⟨rfl, HWC.out _ HB2.out⟩
  by_cases hsh : ¬ 1 + N ≤ 100000
  · have hsb : decide (1 + N ≤ 100000) = false := decide_eq_false hsh
    rw [hsb] at HSH
    go_wp2_with (first
      | (go_at_call 11; go_loud (with_reducible refine (HZ1.out _).mono ?_); rintro e w2 ⟨rfl, hb⟩; rw [HW0.out] at hb; have HB2 := Aside0.mk hb; have HB2s := Aside0.mk (HB2.out.alloc HB2.out.size (.cells #[.slice A N c] 29)); obtain ⟨y0, y1, y2⟩ := HXA.out _ HB2s.out; clear hb)
      | (go_at_call 26; go_loud (with_reducible refine (HEW.out _).mono ?_); rintro e w9 ⟨rfl, rfl⟩)
      | (go_at_call 18; go_loud (with_reducible refine (HSH.out w2 (HWC.out _ HB2.out)).mono ?_); rintro e w9 ⟨rfl, rfl⟩))
    go_ret
    exact ⟨rfl, HWC.out _ HB2s.out⟩
  have hsh := Decidable.not_not.1 hsh
  have hsb : decide (1 + N ≤ 100000) = true := decide_eq_true hsh
  rw [hsb] at HSH
  have hs0 : ((s : Int) == 0) = false := by simpa using (show (s : Int) ≠ 0 by omega)
  have hs0' : (s : Int) ≠ 0 := by omega
  have hs0n : s ≠ 0 := by omega
  by_cases hr : ¬ N % s = 0
  · obtain ⟨r, hrr⟩ : ∃ r, N % s = r := ⟨_, rfl⟩
    have hrt : (N : Int).tmod (s : Int) = (r : Int) := by rw [Int.tmod_eq_emod_of_nonneg (by omega), ← hrr]; rfl
    have hr2 : (N : Int) % (s : Int) = (r : Int) := by rw [← hrr]; rfl
    have hr3 : ((N % s : Nat) : Int) = (r : Int) := by rw [hrr]
    have hrn : ((r : Int) != 0) = true := by rw [bne_iff_ne]; omega
    have hrn2 : (r : Int) ≠ 0 := by omega
    have hrn3 : r ≠ 0 := by omega
    clear hrr hr hsb
    go_wp2_with (first
      | (go_at_call 11; go_loud (with_reducible refine (HZ1.out _).mono ?_); rintro e w2 ⟨rfl, hb⟩; rw [HW0.out] at hb; have HB2 := Aside0.mk hb; have HB2s := Aside0.mk (HB2.out.alloc HB2.out.size (.cells #[.slice A N c] 29)); obtain ⟨y0, y1, y2⟩ := HXA.out _ HB2s.out; clear hb)
      | (go_at_call 26; go_loud (with_reducible refine (HEW.out _).mono ?_); rintro e w9 ⟨rfl, rfl⟩)
      | (go_at_call 18; go_loud (with_reducible refine (HSH.out w2 (HWC.out _ HB2.out)).mono ?_); rintro e w9 ⟨rfl, rfl⟩))
    go_ret
    exact ⟨rfl, HWC.out _ HB2s.out⟩
  have hr := Decidable.not_not.1 hr
  have hrt : (N : Int).tmod (s : Int) = 0 := by rw [Int.tmod_eq_emod_of_nonneg (by omega)]; exact_mod_cast hr
  have hr2 : (N : Int) % (s : Int) = 0 := by exact_mod_cast hr
  obtain ⟨k, hNk⟩ : ∃ k, N = s * k := ⟨N / s, by have := Nat.div_add_mod N s; omega⟩
  have HNK := Aside0.mk hNk
  have hN9 : N ≤ 100000 := by omega
  have HPL : Aside0 ((partsL s D).length = k) := ⟨partsL_length s k D (by omega) (by rw [HDN.out]; exact hNk)⟩
  have HPJ : Aside0 (joinL (partsL s D) = D) := ⟨joinL_parts_all s k D (by omega) (by rw [HDN.out]; exact hNk)⟩
  have HPE : Aside0 (∀ j : Nat, j < (partsL s D).length → ((partsL s D).getD j []).length = s) := ⟨fun j hj => partsL_even s k D (by omega) (by rw [HDN.out]; exact hNk) j (by rw [HPL.out] at hj; exact hj)⟩
  have HPS : Aside0 (sumLen (partsL s D) ≤ 100000) := ⟨by rw [← joinL_length, HPJ.out, HDN.out]; exact hN9⟩
  have hk9 : k ≤ 100000 := by
    have : 1 * k ≤ s * k := Nat.mul_le_mul_right k hs1
    omega
  clear hr hNk hsh hsb
  go_wp2_with (first
    | (go_at_call 11; go_loud (with_reducible refine (HZ1.out _).mono ?_); rintro e w2 ⟨rfl, hb⟩; rw [HW0.out] at hb; have HB2 := Aside0.mk hb; have HB2s := Aside0.mk (HB2.out.alloc HB2.out.size (.cells #[.slice A N c] 29)); obtain ⟨y0, y1, y2⟩ := HXA.out _ HB2s.out; clear hb)
    | (go_at_call 26; go_loud (with_reducible refine (HEW.out _).mono ?_); rintro e w9 ⟨rfl, rfl⟩)
    | (go_at_call 18; go_loud (with_reducible refine (HSH.out w2 (HWC.out _ HB2.out)).mono ?_); rintro e w9 ⟨rfl, rfl⟩))
  go_at_call 12
  refine (HI.out _ (Kd.C_below HM.out (HWC.out _ HB2s.out))).mono ?_
  rintro e w3 ⟨vf, rfl, hf, hb⟩
  have HB3 := Aside0.mk (HB2s.out.trans (hb.mono HB2s.out.size))
  obtain ⟨z0, z1, z2⟩ := HXA.out w3 HB3.out
  obtain ⟨r, rfl, hr⟩ := hf.out
  clear hb hf
  cases r
  · clear hr
    go_wp2_with (fail)
    go_ret
    exact ⟨rfl, HWC.out _ HB3.out⟩
  by_cases hnl : ¬ nl ≤ 1000
  · have ql2 : decide (1000 < (nl : Int)) = true := decide_eq_true (by omega)
    go_wp2_with (fail)
    go_ret
    exact ⟨rfl, HWC.out _ HB3.out⟩
  have hnl := Decidable.not_not.1 hnl
  have ql2 : decide (1000 < (nl : Int)) = false := decide_eq_false (by omega)
  obtain ⟨B, P, S, eB, eP, hBq, hB1, hB9, hBm, hS, hP, hP9, hnm, hmr⟩ := hr rfl
  subst eB eP
  have HBW3 := Aside0.mk (HWC.out _ HB3.out)
  have HFB := Aside0.mk fun (A8 : Option Addr) (c8 : Nat) (W1 : World) (h : (Kd.slice 5 (Kd.int .u8)).C W1 A8 k (partsL s D)) (hc8 : k ≤ c8) (hb1 : Below W.heap.size W W1) => frontBytesS_calls 5 B P S Am nm cm mr A8 k c8 (partsL s D) La nl cl lz W1 h hc8 hk9 HPS.out (Kd.C_below HLs.out hb1) hcl hnl (Kd.C_below HM.out hb1) hcm hnm hmr hBq hB1 hB9 hBm hS hP hP9
  have HDP := Aside0.mk fun (W1 : World) (hb1 : Below W.heap.size W W1) => dlParts_calls s k A N c (partsL s D) W1 (by rw [HPJ.out]; exact Kd.C_below HC.out hb1) hc hN9 hs1 hs9 HNK.out HPL.out HPE.out
  have HEN := Aside0.mk fun (W1 : World) (hb1 : Below W.heap.size W W1) => encodeFixedBytes_calls A N c s D (fun X => FrStr (partsL s D) X 128 4 32 ∧ X.length ≤ 5000000) W1 (Kd.C_below HC.out hb1) hc (by omega) (fun p0 A1 c1 w1 h1 h2 => ffEncodeS_calls p0 A1 N c1 s k (partsL s D) w1 (by rw [HPJ.out]; exact h1) h2 hN9 hs1 hs9 HNK.out HPL.out HPE.out)
  have HDE := Aside0.mk fun (X : List Int) (XN : Nat) (hX : FrStr (partsL s D) X B P S) (hXN : XN ≤ 200000000) (A9 : Option Addr) (c9 : Nat) (W1 : World) (h : (Kd.int .u8).C W1 A9 XN X) (hc9 : XN ≤ c9) => decodeFixedBytes_calls A9 XN c9 s X D W1 h hc9 hXN (fun p0 A1 c1 w1 h1 h2 => by
    refine (ffDecodeS_calls p0 s hs1 hs9 A1 XN c1 k X (partsL s D) B P S w1 h1 hX h2 (by omega) HPL.out hk9 HPS.out).mono ?_
    rintro e w' ⟨v, e1, ho, hb⟩
    rw [HPJ.out] at ho
    exact ⟨v, e1, ho, hb⟩)
  clear hr hBq hmr
  go_wp2_with (first
    | (go_at_call 27; go_loud (with_reducible refine (HEN.out _ HBW3.out).mono ?_); rintro e w4 ⟨v4, X, rfl, ho, hx, hb⟩; obtain ⟨hX, hXl⟩ := hx; have HX4 := Aside0.mk hX; obtain ⟨A4, c4, rfl, hc4, hr4⟩ := ho.read; obtain ⟨XN, hXN⟩ : ∃ n, X.length = n := ⟨_, rfl⟩; rw [hXN] at hc4 hr4 hXl ⊢; have HR4 := Aside0.mk hr4; have HB4 := Aside0.mk (HB3.out.trans (hb.mono HB3.out.size)); clear ho hX hb hr4 hXN)
    | (go_at_call 28; go_loud (with_reducible refine (readFrontsV_calls A4 XN c4 X (partsL s D) 128 4 32 w4 HR4.out HX4.out (by omega) hc4 (by omega) (by rw [HPL.out]; exact hk9) HPS.out).mono ?_); rintro e w5 ⟨v5, rfl, hv, hb⟩; obtain ⟨A5, c5, rfl, hc5, hr5⟩ := hv 5; rw [HPL.out] at hc5 hr5; rw [HPL.out]; have HR5 := Aside0.mk hr5; have HB5 := Aside0.mk (HB4.out.trans (hb.mono HB4.out.size)); clear hv hb hr5))
  have HB5d : Aside0 (Below w0.heap.size w0 w5.drew) := ⟨HB5.out.drew⟩
  have HR5d : Aside0 (Below w5.heap.size w5 w5.drew) := ⟨(Below.refl _ _).drew⟩
  have HDP5 := Aside0.mk (HDP.out w5.drew (HWC.out _ HB5d.out))
  go_region_held3 (fun (w9 : World) => w9.cell? ⟨W.heap.size, 0, none⟩ = some (.int .i64 B) ∧ w9.cell? ⟨W.heap.size, 1, none⟩ = some (.int .i64 P) ∧ w9.cell? ⟨W.heap.size, 2, none⟩ = some (.slice Am nm cm))
    (first | exact HXA.out _ HB8.out | exact HXA.out _ HB7.out | exact HXA.out _ HB6.out | exact HXA.out _ HB5d.out)
    ((first
      | (go_at_call 30; (with_reducible refine HDP5.out.mono ?_); rintro e w6 ⟨v6, rfl, hv, hb⟩; obtain ⟨A6, c6, rfl, hc6, hr6⟩ := hv 5; have HR6 := Aside0.mk hr6; have HB6 := Aside0.mk (HB5d.out.trans (hb.mono HB5d.out.size)); have HR56 := Aside0.mk (HR5d.out.trans (hb.mono HR5d.out.size)); clear hv hb hr6)
      | (go_at_call 20; (with_reducible refine (HFB.out A6 c6 _ HR6.out hc6 (HWC.out _ HB6.out)).mono ?_); rintro e w7 ⟨v7, X7, rfl, ho, hX7, hl7, hb⟩; have HX7 := Aside0.mk hX7; obtain ⟨A7, c7, rfl, hc7, hr7⟩ := ho.read; obtain ⟨XN7, hXN7⟩ : ∃ n, X7.length = n := ⟨_, rfl⟩; rw [hXN7] at hc7 hr7 hl7; rw [hXN7]; have HR7 := Aside0.mk hr7; have HB7 := Aside0.mk (HB6.out.trans (hb.mono HB6.out.size)); have HR57 := Aside0.mk (HR56.out.trans (hb.mono HR56.out.size)); clear ho hX7 hb hr7 hXN7)
      | (go_at_call 29; (with_reducible refine (HDE.out X7 XN7 HX7.out (by omega) A7 c7 _ HR7.out hc7).mono ?_); rintro e w8 ⟨v8, rfl, ho, hb⟩; obtain ⟨A8, c8, rfl, hc8, hr8⟩ := ho.read; rw [HDN.out] at hc8 hr8; rw [HDN.out]; have HR8 := Aside0.mk hr8; have HB8 := Aside0.mk (HB7.out.trans (hb.mono HB7.out.size)); have HR58 := Aside0.mk (HR57.out.trans (hb.mono HR57.out.size)); clear ho hb hr8)
      | fail "no arm"))
  have HR59 := Aside0.mk (Kd.C_below HR5.out HR58.out)
  go_wp2_with (first
    | (go_at_call 30; go_loud (with_reducible refine (HDP.out w8 (HWC.out _ HB8.out)).mono ?_); rintro e w9 ⟨v9, rfl, hv, hb⟩; obtain ⟨A9, c9, rfl, hc9, hr9⟩ := hv 5; have HR9 := Aside0.mk hr9; have HR99 := Aside0.mk (Kd.C_below HR59.out hb); have HR89 := Aside0.mk (Kd.C_below HR8.out hb); have HB9 := Aside0.mk (HB8.out.trans (hb.mono HB8.out.size)); clear hv hb hr9)
    | (go_at_call 21; go_loud (with_reducible refine (sameTexts_calls 5 5 A5 A9 k c5 c9 (partsL s D) w9 HR99.out HR9.out (by omega)).mono ?_); rintro e w10 ⟨rfl, ⟨nd, rfl⟩⟩; have HB10 := Aside0.mk (HB9.out.trans ((drewN_below w9 nd).mono HB9.out.size)); have HR10 := Aside0.mk (Kd.C_drewN HR89.out nd))
    | (go_at_call 31; go_loud (with_reducible refine (enBytes_calls A8 A N c8 c D _ HR10.out (Kd.C_below HC.out (HWC.out _ HB10.out))).mono ?_); rintro e w11 ⟨rfl, ⟨nd2, rfl⟩⟩; have HB11 := Aside0.mk (HB10.out.trans ((drewN_below _ nd2).mono HB10.out.size)); rw [World.drewN_drewN] at HB11))
  go_ret
  exact ⟨rfl, HWC.out _ HB11.out⟩
set_option maxHeartbeats 4000000 in
theorem frontsFixed_holds0 (x : Int) (a1 : Option Addr) (len1 cap1 : Nat) (z1 : List Int) (La : Option Addr) (nl cl : Nat) (z2 : List Int) (b p : Int) (Am : Option Addr) (nm cm : Nat) (mr : List Int) (W : World) (w0 : (Lit.int .i64 x).wf = true) (w1 : IsRow .u8 W a1 len1 cap1 z1) (y1 : len1 * 1 ≤ 140737488351232) (w2 : IsRow .i64 W La nl cl z2) (y2 : nl * 8 ≤ 140737488351232) (w3 : For.IsForm (.agg #[.int .i64 b, .int .i64 p, .slice Am nm cm]) W b p Am nm cm mr) :
    Calls Tryd.prog 8 #[.int .i64 x, .slice a1 len1 cap1, .slice La nl cl, .agg #[.int .i64 b, .int .i64 p, .slice Am nm cm]] W fun e w' => e = .returned (.bool true) ∧ Below W.heap.size W w' := by
  obtain ⟨l, hlen, hc, hC, hwf⟩ := isRow_open w1
  obtain ⟨l2, hlen2, hc2, hC2, hwf2⟩ := isRow_open w2
  exact frontsFixedLaw x a1 len1 cap1 l La nl cl l2 b p Am nm cm mr W hC hc hC2 hc2 w3.C w3.le
end Go.Proofs.YtigmcdpjlkgocaaDoor.Dfx
