import Derived.Test.YtigmcdpjlkgocaaDoorDlr
import Derived.Test.YtigmcdpjlkgocaaDoorDhe
import Derived.Test.YtigmcdpjlkgocaaDoorMdc
import Derived.LaidLaws
import Derived.LaidMore
import Derived.Stop.Joined
/-! Differences that break off ahead of the first block: the law. -/
namespace Go.Proofs.YtigmcdpjlkgocaaDoor.Dcu
open Go.Proofs.YtigmcdpjlkgocaaDoor.Dhw Go.Proofs.YtigmcdpjlkgocaaDoor.Dhe Go.Proofs.YtigmcdpjlkgocaaDoor.Dlr Go.Proofs.YtigmcdpjlkgocaaDoor.Dwi Go.Proofs.YtigmcdpjlkgocaaDoor.Dfm Go.Proofs.YtigmcdpjlkgocaaDoor.Dby Go.Proofs.YtigmcdpjlkgocaaDoor.Dbp Go.Proofs.YtigmcdpjlkgocaaDoor.Ddm Go.Proofs.YtigmcdpjlkgocaaDoor.Ddc Go.Proofs.YtigmcdpjlkgocaaDoor.Dst Go.Proofs.YtigmcdpjlkgocaaDoor.Deo Go.Proofs.YtigmcdpjlkgocaaDoor.Den Go.Proofs.YtigmcdpjlkgocaaDoor.Deb Go.Proofs.YtigmcdpjlkgocaaDoor.Dds Go.Proofs.YtigmcdpjlkgocaaDoor.Dpu Go.Proofs.YtigmcdpjlkgocaaDoor.Pak Go.Proofs.YtigmcdpjlkgocaaDoor.Buf Go.Proofs.YtigmcdpjlkgocaaDoor.Fit Go.Proofs.YtigmcdpjlkgocaaDoor.Bit Go.Proofs.YtigmcdpjlkgocaaDoor.Wrd Go.Proofs.YtigmcdpjlkgocaaDoor.Spl Go.Proofs.YtigmcdpjlkgocaaDoor.Str Go.Proofs.YtigmcdpjlkgocaaDoor.Flt Go.Proofs.YtigmcdpjlkgocaaDoor.Owe Go.Proofs.YtigmcdpjlkgocaaDoor.Num Go.Proofs.YtigmcdpjlkgocaaDoor.Le Go.Proofs.YtigmcdpjlkgocaaDoor.Lst Go.Proofs.YtigmcdpjlkgocaaDoor.Aid Go.RowKit Go.Proofs.YtigmcdpjlkgocaaDoorW.PrintWords Go.Proofs.YtigmcdpjlkgocaaDoorW.PrintLast Go.Proofs.YtigmcdpjlkgocaaDoorW.PrintMore
set_option linter.unusedVariables false
set_option linter.unusedSimpArgs false
theorem gEof : Tryd.prog.globalNamed "io.ErrUnexpectedEOF" = some 3 := by kernel_rfl
theorem tEof : (Tryd.prog.globals[3]?).map (·.type) = some 60 := by kernel_rfl
theorem eof_of_laid {W : World} (h : laidMetH Tryd.prog [("io.ErrUnexpectedEOF", .iface "*errors.errorString" (.ptr (.agg [.lit (.string [117, 110, 101, 120, 112, 101, 99, 116, 101, 100, 32, 69, 79, 70])])))] W) : ∃ u v, W.cell? ⟨3, 0, none⟩ = some (.iface u v) := by
  rw [MakeChecks.laidMetH_plain _ _ _ (by kernel_rfl)] at h
  obtain ⟨ps, ⟨g0, t0, cs0, f0, p0, q0, hg0, ht0, hv0, hd0, _⟩, _⟩ := h
  obtain rfl := Option.some.inj (gEof.symm.trans hg0)
  obtain rfl := Option.some.inj (tEof.symm.trans ht0)
  obtain ⟨l0⟩ := cs0
  obtain ⟨f1, u, v, rfl, _, _⟩ := iface_of_trod Tryd.underlying60 hd0
  exact ⟨u, v, by simpa using World.var?_cell gEof hv0 0⟩
theorem mask_any (a : Int) (M : Nat) (hM : M < 4611686018427387904) : ∃ r : Nat, Go.bits .and .i64 a (M : Int) = (r : Int) ∧ r ≤ M := by
  have h : Go.bits .and .i64 a (M : Int) = IntKind.i64.wrap (((BitVec.ofInt 64 a &&& BitVec.ofInt 64 (M : Int)).toNat : Nat) : Int) := rfl
  have h2 : (BitVec.ofInt 64 a &&& BitVec.ofInt 64 (M : Int)).toNat ≤ M := by
    rw [BitVec.toNat_and]
    refine Nat.le_trans Nat.and_le_right ?_
    rw [BitVec.toNat_ofInt]
    omega
  refine ⟨(BitVec.ofInt 64 a &&& BitVec.ofInt 64 (M : Int)).toNat, ?_, h2⟩
  rw [h, IntWalk.i64_in _ (by omega)]
theorem hdG_pos (B P T : Nat) (f : Int) : 1 ≤ (hdG B P T f).length := by
  have h : ∀ n, 1 ≤ (varL n).length := fun n => by
    by_cases c : n < 128
    · rw [varL_lo c]; simp
    · rw [varL_hi (by omega)]; simp
  have := h B
  unfold hdG
  simp only [List.length_append]; omega
set_option maxHeartbeats 16000000 in
set_option maxRecDepth 100000 in
theorem deltaCutLaw (A : Option Addr) (N c : Nat) (l : List Int) (b p : Int) (Am : Option Addr) (nm cm : Nat) (mr : List Int) (W : World) (hC : (Kd.int .i64).C W A N l) (hc : N ≤ c) (hwf : ∀ x ∈ l, (Lit.int .i64 x).wf = true) (hM : (Kd.int .i64).C W Am nm mr) (hcm : nm ≤ cm) (x : Int) (u0 : TypeId) (e0 : Value) (hEE : W.cell? ⟨3, 0, none⟩ = some (.iface u0 e0)) :
    Calls Tryd.prog 4 #[.slice A N c, .agg #[.int .i64 b, .int .i64 p, .slice Am nm cm], .int .i64 x] W fun e w' => e = .returned (.bool true) ∧ Below W.heap.size W w' := by
  have HLN : Aside0 (l.length = N) := ⟨hC.1⟩
  have HE0 := Aside0.mk hEE
  have HEL := Aside0.mk (World.block_lt_of_cell? W _ hEE)
  clear hEE
  have HWF := Aside0.mk (wfb64 hwf)
  have HC := Aside0.mk hC
  have HM := Aside0.mk hM
  have hB0 : Aside0 (Below W.heap.size W (W.alloc (.cells #[.int .i64 b, .int .i64 p, .slice Am nm cm] 25))) := ⟨(Below.refl _ _).alloc (Nat.le_refl _) _⟩
  obtain ⟨x0, x1, x2⟩ := form_cells W b p Am nm cm
  have hlt0 : W.heap.size < (W.alloc (.cells #[.int .i64 b, .int .i64 p, .slice Am nm cm] 25)).heap.size := by simp
  have HXA : Aside0 (∀ W1, Below (W.alloc (.cells #[.int .i64 b, .int .i64 p, .slice Am nm cm] 25)).heap.size (W.alloc (.cells #[.int .i64 b, .int .i64 p, .slice Am nm cm] 25)) W1 → W1.cell? ⟨W.heap.size, 0, none⟩ = some (.int .i64 b) ∧ W1.cell? ⟨W.heap.size, 1, none⟩ = some (.int .i64 p) ∧ W1.cell? ⟨W.heap.size, 2, none⟩ = some (.slice Am nm cm)) := ⟨fun W1 h => ⟨(h.cell hlt0).trans x0, (h.cell hlt0).trans x1, (h.cell hlt0).trans x2⟩⟩
  clear hC hM hwf
  by_cases h1 : 2147483647 < N
  · have q1 : decide (2147483647 < (N : Int)) = true := decide_eq_true (by omega)
    go_enter Tryd.func4, Tryd.ntmps4
    go_wp2_with (fail)
    go_ret
    exact ⟨rfl, hB0.out⟩
  have q1 : decide (2147483647 < (N : Int)) = false := decide_eq_false (by omega)
  obtain ⟨zf, hzf⟩ : ∃ z, decide (nm ≤ 2147483647) = z := ⟨_, rfl⟩
  have HZ : Aside0 (∀ W1, Calls Tryd.prog 11 #[.agg #[.int .i64 b, .int .i64 p, .slice Am nm cm]] W1 fun e w' => e = .returned (.bool zf) ∧ Below W1.heap.size W1 w') := ⟨fun W1 => by rw [← hzf]; exact zzFits1_calls b p Am nm cm W1⟩
  have HI := Aside0.mk fun W1 h => isForm_calls b p Am nm cm mr W1 h hcm
  clear hzf
  go_enter Tryd.func4, Tryd.ntmps4
  cases zf
  · go_wp2_with (first
      | (go_at_call 11; go_loud (with_reducible refine (HZ.out _).mono ?_); rintro e w2 ⟨rfl, hb⟩; have HB2 := Aside0.mk hb; clear hb))
    go_ret
    exact ⟨rfl, hB0.out.trans (HB2.out.mono (Nat.le_of_lt hlt0))⟩
  by_cases h3 : N < 2
  · have q3 : decide ((N : Int) < 2) = true := decide_eq_true (by omega)
    go_wp2_with (first
      | (go_at_call 11; go_loud (with_reducible refine (HZ.out _).mono ?_); rintro e w2 ⟨rfl, hb⟩; have HB2 := Aside0.mk hb; clear hb))
    go_ret
    exact ⟨rfl, hB0.out.trans (HB2.out.mono (Nat.le_of_lt hlt0))⟩
  have q3 : decide ((N : Int) < 2) = false := decide_eq_false (by omega)
  by_cases h2 : 100000 < N
  · have q2 : decide (100000 < (N : Int)) = true := decide_eq_true (by omega)
    go_wp2_with (first
      | (go_at_call 11; go_loud (with_reducible refine (HZ.out _).mono ?_); rintro e w2 ⟨rfl, hb⟩; have HB2 := Aside0.mk hb; clear hb))
    go_ret
    exact ⟨rfl, hB0.out.trans (HB2.out.mono (Nat.le_of_lt hlt0))⟩
  have q2 : decide (100000 < (N : Int)) = false := decide_eq_false (by omega)
  have hN9 : N ≤ 100000 := by omega
  go_wp2_with (first
    | (go_at_call 11; go_loud (with_reducible refine (HZ.out _).mono ?_); rintro e w2 ⟨rfl, hb⟩; have HB2 := Aside0.mk hb; obtain ⟨y0, y1, y2⟩ := HXA.out w2 hb; clear hb))
  go_at_call 12
  refine (HI.out w2 (Kd.C_below HM.out (hB0.out.trans (HB2.out.mono (Nat.le_of_lt hlt0))))).mono ?_
  rintro e w3 ⟨vf, rfl, hf, hb⟩
  have HB3 := Aside0.mk (HB2.out.trans (hb.mono HB2.out.size))
  obtain ⟨z0, z1, z2⟩ := HXA.out w3 HB3.out
  obtain ⟨r, rfl, hr⟩ := hf.out
  clear hb hf
  cases r
  · clear hr
    go_wp2_with (fail)
    go_ret
    exact ⟨rfl, hB0.out.trans (HB3.out.mono (Nat.le_of_lt hlt0))⟩
  obtain ⟨B, P, S, eB, eP, hBq, hB1, hB9, hBm, hS, hP, hP9, hnm, hmr⟩ := hr rfl
  subst eB eP
  have HBW3 : Aside0 (Below W.heap.size W w3) := ⟨hB0.out.trans (HB3.out.mono (Nat.le_of_lt hlt0))⟩
  have HDB := Aside0.mk (deltaBytes64_calls B P S Am nm cm mr A N c l w3 (Kd.C_below HC.out HBW3.out) hc hN9 HWF.out (Kd.C_below HM.out HBW3.out) hcm hnm hmr hBq hB1 hB9 hS hP hP9)
  have HBS := Aside0.mk hBq
  have hf64 := fst_bd64 HWF.out
  have HF64 := Aside0.mk hf64
  clear hr hBq hf64
  obtain ⟨r, hr, hr9⟩ := mask_any x 16777215 (by decide)
  have e1 : ((16777215 : Nat) : Int) = 16777215 := rfl
  rw [e1] at hr
  obtain ⟨L, hL⟩ : ∃ L, (hdG B P N (fstI l)).length = L := ⟨_, rfl⟩
  have hL1 : 1 ≤ L := by rw [← hL]; exact hdG_pos B P N (fstI l)
  have hL9 : L ≤ 40 := by rw [← hL]; exact hdG_le B P N (fstI l) (by omega) (by omega) (by omega) HF64.out.1 HF64.out.2
  obtain ⟨k, hk⟩ : ∃ k, r % L = k := ⟨_, rfl⟩
  have hkL : k < L := by rw [← hk]; exact Nat.mod_lt _ (by omega)
  have hrt : (r : Int).tmod (L : Int) = (k : Int) := by rw [Int.tmod_eq_emod_of_nonneg (by omega), ← hk]; rfl
  have HDH := Aside0.mk fun W1 h => deltaHead_calls B P Am nm cm A N c l W1 h hc hN9 (by omega) HWF.out (by omega) (by omega)
  rw [hL] at HDH
  have HKL : Aside0 (k < (hdG B P N (fstI l)).length) := ⟨by rw [hL]; exact hkL⟩
  have HLL := Aside0.mk hL
  have hL0 : ((L : Int) == 0) = false := by simpa using (show (L : Int) ≠ 0 by omega)
  have hL0' : (L : Int) ≠ 0 := by omega
  obtain ⟨i8, h8⟩ := h8
  clear hL hk e1
  go_wp2_with (first
    | (go_at_call 14; go_loud (with_reducible refine HDB.out.mono ?_); rintro e w4 ⟨v4, bs, rfl, ho, hok, hv, hl, hb⟩; have HIS := Aside0.mk (isStrG64 HBS.out hB1 hB9 hBm hS hP hN9 HWF.out hok); have HB4 := Aside0.mk (HBW3.out.trans (hb.mono HBW3.out.size)); obtain ⟨X, hX⟩ : ∃ X, hdG B P N (fstI l) ++ blksB bs = X := ⟨_, rfl⟩; have HXE := Aside0.mk hX; have hXl : X.length ≤ 2000000 := (by rw [← hX, List.length_append, HLL.out]; omega); have hXk : L ≤ X.length := (by rw [← hX, List.length_append, HLL.out]; omega); rw [hX] at ho HIS; obtain ⟨A4, c4, rfl, hc4, hr4⟩ := ho.read; have HR4 := Aside0.mk hr4; obtain ⟨XN, hXN⟩ : ∃ n, X.length = n := ⟨_, rfl⟩; rw [hXN] at hc4 HR4 hXl hXk ⊢; obtain ⟨z40, z41, z42⟩ := HXA.out w4 (HB3.out.trans (hb.mono HB3.out.size)); have HB34 := Aside0.mk (HB3.out.trans (hb.mono HB3.out.size)); have hkc : k ≤ c4 := (by omega); obtain ⟨cutk, hCk⟩ := cutHi (P := Tryd.prog) 29 5 Tryd.underlying29 h8.1 A4 XN c4 .i64 (k : Int) k rfl (by omega) hc4; have HRk : Aside0 (∀ W1, Below w4.heap.size w4 W1 → (Kd.int .u8).C W1 A4 k (X.take k)) := ⟨fun W1 hW => hCk (Kd.int .u8) W1 _ (Kd.C_below HR4.out hW)⟩; have HHH : Aside0 (∀ A1 c1 W1, (Kd.int .u8).C W1 A1 k (X.take k) → k ≤ c1 → W1.cell? ⟨3, 0, none⟩ = some (.iface u0 e0) → Calls Tryd.prog 107 #[.slice A1 k c1] W1 fun e w' => ∃ a b t f' v, e = .returned (.tuple #[.int .i64 a, .int .i64 b, .int .i64 t, .int .i64 f', v, .iface u0 e0]) ∧ Drawn0 W1 w') := ⟨fun A1 c1 W1 g1 g2 g3 => headCut_calls A1 k c1 B P N (fstI l) (blksB bs) W1 u0 e0 g3 (by rw [HXE.out]; exact g1) HKL.out g2 (by omega) (by omega) (by omega) (by omega) HF64.out.1 HF64.out.2⟩; clear ho hok hv hl hb hX hr4 hXN hCk)
    | (go_at_call 13; (first
      | ((with_reducible refine (decodeInt64sDelta_calls A4 XN c4 X B P S N (fstI l) bs w4 HR4.out HIS.out hc4 (by omega)).mono ?_); rintro e w5 ⟨v5, rfl, ho, hb⟩; have HB5 := Aside0.mk (HB4.out.trans (hb.mono HB4.out.size)); have HB35 := Aside0.mk (HB34.out.trans (hb.mono HB34.out.size)); have HB45 := Aside0.mk hb; obtain ⟨z50, z51, z52⟩ := HXA.out w5 HB35.out; clear ho hb)
      | (go_loud (with_reducible refine (decodeInt64sCut_calls A4 k c4 (X.take k) w6 u0 e0 ((HB6.out.cell (p := ⟨3, 0, none⟩) HEL.out).trans HE0.out) (HRk.out _ HB46.out) hkc (by omega) HHH.out).mono ?_); rintro e w7 ⟨v7, rfl, hb⟩; have HB7 := Aside0.mk (HB6.out.trans (hb.mono HB6.out.size)); clear hb)))
    | (go_at_call 16; go_loud (with_reducible refine (HDH.out _ (Kd.C_below HC.out HB5.out)).mono ?_); rintro e w6 ⟨rfl, hb⟩; have HB6 := Aside0.mk (HB5.out.trans (hb.mono HB5.out.size)); have HB46 := Aside0.mk (HB45.out.trans (hb.mono HB45.out.size)); clear hb)
    | fail)
  go_ret
  exact ⟨rfl, HB7.out⟩
set_option maxHeartbeats 4000000 in
theorem deltaCut_holds0 (A : Option Addr) (N c : Nat) (zs : List Int) (b p : Int) (Am : Option Addr) (nm cm : Nat) (mr : List Int) (x : Int) (W : World) (w0 : IsRow .i64 W A N c zs) (y0 : N * 8 ≤ 140737488351232) (w1 : For.IsForm (.agg #[.int .i64 b, .int .i64 p, .slice Am nm cm]) W b p Am nm cm mr) (w2 : (Lit.int .i64 x).wf = true) (hL : laidMetH Tryd.prog [("io.ErrUnexpectedEOF", .iface "*errors.errorString" (.ptr (.agg [.lit (.string [117, 110, 101, 120, 112, 101, 99, 116, 101, 100, 32, 69, 79, 70])])))] W) :
    Calls Tryd.prog 4 #[.slice A N c, .agg #[.int .i64 b, .int .i64 p, .slice Am nm cm], .int .i64 x] W fun e w' => e = .returned (.bool true) ∧ Below W.heap.size W w' := by
  obtain ⟨l, hlen, hc, hC, hwf⟩ := isRow_open w0
  obtain ⟨u0, e0, hE⟩ := eof_of_laid hL
  exact deltaCutLaw A N c l b p Am nm cm mr W hC hc hwf w1.C w1.le x u0 e0 hE
end Go.Proofs.YtigmcdpjlkgocaaDoor.Dcu
