import Derived.Test.YtigmcdpjlkgocaaDoorDby
import Derived.Test.YtigmcdpjlkgocaaDoorDfm
import Derived.Test.YtigmcdpjlkgocaaDoorFor
import Derived.Test.YtigmcdpjlkgocaaDoorDwi
/-! Differences of whatever form are read: the law. -/
namespace Go.Proofs.YtigmcdpjlkgocaaDoor.Dlr
open Go.Proofs.YtigmcdpjlkgocaaDoor.Dwi Go.Proofs.YtigmcdpjlkgocaaDoor.Dfm Go.Proofs.YtigmcdpjlkgocaaDoor.Dby Go.Proofs.YtigmcdpjlkgocaaDoor.Dbp Go.Proofs.YtigmcdpjlkgocaaDoor.Ddm Go.Proofs.YtigmcdpjlkgocaaDoor.Ddc Go.Proofs.YtigmcdpjlkgocaaDoor.Dst Go.Proofs.YtigmcdpjlkgocaaDoor.Deo Go.Proofs.YtigmcdpjlkgocaaDoor.Den Go.Proofs.YtigmcdpjlkgocaaDoor.Deb Go.Proofs.YtigmcdpjlkgocaaDoor.Dds Go.Proofs.YtigmcdpjlkgocaaDoor.Dpu Go.Proofs.YtigmcdpjlkgocaaDoor.Pak Go.Proofs.YtigmcdpjlkgocaaDoor.Buf Go.Proofs.YtigmcdpjlkgocaaDoor.Fit Go.Proofs.YtigmcdpjlkgocaaDoor.Bit Go.Proofs.YtigmcdpjlkgocaaDoor.Wrd Go.Proofs.YtigmcdpjlkgocaaDoor.Spl Go.Proofs.YtigmcdpjlkgocaaDoor.Str Go.Proofs.YtigmcdpjlkgocaaDoor.Flt Go.Proofs.YtigmcdpjlkgocaaDoor.Owe Go.Proofs.YtigmcdpjlkgocaaDoor.Num Go.Proofs.YtigmcdpjlkgocaaDoor.Le Go.Proofs.YtigmcdpjlkgocaaDoor.Lst Go.Proofs.YtigmcdpjlkgocaaDoor.Aid Go.RowKit Go.Proofs.YtigmcdpjlkgocaaDoorW.PrintWords Go.Proofs.YtigmcdpjlkgocaaDoorW.PrintLast Go.Proofs.YtigmcdpjlkgocaaDoorW.PrintMore
set_option linter.unusedVariables false
set_option linter.unusedSimpArgs false
theorem wfb64 {l : List Int} (h : ∀ x ∈ l, (Lit.int .i64 x).wf = true) : ∀ x ∈ l, -9223372036854775808 ≤ x ∧ x ≤ 9223372036854775807 := fun x hx => by
  have := wf_bd (h x hx); rw [min64, max64] at this; exact this
theorem fst_bd64 {l : List Int} (h : ∀ x ∈ l, -9223372036854775808 ≤ x ∧ x ≤ 9223372036854775807) : -9223372036854775808 ≤ fstI l ∧ fstI l ≤ 9223372036854775807 := by
  cases l with
  | nil => exact ⟨by decide, by decide⟩
  | cons x l => exact h x (List.mem_cons_self ..)
theorem isStrG64 {l : List Int} {bs : List DBlk} {B P S N : Nat} (hB : B = P * S) (hB1 : 128 ≤ B) (hB9 : B ≤ 1024) (hBm : B % 128 = 0) (hS : S % 32 = 0) (hP : 0 < P) (hN : N ≤ 100000) (hwf : ∀ x ∈ l, -9223372036854775808 ≤ x ∧ x ≤ 9223372036854775807) (hok : strOk 64 P S (N - 1) bs) : IsStr .i64 64 (hdG B P N (fstI l) ++ blksB bs) B P S N (fstI l) bs := by
  have hw := fst_bd64 hwf
  exact ⟨by rw [List.append_nil], hB, hBm, hS, hP, by omega, by omega, by omega, by rw [min64]; exact hw.1, by rw [max64]; exact hw.2, hok⟩
theorem wfb32 {l : List Int} (h : ∀ x ∈ l, (Lit.int .i32 x).wf = true) : ∀ x ∈ l, -2147483648 ≤ x ∧ x ≤ 2147483647 := fun x hx => by
  have := wf_bd (h x hx); rw [min32, max32] at this; exact this
theorem fst_bd32 {l : List Int} (h : ∀ x ∈ l, -2147483648 ≤ x ∧ x ≤ 2147483647) : -2147483648 ≤ fstI l ∧ fstI l ≤ 2147483647 := by
  cases l with
  | nil => exact ⟨by decide, by decide⟩
  | cons x l => exact h x (List.mem_cons_self ..)
theorem isStrG32 {l : List Int} {bs : List DBlk} {B P S N : Nat} (hB : B = P * S) (hB1 : 128 ≤ B) (hB9 : B ≤ 1024) (hBm : B % 128 = 0) (hS : S % 32 = 0) (hP : 0 < P) (hN : N ≤ 100000) (hwf : ∀ x ∈ l, -2147483648 ≤ x ∧ x ≤ 2147483647) (hok : strOk 32 P S (N - 1) bs) : IsStr .i32 32 (hdG B P N (fstI l) ++ blksB bs) B P S N (fstI l) bs := by
  have hw := fst_bd32 hwf
  exact ⟨by rw [List.append_nil], hB, hBm, hS, hP, by omega, by omega, by omega, by rw [min32]; exact hw.1, by rw [max32]; exact hw.2, hok⟩
theorem hdG_le (B P T : Nat) (f : Int) (hB : B ≤ 65536) (hP : P ≤ 65536) (hT : T ≤ 200000) (h0 : -9223372036854775808 ≤ f) (h1 : f ≤ 9223372036854775807) : (hdG B P T f).length ≤ 40 := by
  unfold hdG
  have a := varL_len10 B (by omega)
  have b := varL_len10 P (by omega)
  have c := varL_len10 T (by omega)
  have d := varL_len10 (zz f) (zz_lt f h0 h1)
  simp only [List.length_append]; omega
set_option maxHeartbeats 16000000 in
set_option maxRecDepth 100000 in
theorem delta64ReadLaw (A : Option Addr) (N c : Nat) (l : List Int) (b p : Int) (Am : Option Addr) (nm cm : Nat) (mr : List Int) (W : World) (hC : (Kd.int .i64).C W A N l) (hc : N ≤ c) (hwf : ∀ x ∈ l, (Lit.int .i64 x).wf = true) (hM : (Kd.int .i64).C W Am nm mr) (hcm : nm ≤ cm) :
    Calls Tryd.prog 3 #[.slice A N c, .agg #[.int .i64 b, .int .i64 p, .slice Am nm cm]] W fun e w' => e = .returned (.bool true) ∧ Below W.heap.size W w' := by
  have HLN : Aside0 (l.length = N) := ⟨hC.1⟩
  have HWF := Aside0.mk (wfb64 hwf)
  have HC := Aside0.mk hC
  have HM := Aside0.mk hM
  have hB0 : Aside0 (Below W.heap.size W (W.alloc (.cells #[.int .i64 b, .int .i64 p, .slice Am nm cm] 25))) := ⟨(Below.refl _ _).alloc (Nat.le_refl _) _⟩
  obtain ⟨x0, x1, x2⟩ := form_cells W b p Am nm cm
  have hlt0 : W.heap.size < (W.alloc (.cells #[.int .i64 b, .int .i64 p, .slice Am nm cm] 25)).heap.size := by simp
  have HXA : Aside0 (∀ W1, Below (W.alloc (.cells #[.int .i64 b, .int .i64 p, .slice Am nm cm] 25)).heap.size (W.alloc (.cells #[.int .i64 b, .int .i64 p, .slice Am nm cm] 25)) W1 → W1.cell? ⟨W.heap.size, 0, none⟩ = some (.int .i64 b) ∧ W1.cell? ⟨W.heap.size, 1, none⟩ = some (.int .i64 p) ∧ W1.cell? ⟨W.heap.size, 2, none⟩ = some (.slice Am nm cm)) := ⟨fun W1 h => ⟨(h.cell hlt0).trans x0, (h.cell hlt0).trans x1, (h.cell hlt0).trans x2⟩⟩
  clear hC hM hwf
  by_cases h1 : 2147483647 < N
  · have q1 : decide (2147483647 < (N : Int)) = true := decide_eq_true (by omega)
    go_enter Tryd.func3, Tryd.ntmps3
    go_wp2_with (fail)
    go_ret
    exact ⟨rfl, hB0.out⟩
  have q1 : decide (2147483647 < (N : Int)) = false := decide_eq_false (by omega)
  obtain ⟨zf, hzf⟩ : ∃ z, decide (nm ≤ 2147483647) = z := ⟨_, rfl⟩
  have HZ : Aside0 (∀ W1, Calls Tryd.prog 11 #[.agg #[.int .i64 b, .int .i64 p, .slice Am nm cm]] W1 fun e w' => e = .returned (.bool zf) ∧ Below W1.heap.size W1 w') := ⟨fun W1 => by rw [← hzf]; exact zzFits1_calls b p Am nm cm W1⟩
  have HI := Aside0.mk fun W1 h => isForm_calls b p Am nm cm mr W1 h hcm
  clear hzf
  go_enter Tryd.func3, Tryd.ntmps3
  cases zf
  · go_wp2_with (first
      | (go_at_call 11; go_loud (with_reducible refine (HZ.out _).mono ?_); rintro e w2 ⟨rfl, hb⟩; have HB2 := Aside0.mk hb; clear hb))
    go_ret
    exact ⟨rfl, hB0.out.trans (HB2.out.mono (Nat.le_of_lt hlt0))⟩
  by_cases h2 : 100000 < N
  · have q2 : decide (100000 < (N : Int)) = true := decide_eq_true (by omega)
    go_wp2_with (first
      | (go_at_call 11; go_loud (with_reducible refine (HZ.out _).mono ?_); rintro e w2 ⟨rfl, hb⟩; have HB2 := Aside0.mk hb; clear hb))
    go_ret
    exact ⟨rfl, hB0.out.trans (HB2.out.mono (Nat.le_of_lt hlt0))⟩
  have q2 : decide (100000 < (N : Int)) = false := decide_eq_false (by omega)
  have hN9 : N ≤ 100000 := by omega
  go_wp2_with (first
    | (go_at_call 11; go_loud (with_reducible refine (HZ.out _).mono ?_); rintro e w2 ⟨rfl, hb⟩; have HB2 := Aside0.mk hb; obtain ⟨y0, y1, y2⟩ := HXA.out w2 hb; clear hb))
  go_at_call 12
  refine (HI.out w2 (Kd.C_below HM.out (hB0.out.trans (HB2.out.mono (Nat.le_of_lt hlt0))))).mono ?_
  rintro e w3 ⟨vf, rfl, hf, hb⟩
  have HB3 := Aside0.mk (HB2.out.trans (hb.mono HB2.out.size))
  obtain ⟨z0, z1, z2⟩ := HXA.out w3 HB3.out
  obtain ⟨r, rfl, hr⟩ := hf.out
  clear hb hf
  cases r
  · clear hr
    go_wp2_with (fail)
    go_ret
    exact ⟨rfl, hB0.out.trans (HB3.out.mono (Nat.le_of_lt hlt0))⟩
  obtain ⟨B, P, S, eB, eP, hBq, hB1, hB9, hBm, hS, hP, hP9, hnm, hmr⟩ := hr rfl
  subst eB eP
  have HBW3 : Aside0 (Below W.heap.size W w3) := ⟨hB0.out.trans (HB3.out.mono (Nat.le_of_lt hlt0))⟩
  have HDB := Aside0.mk (deltaBytes64_calls B P S Am nm cm mr A N c l w3 (Kd.C_below HC.out HBW3.out) hc hN9 HWF.out (Kd.C_below HM.out HBW3.out) hcm hnm hmr hBq hB1 hB9 hS hP hP9)
  have HBS := Aside0.mk hBq
  have hf64 := fst_bd64 HWF.out
  have HF64 := Aside0.mk hf64
  clear hr hBq hf64
  go_wp2_with (first
    | (go_at_call 14; go_loud (with_reducible refine HDB.out.mono ?_); rintro e w4 ⟨v4, bs, rfl, ho, hok, hv, hl, hb⟩; have HIS := Aside0.mk (isStrG64 HBS.out hB1 hB9 hBm hS hP hN9 HWF.out hok); have hX9 := hdG_le B P N (fstI l) (by omega) (by omega) (by omega) HF64.out.1 HF64.out.2; have HVT := Aside0.mk hv; have HB4 := Aside0.mk (HBW3.out.trans (hb.mono HBW3.out.size)); obtain ⟨X, hX⟩ : ∃ X, hdG B P N (fstI l) ++ blksB bs = X := ⟨_, rfl⟩; have hXl : X.length ≤ 2000000 := (by rw [← hX, List.length_append]; omega); rw [hX] at ho HIS; obtain ⟨A4, c4, rfl, hc4, hr4⟩ := ho.read; have HR4 := Aside0.mk hr4; obtain ⟨XN, hXN⟩ : ∃ n, X.length = n := ⟨_, rfl⟩; rw [hXN] at hc4 HR4 hXl ⊢; clear ho hok hv hl hb hX hX9 hr4 hXN)
    | (go_at_call 13; go_loud (with_reducible refine (decodeInt64sDelta_calls A4 XN c4 X B P S N (fstI l) bs w4 HR4.out HIS.out hc4 (by omega)).mono ?_); rintro e w5 ⟨v5, rfl, ho, hb⟩; rw [HVT.out] at ho; have HB5 := Aside0.mk (HB4.out.trans (hb.mono HB4.out.size)); obtain ⟨A5, c5, rfl, hc5, hr5⟩ := ho.read; rw [HLN.out] at hc5 hr5; rw [HLN.out]; have HR5 := Aside0.mk hr5; clear ho hb hr5)
    | (go_at_call 15; go_loud (with_reducible refine (sameNumbers_int64_calls A5 A N c5 c l w5 HR5.out (Kd.C_below HC.out HB5.out) (by omega)).mono ?_); rintro e w6 ⟨rfl, ⟨nd, rfl⟩⟩; have HB6 := Aside0.mk (HB5.out.trans ((drewN_below w5 nd).mono HB5.out.size))))
  go_ret
  exact ⟨rfl, HB6.out⟩
set_option maxHeartbeats 4000000 in
theorem delta64Read_holds0 (A : Option Addr) (N c : Nat) (zs : List Int) (b p : Int) (Am : Option Addr) (nm cm : Nat) (mr : List Int) (W : World) (w0 : IsRow .i64 W A N c zs) (y0 : N * 8 ≤ 140737488351232) (w1 : For.IsForm (.agg #[.int .i64 b, .int .i64 p, .slice Am nm cm]) W b p Am nm cm mr) :
    Calls Tryd.prog 3 #[.slice A N c, .agg #[.int .i64 b, .int .i64 p, .slice Am nm cm]] W fun e w' => e = .returned (.bool true) ∧ Below W.heap.size W w' := by
  obtain ⟨l, hlen, hc, hC, hwf⟩ := isRow_open w0
  exact delta64ReadLaw A N c l b p Am nm cm mr W hC hc hwf w1.C w1.le
set_option maxHeartbeats 16000000 in
set_option maxRecDepth 100000 in
theorem delta32ReadLaw (A : Option Addr) (N c : Nat) (l : List Int) (b p : Int) (Am : Option Addr) (nm cm : Nat) (mr : List Int) (W : World) (hC : (Kd.int .i32).C W A N l) (hc : N ≤ c) (hwf : ∀ x ∈ l, (Lit.int .i32 x).wf = true) (hM : (Kd.int .i64).C W Am nm mr) (hcm : nm ≤ cm) :
    Calls Tryd.prog 7 #[.slice A N c, .agg #[.int .i64 b, .int .i64 p, .slice Am nm cm]] W fun e w' => e = .returned (.bool true) ∧ Below W.heap.size W w' := by
  have HLN : Aside0 (l.length = N) := ⟨hC.1⟩
  have HWF := Aside0.mk (wfb32 hwf)
  have HWI := Aside0.mk hwf
  have HC := Aside0.mk hC
  have HM := Aside0.mk hM
  have hB0 : Aside0 (Below W.heap.size W (W.alloc (.cells #[.int .i64 b, .int .i64 p, .slice Am nm cm] 25))) := ⟨(Below.refl _ _).alloc (Nat.le_refl _) _⟩
  obtain ⟨x0, x1, x2⟩ := form_cells W b p Am nm cm
  have hlt0 : W.heap.size < (W.alloc (.cells #[.int .i64 b, .int .i64 p, .slice Am nm cm] 25)).heap.size := by simp
  have HXA : Aside0 (∀ W1, Below (W.alloc (.cells #[.int .i64 b, .int .i64 p, .slice Am nm cm] 25)).heap.size (W.alloc (.cells #[.int .i64 b, .int .i64 p, .slice Am nm cm] 25)) W1 → W1.cell? ⟨W.heap.size, 0, none⟩ = some (.int .i64 b) ∧ W1.cell? ⟨W.heap.size, 1, none⟩ = some (.int .i64 p) ∧ W1.cell? ⟨W.heap.size, 2, none⟩ = some (.slice Am nm cm)) := ⟨fun W1 h => ⟨(h.cell hlt0).trans x0, (h.cell hlt0).trans x1, (h.cell hlt0).trans x2⟩⟩
  clear hC hM hwf
  by_cases h1 : 2147483647 < N
  · have q1 : decide (2147483647 < (N : Int)) = true := decide_eq_true (by omega)
    go_enter Tryd.func7, Tryd.ntmps7
    go_wp2_with (fail)
    go_ret
    exact ⟨rfl, hB0.out⟩
  have q1 : decide (2147483647 < (N : Int)) = false := decide_eq_false (by omega)
  obtain ⟨zf, hzf⟩ : ∃ z, decide (nm ≤ 2147483647) = z := ⟨_, rfl⟩
  have HZ : Aside0 (∀ W1, Calls Tryd.prog 11 #[.agg #[.int .i64 b, .int .i64 p, .slice Am nm cm]] W1 fun e w' => e = .returned (.bool zf) ∧ Below W1.heap.size W1 w') := ⟨fun W1 => by rw [← hzf]; exact zzFits1_calls b p Am nm cm W1⟩
  have HI := Aside0.mk fun W1 h => isForm_calls b p Am nm cm mr W1 h hcm
  clear hzf
  go_enter Tryd.func7, Tryd.ntmps7
  cases zf
  · go_wp2_with (first
      | (go_at_call 11; go_loud (with_reducible refine (HZ.out _).mono ?_); rintro e w2 ⟨rfl, hb⟩; have HB2 := Aside0.mk hb; clear hb))
    go_ret
    exact ⟨rfl, hB0.out.trans (HB2.out.mono (Nat.le_of_lt hlt0))⟩
  by_cases h2 : 100000 < N
  · have q2 : decide (100000 < (N : Int)) = true := decide_eq_true (by omega)
    go_wp2_with (first
      | (go_at_call 11; go_loud (with_reducible refine (HZ.out _).mono ?_); rintro e w2 ⟨rfl, hb⟩; have HB2 := Aside0.mk hb; clear hb))
    go_ret
    exact ⟨rfl, hB0.out.trans (HB2.out.mono (Nat.le_of_lt hlt0))⟩
  have q2 : decide (100000 < (N : Int)) = false := decide_eq_false (by omega)
  have hN9 : N ≤ 100000 := by omega
  go_wp2_with (first
    | (go_at_call 11; go_loud (with_reducible refine (HZ.out _).mono ?_); rintro e w2 ⟨rfl, hb⟩; have HB2 := Aside0.mk hb; obtain ⟨y0, y1, y2⟩ := HXA.out w2 hb; clear hb))
  go_at_call 12
  refine (HI.out w2 (Kd.C_below HM.out (hB0.out.trans (HB2.out.mono (Nat.le_of_lt hlt0))))).mono ?_
  rintro e w3 ⟨vf, rfl, hf, hb⟩
  have HB3 := Aside0.mk (HB2.out.trans (hb.mono HB2.out.size))
  obtain ⟨z0, z1, z2⟩ := HXA.out w3 HB3.out
  obtain ⟨r, rfl, hr⟩ := hf.out
  clear hb hf
  cases r
  · clear hr
    go_wp2_with (fail)
    go_ret
    exact ⟨rfl, hB0.out.trans (HB3.out.mono (Nat.le_of_lt hlt0))⟩
  obtain ⟨B, P, S, eB, eP, hBq, hB1, hB9, hBm, hS, hP, hP9, hnm, hmr⟩ := hr rfl
  subst eB eP
  have HBW3 : Aside0 (Below W.heap.size W w3) := ⟨hB0.out.trans (HB3.out.mono (Nat.le_of_lt hlt0))⟩
  have HDW := Aside0.mk fun W1 h => dlWide_calls A N c l W1 h hc hN9 HWI.out
  have HDB := Aside0.mk fun (A6 : Option Addr) (c6 : Nat) (W1 : World) (h : (Kd.int .i64).C W1 A6 N l) (hc6 : N ≤ c6) (hb1 : Below W.heap.size W W1) => deltaBytes32_calls B P S Am nm cm mr A6 N c6 l W1 h hc6 hN9 HWF.out (Kd.C_below HM.out hb1) hcm hnm hmr hBq hB1 hB9 hS hP hP9
  have HBS := Aside0.mk hBq
  have hf64 := fst_bd32 HWF.out
  have HF64 := Aside0.mk hf64
  clear hr hBq hf64
  have HB3d : Aside0 (Below (W.alloc (.cells #[.int .i64 B, .int .i64 P, .slice Am nm cm] 25)).heap.size (W.alloc (.cells #[.int .i64 B, .int .i64 P, .slice Am nm cm] 25)) w3.drew) := ⟨HB3.out.drew⟩
  have HBW3d : Aside0 (Below W.heap.size W w3.drew) := ⟨HBW3.out.drew⟩
  have HOW : ∀ w4, Below (W.alloc (.cells #[.int .i64 B, .int .i64 P, .slice Am nm cm] 25)).heap.size (W.alloc (.cells #[.int .i64 B, .int .i64 P, .slice Am nm cm] 25)) w4 → Below W.heap.size W w4 := fun w4 h => hB0.out.trans (h.mono (Nat.le_of_lt hlt0))
  go_wp2_with (fail)
  go_region_held3 (fun (w9 : World) => w9.cell? ⟨W.heap.size, 0, none⟩ = some (.int .i64 B) ∧ w9.cell? ⟨W.heap.size, 1, none⟩ = some (.int .i64 P) ∧ w9.cell? ⟨W.heap.size, 2, none⟩ = some (.slice Am nm cm))
    (first | exact HXA.out _ HB5.out | exact HXA.out _ HB4.out | exact HXA.out _ HB3x.out | exact HXA.out _ HB3d.out)
    ((first
      | (go_at_call 24; (with_reducible refine (HDW.out _ (Kd.C_below HC.out HBW3d.out)).mono ?_); rintro e w4 ⟨v4, rfl, ho, hb⟩; obtain ⟨A6, c6, rfl, hc6, hr6⟩ := ho.read; rw [HLN.out] at hc6 hr6; rw [HLN.out]; have HR6 := Aside0.mk hr6; have HB3x := Aside0.mk (HB3d.out.trans (hb.mono HB3d.out.size)); clear ho hb hr6)
      | (go_at_call 14; (with_reducible refine (HDB.out A6 c6 _ HR6.out hc6 (HOW _ HB3x.out)).mono ?_); rintro e w4 ⟨v4, bs, rfl, ho, hok, hv, hl, hb⟩; have HIS := Aside0.mk (isStrG32 HBS.out hB1 hB9 hBm hS hP hN9 HWF.out hok); have hX9 := hdG_le B P N (fstI l) (by omega) (by omega) (by omega) (by have := HF64.out; omega) (by have := HF64.out; omega); have HVT := Aside0.mk hv; have HB4 := Aside0.mk (HB3x.out.trans (hb.mono HB3x.out.size)); obtain ⟨X, hX⟩ : ∃ X, hdG B P N (fstI l) ++ blksB bs = X := ⟨_, rfl⟩; have hXl : X.length ≤ 2000000 := (by rw [← hX, List.length_append]; omega); rw [hX] at ho HIS; obtain ⟨A4, c4, rfl, hc4, hr4⟩ := ho.read; have HR4 := Aside0.mk hr4; obtain ⟨XN, hXN⟩ : ∃ n, X.length = n := ⟨_, rfl⟩; rw [hXN] at hc4 HR4 hXl ⊢; clear ho hok hv hl hb hX hX9 hr4 hXN)
      | (go_at_call 23; (with_reducible refine (decodeInt32sDelta_calls A4 XN c4 X B P S N (fstI l) bs _ HR4.out HIS.out hc4 (by omega)).mono ?_); rintro e w5 ⟨v5, rfl, ho, hb⟩; rw [HVT.out] at ho; have HB5 := Aside0.mk (HB4.out.trans (hb.mono HB4.out.size)); obtain ⟨A5, c5, rfl, hc5, hr5⟩ := ho.read; rw [HLN.out] at hc5 hr5; rw [HLN.out]; have HR5 := Aside0.mk hr5; clear ho hb hr5)
      | fail "no arm"))
  go_wp2_with (first
    | (go_at_call 25; go_loud (with_reducible refine (sameNumbers_int32_calls A5 A N c5 c l _ HR5.out (Kd.C_below HC.out (HOW _ HB5.out)) (by omega)).mono ?_); rintro e w6 ⟨rfl, ⟨nd, rfl⟩⟩; have HB6 := Aside0.mk ((HOW _ HB5.out).trans ((drewN_below _ nd).mono (HOW _ HB5.out).size))))
  go_ret
  exact ⟨rfl, HB6.out⟩
set_option maxHeartbeats 4000000 in
theorem delta32Read_holds0 (A : Option Addr) (N c : Nat) (zs : List Int) (b p : Int) (Am : Option Addr) (nm cm : Nat) (mr : List Int) (W : World) (w0 : IsRow .i32 W A N c zs) (y0 : N * 4 ≤ 140737488351232) (w1 : For.IsForm (.agg #[.int .i64 b, .int .i64 p, .slice Am nm cm]) W b p Am nm cm mr) :
    Calls Tryd.prog 7 #[.slice A N c, .agg #[.int .i64 b, .int .i64 p, .slice Am nm cm]] W fun e w' => e = .returned (.bool true) ∧ Below W.heap.size W w' := by
  obtain ⟨l, hlen, hc, hC, hwf⟩ := isRow_open w0
  exact delta32ReadLaw A N c l b p Am nm cm mr W hC hc hwf w1.C w1.le
end Go.Proofs.YtigmcdpjlkgocaaDoor.Dlr
