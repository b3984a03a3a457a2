import Derived.Test.YtigmcdpjlkgocaaDoorDfd
import Derived.Test.YtigmcdpjlkgocaaDoorDfq
import Derived.Test.YtigmcdpjlkgocaaDoorFoz
/-! Texts in whatever form are read: the law. -/
namespace Go.Proofs.YtigmcdpjlkgocaaDoor.Dflr
open Go.Proofs.YtigmcdpjlkgocaaDoor.Dfm Go.Proofs.YtigmcdpjlkgocaaDoor.Dby Go.Proofs.YtigmcdpjlkgocaaDoor.Dbp Go.Proofs.YtigmcdpjlkgocaaDoor.Dfd Go.Proofs.YtigmcdpjlkgocaaDoor.Dfq Go.Proofs.YtigmcdpjlkgocaaDoor.Dfp Go.Proofs.YtigmcdpjlkgocaaDoor.Dlq Go.Proofs.YtigmcdpjlkgocaaDoor.Dls Go.Proofs.YtigmcdpjlkgocaaDoor.Dlp Go.Proofs.YtigmcdpjlkgocaaDoor.Dre Go.Proofs.YtigmcdpjlkgocaaDoor.Dle Go.Proofs.YtigmcdpjlkgocaaDoor.Dib Go.Proofs.YtigmcdpjlkgocaaDoor.Dew Go.Proofs.YtigmcdpjlkgocaaDoor.Dtx Go.Proofs.YtigmcdpjlkgocaaDoor.Dct Go.Proofs.YtigmcdpjlkgocaaDoor.Dst Go.Proofs.YtigmcdpjlkgocaaDoor.Deo Go.Proofs.YtigmcdpjlkgocaaDoor.Den Go.Proofs.YtigmcdpjlkgocaaDoor.Deb Go.Proofs.YtigmcdpjlkgocaaDoor.Dds Go.Proofs.YtigmcdpjlkgocaaDoor.Dpu Go.Proofs.YtigmcdpjlkgocaaDoor.Pak Go.Proofs.YtigmcdpjlkgocaaDoor.Buf Go.Proofs.YtigmcdpjlkgocaaDoor.Fit Go.Proofs.YtigmcdpjlkgocaaDoor.Bit Go.Proofs.YtigmcdpjlkgocaaDoor.Wrd Go.Proofs.YtigmcdpjlkgocaaDoor.Spl Go.Proofs.YtigmcdpjlkgocaaDoor.Str Go.Proofs.YtigmcdpjlkgocaaDoor.Flt Go.Proofs.YtigmcdpjlkgocaaDoor.Owe Go.Proofs.YtigmcdpjlkgocaaDoor.Num Go.Proofs.YtigmcdpjlkgocaaDoor.Le Go.Proofs.YtigmcdpjlkgocaaDoor.Lst Go.Proofs.YtigmcdpjlkgocaaDoor.Aid Go.RowKit Go.Proofs.YtigmcdpjlkgocaaDoorW.PrintWords Go.Proofs.YtigmcdpjlkgocaaDoorW.PrintLast Go.Proofs.YtigmcdpjlkgocaaDoorW.PrintMore
set_option linter.unusedVariables false
set_option linter.unusedSimpArgs false
theorem fits2_true'' {ls : List (List Int)} (h : fits2 ls = true) : ls.length ≤ 2147483647 ∧ ∀ j, j < ls.length → (ls.getD j []).length ≤ 2147483647 := by
  have := of_decide_eq_true h
  exact ⟨this.1, fun j hj => this.2 _ (getD_mem hj)⟩
set_option maxHeartbeats 16000000 in
set_option maxRecDepth 100000 in
theorem frontsReadLaw (a0 : Option Addr) (len0 cap0 : Nat) (ls : List (List Int)) (La : Option Addr) (nl cl : Nat) (lz : List Int) (b p : Int) (Am : Option Addr) (nm cm : Nat) (mr : List Int) (W : World) (w0 : IsTexts 5 W a0 len0 cap0 ls) (hLs : (Kd.int .i64).C W La nl lz) (hcl : nl ≤ cl) (hM : (Kd.int .i64).C W Am nm mr) (hcm : nm ≤ cm) :
    Calls Tryd.prog 5 #[.slice a0 len0 cap0, .slice La nl cl, .agg #[.int .i64 b, .int .i64 p, .slice Am nm cm]] W fun e w' => e = .returned (.bool true) ∧ Below W.heap.size W w' := by
  have HC := Aside0.mk w0.C
  have hc := w0.le
  have HLN : Aside0 (ls.length = len0) := ⟨w0.C.1⟩
  have HM := Aside0.mk hM
  have HLs := Aside0.mk hLs
  have hB0 : Aside0 (Below W.heap.size W (W.alloc (.cells #[.int .i64 b, .int .i64 p, .slice Am nm cm] 25))) := ⟨(Below.refl _ _).alloc (Nat.le_refl _) _⟩
  obtain ⟨x0, x1, x2⟩ := form_cells W b p Am nm cm
  have hlt0 : W.heap.size < (W.alloc (.cells #[.int .i64 b, .int .i64 p, .slice Am nm cm] 25)).heap.size := by simp
  have HXA : Aside0 (∀ W1, Below (W.alloc (.cells #[.int .i64 b, .int .i64 p, .slice Am nm cm] 25)).heap.size (W.alloc (.cells #[.int .i64 b, .int .i64 p, .slice Am nm cm] 25)) W1 → W1.cell? ⟨W.heap.size, 0, none⟩ = some (.int .i64 b) ∧ W1.cell? ⟨W.heap.size, 1, none⟩ = some (.int .i64 p) ∧ W1.cell? ⟨W.heap.size, 2, none⟩ = some (.slice Am nm cm)) := ⟨fun W1 h => ⟨(h.cell hlt0).trans x0, (h.cell hlt0).trans x1, (h.cell hlt0).trans x2⟩⟩
  have HZ := Aside0.mk fun o => zzFits2_calls 5 a0 len0 cap0 ls (W.alloc o) (Kd.C_alloc w0.C o) w0.le
  have HI := Aside0.mk fun W1 h => isForm_calls b p Am nm cm mr W1 h hcm
  clear w0 hM hLs
  by_cases hf : ¬ fits2 ls = true
  · have hf' : fits2 ls = false := by cases h : fits2 ls with | true => exact absurd h hf | false => rfl
    rw [hf'] at HZ
    go_enter Tryd.func5, Tryd.ntmps5
    go_wp2_with (first
      | (go_at_call 17; (with_reducible refine (HZ.out _).mono ?_); rintro e w1 ⟨rfl, rfl⟩))
    go_ret
    exact ⟨rfl, hB0.out⟩
  have hf := Decidable.not_not.1 hf
  rw [hf] at HZ
  have hfl := fits2_true'' hf
  rw [HLN.out] at hfl
  obtain ⟨hl1, hl2⟩ := hfl
  have HSH := Aside0.mk fun W1 h => short_calls 5 a0 len0 cap0 ls W1 h hc hl1 hl2
  obtain ⟨zf, hzf⟩ : ∃ z, decide (nm ≤ 2147483647) = z := ⟨_, rfl⟩
  have HZ1 : Aside0 (∀ W1, Calls Tryd.prog 11 #[.agg #[.int .i64 b, .int .i64 p, .slice Am nm cm]] W1 fun e w' => e = .returned (.bool zf) ∧ Below W1.heap.size W1 w') := ⟨fun W1 => by rw [← hzf]; exact zzFits1_calls b p Am nm cm W1⟩
  clear hf hl2 hzf
  by_cases hl0 : 2147483647 < nl
  · have ql : decide (2147483647 < (nl : Int)) = true := decide_eq_true (by omega)
    go_enter Tryd.func5, Tryd.ntmps5
    go_wp2_with (first
      | (go_at_call 17; (with_reducible refine (HZ.out _).mono ?_); rintro e w1 ⟨rfl, rfl⟩))
    go_ret
    exact ⟨rfl, hB0.out⟩
  have ql : decide (2147483647 < (nl : Int)) = false := decide_eq_false (by omega)
  go_enter Tryd.func5, Tryd.ntmps5
  cases zf
  · go_wp2_with (first
      | (go_at_call 17; (with_reducible refine (HZ.out _).mono ?_); rintro e w1 ⟨rfl, rfl⟩)
      | (go_at_call 11; go_loud (with_reducible refine (HZ1.out _).mono ?_); rintro e w2 ⟨rfl, hb⟩; have HB2 := Aside0.mk hb; obtain ⟨y0, y1, y2⟩ := HXA.out w2 hb; clear hb))
    go_ret
    exact ⟨rfl, hB0.out.trans (HB2.out.mono (Nat.le_of_lt hlt0))⟩
  by_cases hs : ¬ len0 + sumLen ls ≤ 100000
  · have hsb : shortB ls = false := by unfold shortB; rw [HLN.out]; exact decide_eq_false hs
    rw [hsb] at HSH
    go_wp2_with (first
      | (go_at_call 17; (with_reducible refine (HZ.out _).mono ?_); rintro e w1 ⟨rfl, rfl⟩)
      | (go_at_call 11; go_loud (with_reducible refine (HZ1.out _).mono ?_); rintro e w2 ⟨rfl, hb⟩; have HB2 := Aside0.mk hb; obtain ⟨y0, y1, y2⟩ := HXA.out w2 hb; clear hb)
      | (go_at_call 18; go_loud (with_reducible refine (HSH.out _ (Kd.C_below HC.out (hB0.out.trans (HB2.out.mono (Nat.le_of_lt hlt0))))).mono ?_); rintro e w1 ⟨rfl, rfl⟩))
    go_ret
    exact ⟨rfl, hB0.out.trans (HB2.out.mono (Nat.le_of_lt hlt0))⟩
  have hs := Decidable.not_not.1 hs
  have hsb : shortB ls = true := by unfold shortB; rw [HLN.out]; exact decide_eq_true hs
  rw [hsb] at HSH
  have HS := Aside0.mk hs
  have HS2 : Aside0 (sumLen ls ≤ 100000) := ⟨by omega⟩
  have hn9 : len0 ≤ 100000 := by omega
  clear hsb hs
  go_wp2_with (first
    | (go_at_call 17; (with_reducible refine (HZ.out _).mono ?_); rintro e w1 ⟨rfl, rfl⟩)
    | (go_at_call 11; go_loud (with_reducible refine (HZ1.out _).mono ?_); rintro e w2 ⟨rfl, hb⟩; have HB2 := Aside0.mk hb; obtain ⟨y0, y1, y2⟩ := HXA.out w2 hb; clear hb)
    | (go_at_call 18; go_loud (with_reducible refine (HSH.out _ (Kd.C_below HC.out (hB0.out.trans (HB2.out.mono (Nat.le_of_lt hlt0))))).mono ?_); rintro e w1 ⟨rfl, rfl⟩))
  go_at_call 12
  refine (HI.out w2 (Kd.C_below HM.out (hB0.out.trans (HB2.out.mono (Nat.le_of_lt hlt0))))).mono ?_
  rintro e w3 ⟨vf, rfl, hf, hb⟩
  have HB3 := Aside0.mk (HB2.out.trans (hb.mono HB2.out.size))
  obtain ⟨z0, z1, z2⟩ := HXA.out w3 HB3.out
  obtain ⟨r, rfl, hr⟩ := hf.out
  clear hb hf
  cases r
  · clear hr
    go_wp2_with (fail)
    go_ret
    exact ⟨rfl, hB0.out.trans (HB3.out.mono (Nat.le_of_lt hlt0))⟩
  by_cases hnl : ¬ nl ≤ 1000
  · have ql2 : decide (1000 < (nl : Int)) = true := decide_eq_true (by omega)
    go_wp2_with (fail)
    go_ret
    exact ⟨rfl, hB0.out.trans (HB3.out.mono (Nat.le_of_lt hlt0))⟩
  have hnl := Decidable.not_not.1 hnl
  have ql2 : decide (1000 < (nl : Int)) = false := decide_eq_false (by omega)
  obtain ⟨B, P, S, eB, eP, hBq, hB1, hB9, hBm, hS, hP, hP9, hnm, hmr⟩ := hr rfl
  subst eB eP
  have HBW3 : Aside0 (Below W.heap.size W w3) := ⟨hB0.out.trans (HB3.out.mono (Nat.le_of_lt hlt0))⟩
  have HDB := Aside0.mk (frontBytesS_calls 5 B P S Am nm cm mr a0 len0 cap0 ls La nl cl lz w3 (Kd.C_below HC.out HBW3.out) hc hn9 HS2.out (Kd.C_below HLs.out HBW3.out) hcl hnl (Kd.C_below HM.out HBW3.out) hcm hnm hmr hBq hB1 hB9 hBm hS hP hP9)
  have HMD : Aside0 (∀ (X : List Int) (B P S N : Nat), FrStr ls X B P S → N ≤ 268435455 → ∀ (p : Option Addr) (A1 : Option Addr) (c1 : Nat) (w1 : World), (Kd.int .u8).C w1 A1 N X → N ≤ c1 → Calls Tryd.prog 43 #[.pointer p, .slice none 0 0, .slice A1 N c1, .slice none 0 0] w1 fun e w' => ∃ v u, e = .returned (.tuple #[v, u, .nilIface]) ∧ Own w' w1.heap.size 5 .u8 v (joinL ls) ∧ Own w' w1.heap.size 84 .u32 u (offsL ls (len0 + 1)) ∧ Below w1.heap.size w1 w') := ⟨fun X B P S N hX hN p A1 c1 w1 h1 h2 => frDecodeS_calls p A1 N c1 len0 X ls B P S w1 h1 hX h2 hN HLN.out hn9 HS2.out⟩
  clear hr hBq
  go_wp2_with (first
    | (go_at_call 20; go_loud (with_reducible refine HDB.out.mono ?_); rintro e w4 ⟨v4, X, rfl, ho, hX, hXl, hb⟩; have HX := Aside0.mk hX; have HB2' := Aside0.mk (HBW3.out.trans (hb.mono HBW3.out.size)); obtain ⟨A2, c2, rfl, hc2, hr2⟩ := ho.read; have HR2 := Aside0.mk hr2; obtain ⟨XN, hXN⟩ : ∃ n, X.length = n := ⟨_, rfl⟩; rw [hXN] at hc2 HR2 hXl ⊢; clear ho hX hb hr2 hXN)
    | (go_at_call 19; go_loud (with_reducible refine (decodeTextsBytes_calls A2 XN c2 len0 X ls _ HR2.out (by omega) hc2 HLN.out HS.out (HMD.out X B P S XN HX.out (by omega))).mono ?_); rintro e w3 ⟨v3, rfl, ho, hb⟩; obtain ⟨A3, c3, rfl, hc3, hr3⟩ := Kd.R_reads ho; rw [HLN.out] at hc3 hr3; rw [HLN.out]; have HR3 := Aside0.mk hr3; have HB3 := Aside0.mk (HB2'.out.trans (hb.mono HB2'.out.size)); clear ho hb hr3)
    | (go_at_call 21; go_loud (with_reducible refine (sameTexts_calls 5 5 A3 a0 len0 c3 cap0 ls _ HR3.out (Kd.C_below HC.out HB3.out) (by omega)).mono ?_); rintro e w5 ⟨rfl, ⟨nd2, rfl⟩⟩; have HB5 := Aside0.mk (HB3.out.trans ((drewN_below _ nd2).mono HB3.out.size))))
  go_ret
  exact ⟨rfl, HB5.out⟩
set_option maxHeartbeats 4000000 in
theorem frontsRead_holds0 (a0 : Option Addr) (len0 cap0 : Nat) (ls : List (List Int)) (La : Option Addr) (nl cl : Nat) (zs : List Int) (b p : Int) (Am : Option Addr) (nm cm : Nat) (mr : List Int) (W : World) (w0 : IsTexts 5 W a0 len0 cap0 ls) (w2 : IsRow .i64 W La nl cl zs) (y2 : nl * 8 ≤ 140737488351232) (w1 : For.IsForm (.agg #[.int .i64 b, .int .i64 p, .slice Am nm cm]) W b p Am nm cm mr) :
    Calls Tryd.prog 5 #[.slice a0 len0 cap0, .slice La nl cl, .agg #[.int .i64 b, .int .i64 p, .slice Am nm cm]] W fun e w' => e = .returned (.bool true) ∧ Below W.heap.size W w' := by
  obtain ⟨l, hlen, hcl, hCl, hwf⟩ := isRow_open w2
  exact frontsReadLaw a0 len0 cap0 ls La nl cl l b p Am nm cm mr W w0 hCl hcl w1.C w1.le
end Go.Proofs.YtigmcdpjlkgocaaDoor.Dflr
