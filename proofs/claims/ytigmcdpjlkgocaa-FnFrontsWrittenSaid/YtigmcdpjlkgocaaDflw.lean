import Derived.Test.YtigmcdpjlkgocaaDfs
/-! Texts are written: the law. -/
namespace Go.Proofs.Ytigmcdpjlkgocaa.Dflw
open Go.Proofs.Ytigmcdpjlkgocaa.Dfs Go.Proofs.Ytigmcdpjlkgocaa.Dfe Go.Proofs.Ytigmcdpjlkgocaa.Dfp Go.Proofs.Ytigmcdpjlkgocaa.Dls Go.Proofs.Ytigmcdpjlkgocaa.Dlp Go.Proofs.Ytigmcdpjlkgocaa.Dre Go.Proofs.Ytigmcdpjlkgocaa.Dle Go.Proofs.Ytigmcdpjlkgocaa.Dib Go.Proofs.Ytigmcdpjlkgocaa.Dew Go.Proofs.Ytigmcdpjlkgocaa.Dtx Go.Proofs.Ytigmcdpjlkgocaa.Dct Go.Proofs.Ytigmcdpjlkgocaa.Dst Go.Proofs.Ytigmcdpjlkgocaa.Deo Go.Proofs.Ytigmcdpjlkgocaa.Den Go.Proofs.Ytigmcdpjlkgocaa.Deb Go.Proofs.Ytigmcdpjlkgocaa.Dds Go.Proofs.Ytigmcdpjlkgocaa.Dpu Go.Proofs.Ytigmcdpjlkgocaa.Pak Go.Proofs.Ytigmcdpjlkgocaa.Buf Go.Proofs.Ytigmcdpjlkgocaa.Fit Go.Proofs.Ytigmcdpjlkgocaa.Bit Go.Proofs.Ytigmcdpjlkgocaa.Wrd Go.Proofs.Ytigmcdpjlkgocaa.Spl Go.Proofs.Ytigmcdpjlkgocaa.Str Go.Proofs.Ytigmcdpjlkgocaa.Flt Go.Proofs.Ytigmcdpjlkgocaa.Owe Go.Proofs.Ytigmcdpjlkgocaa.Num Go.Proofs.Ytigmcdpjlkgocaa.Le Go.Proofs.Ytigmcdpjlkgocaa.Lst Go.Proofs.Ytigmcdpjlkgocaa.Aid Go.RowKit Go.Proofs.YtigmcdpjlkgocaaW.PrintWords Go.Proofs.YtigmcdpjlkgocaaW.PrintLast Go.Proofs.YtigmcdpjlkgocaaW.PrintMore
set_option linter.unusedVariables false
set_option linter.unusedSimpArgs false
set_option maxHeartbeats 8000000 in
set_option maxRecDepth 100000 in
theorem frontsWrittenLaw (a0 : Option Addr) (len0 cap0 : Nat) (ls : List (List Int)) (W : World) (w0 : IsTexts 5 W a0 len0 cap0 ls) :
    Calls Try.prog 4 #[.slice a0 len0 cap0] W fun e w' => e = .returned (.bool true) ∧ Below W.heap.size W w' := by
  have HC := Aside0.mk w0.C
  have hc := w0.le
  have HLN : Aside0 (ls.length = len0) := ⟨w0.C.1⟩
  have HZ := Aside0.mk (zzFits2_calls 5 a0 len0 cap0 ls W w0.C w0.le)
  have HBY : Aside0 (∀ l ∈ ls, bytesB l = true) := ⟨fun l hl => bytesB_of fun x hx => byt_of_wf (w0.wf l hl x hx)⟩
  clear w0
  by_cases hf : ¬ fits2 ls = true
  · have hf' : fits2 ls = false := by cases h : fits2 ls with | true => exact absurd h hf | false => rfl
    rw [hf'] at HZ
    go_enter Try.func4, Try.ntmps4
    go_wp2_with (first
      | (go_at_call 10; (with_reducible refine HZ.out.mono ?_); rintro e w1 ⟨rfl, rfl⟩))
    go_ret
    exact ⟨rfl, Below.refl _ _⟩
  have hf := Decidable.not_not.1 hf
  rw [hf] at HZ
  have hfl := fits2_true hf
  rw [HLN.out] at hfl
  obtain ⟨hl1, hl2⟩ := hfl
  have HSH := Aside0.mk (short_calls 5 a0 len0 cap0 ls W HC.out hc hl1 hl2)
  clear hf hl2
  by_cases hs : ¬ len0 + sumLen ls ≤ 100000
  · have hsb : shortB ls = false := by unfold shortB; rw [HLN.out]; exact decide_eq_false hs
    rw [hsb] at HSH
    go_enter Try.func4, Try.ntmps4
    go_wp2_with (first
      | (go_at_call 10; (with_reducible refine HZ.out.mono ?_); rintro e w1 ⟨rfl, rfl⟩)
      | (go_at_call 11; (with_reducible refine HSH.out.mono ?_); rintro e w1 ⟨rfl, rfl⟩))
    go_ret
    exact ⟨rfl, Below.refl _ _⟩
  have hs := Decidable.not_not.1 hs
  have hsb : shortB ls = true := by unfold shortB; rw [HLN.out]; exact decide_eq_true hs
  rw [hsb] at HSH
  have HS := Aside0.mk hs
  have HS2 : Aside0 (sumLen ls ≤ 100000) := ⟨by omega⟩
  have hn9 : len0 ≤ 100000 := by omega
  clear hsb hs
  have HME : Aside0 (∀ (p : Option Addr) (A1 : Option Addr) (N c1 : Nat) (B1 : Option Addr) (m1 : Nat) (w1 : World), (Kd.int .u8).C w1 A1 N (joinL ls) → N ≤ c1 → N ≤ 100000 → (Kd.int .u32).C w1 B1 (len0 + 1) (offsL ls (len0 + 1)) → len0 + 1 ≤ m1 → Calls Try.prog 27 #[.pointer p, .slice none 0 0, .slice A1 N c1, .slice B1 (len0 + 1) m1] w1 fun e w' => ∃ v X, e = .returned (.tuple #[v, .nilIface]) ∧ Own w' w1.heap.size 5 .u8 v X ∧ (fun X => FrStr ls X 128 4 32 ∧ X.length ≤ 5000000) X ∧ Below w1.heap.size w1 w') := ⟨fun p A1 N c1 B1 m1 w1 h1 h2 h3 h4 h5 => frEncodeS_calls p A1 N c1 B1 (len0 + 1) m1 len0 ls w1 h1 h2 h3 h4 h5 rfl HLN.out hn9 HBY.out⟩
  go_enter Try.func4, Try.ntmps4
  go_wp2_with (first
    | (go_at_call 10; (with_reducible refine HZ.out.mono ?_); rintro e w1 ⟨rfl, rfl⟩)
    | (go_at_call 11; (with_reducible refine HSH.out.mono ?_); rintro e w1 ⟨rfl, rfl⟩)
    | (go_at_call 12; go_loud (with_reducible refine (encodeTextsBytes_calls 5 a0 len0 cap0 ls W HC.out hc HS.out _ HME.out).mono ?_); rintro e w2 ⟨v2, X, rfl, ho, hx, hb⟩; obtain ⟨hX, hXl⟩ := hx; have HX := Aside0.mk hX; obtain ⟨A2, c2, rfl, hc2, hr2⟩ := ho.read; obtain ⟨XN, hXN⟩ : ∃ n, X.length = n := ⟨_, rfl⟩; rw [hXN] at hc2 hr2 hXl ⊢; have HR2 := Aside0.mk hr2; have HB2 := Aside0.mk hb; clear ho hX hb hr2 hXN)
    | (go_at_call 13; go_loud (with_reducible refine (readFrontsV_calls A2 XN c2 X ls 128 4 32 w2 HR2.out HX.out (by omega) hc2 (by omega) (by rw [HLN.out]; exact hn9) HS2.out).mono ?_); rintro e w3 ⟨v3, rfl, hv, hb⟩; obtain ⟨A3, c3, rfl, hc3, hr3⟩ := hv 5; rw [HLN.out] at hc3 hr3; rw [HLN.out]; have HR3 := Aside0.mk hr3; have HB3 := Aside0.mk (HB2.out.trans (hb.mono HB2.out.size)); clear hv hb hr3)
    | (go_at_call 14; go_loud (with_reducible refine (sameTexts_calls 5 5 A3 a0 len0 c3 cap0 ls _ HR3.out (Kd.C_below HC.out HB3.out) (by omega)).mono ?_); rintro e w5 ⟨rfl, ⟨nd2, rfl⟩⟩; have HB5 := Aside0.mk (HB3.out.trans ((drewN_below _ nd2).mono HB3.out.size))))
  go_ret
  exact ⟨rfl, HB5.out⟩
end Go.Proofs.Ytigmcdpjlkgocaa.Dflw
