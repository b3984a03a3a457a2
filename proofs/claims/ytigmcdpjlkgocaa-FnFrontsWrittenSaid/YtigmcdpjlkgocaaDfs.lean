import Derived.Test.YtigmcdpjlkgocaaDfe
import Derived.Deep.RegionHeld3
/-! Texts with shared fronts: the statements' reader. -/
namespace Go.Proofs.Ytigmcdpjlkgocaa.Dfs
open Go.Proofs.Ytigmcdpjlkgocaa.Dfe Go.Proofs.Ytigmcdpjlkgocaa.Dfe0 Go.Proofs.Ytigmcdpjlkgocaa.Dfl Go.Proofs.Ytigmcdpjlkgocaa.Dhd Go.Proofs.Ytigmcdpjlkgocaa.Dgr Go.Proofs.Ytigmcdpjlkgocaa.Dml Go.Proofs.Ytigmcdpjlkgocaa.Dby Go.Proofs.Ytigmcdpjlkgocaa.Dfp Go.Proofs.Ytigmcdpjlkgocaa.Dls Go.Proofs.Ytigmcdpjlkgocaa.Dlp Go.Proofs.Ytigmcdpjlkgocaa.Dre Go.Proofs.Ytigmcdpjlkgocaa.Dle Go.Proofs.Ytigmcdpjlkgocaa.Dib Go.Proofs.Ytigmcdpjlkgocaa.Dew Go.Proofs.Ytigmcdpjlkgocaa.Dtx Go.Proofs.Ytigmcdpjlkgocaa.Dct Go.Proofs.Ytigmcdpjlkgocaa.Dst Go.Proofs.Ytigmcdpjlkgocaa.Deo Go.Proofs.Ytigmcdpjlkgocaa.Den Go.Proofs.Ytigmcdpjlkgocaa.Deb Go.Proofs.Ytigmcdpjlkgocaa.Dds Go.Proofs.Ytigmcdpjlkgocaa.Dpu Go.Proofs.Ytigmcdpjlkgocaa.Pak Go.Proofs.Ytigmcdpjlkgocaa.Buf Go.Proofs.Ytigmcdpjlkgocaa.Fit Go.Proofs.Ytigmcdpjlkgocaa.Bit Go.Proofs.Ytigmcdpjlkgocaa.Wrd Go.Proofs.Ytigmcdpjlkgocaa.Spl Go.Proofs.Ytigmcdpjlkgocaa.Str Go.Proofs.Ytigmcdpjlkgocaa.Flt Go.Proofs.Ytigmcdpjlkgocaa.Owe Go.Proofs.Ytigmcdpjlkgocaa.Num Go.Proofs.Ytigmcdpjlkgocaa.Le Go.Proofs.Ytigmcdpjlkgocaa.Lst Go.Proofs.Ytigmcdpjlkgocaa.Aid Go.RowKit Go.Proofs.YtigmcdpjlkgocaaW.PrintWords Go.Proofs.YtigmcdpjlkgocaaW.PrintLast Go.Proofs.YtigmcdpjlkgocaaW.PrintMore
set_option linter.unusedVariables false
set_option linter.unusedSimpArgs false
/-- slices of their own that show texts -/
structure OViews (w : World) (base : Nat) (ls : List (List Int)) (zs : List (Option Addr × Nat × Nat)) : Prop where
  len : zs.length = ls.length
  at' : ∀ (j : Nat) (l : List Int), ls[j]? = some l → ∃ A c, zs[j]? = some (A, l.length, c) ∧ Own w base 5 .u8 (.slice A l.length c) l
theorem OViews.views {w : World} {base : Nat} {ls : List (List Int)} {zs : List (Option Addr × Nat × Nat)} (h : OViews w base ls zs) : Views w ls zs :=
  ⟨h.len, fun j l hj => by
    obtain ⟨A, c, h1, h2⟩ := h.at' j l hj
    obtain ⟨A', c', e, hc, hC⟩ := h2.read
    injection e with e1 e2 e3
    exact ⟨A, c, h1, by rw [e3]; exact hc, by rw [e1]; exact hC⟩⟩
theorem OViews.below {w w1 : World} {base : Nat} {ls : List (List Int)} {zs : List (Option Addr × Nat × Nat)} (h : OViews w base ls zs) (hb : Below w.heap.size w w1) : OViews w1 base ls zs :=
  ⟨h.len, fun j l hj => by obtain ⟨A, c, h1, h2⟩ := h.at' j l hj; exact ⟨A, c, h1, h2.below hb⟩⟩
theorem tneS : (5 : Nat) ≠ 23 := by decide
theorem OViews.grown {w w1 : World} {base : Nat} {ls : List (List Int)} {zs zs' : List (Option Addr × Nat × Nat)} {u : Value} (h : OViews w base ls zs) (hE : OwnE encS w base 23 u zs') (hg : w.grownBy w1 u.ownBlock) : OViews w1 base ls zs :=
  ⟨h.len, fun j l hj => by obtain ⟨A, c, h1, h2⟩ := h.at' j l hj; exact ⟨A, c, h1, h2.grown hg (own_type_ne h2.out hE.out tneS)⟩⟩
theorem OViews.snoc {w : World} {base : Nat} {ls : List (List Int)} {zs : List (Option Addr × Nat × Nat)} (h : OViews w base ls zs) {l : List Int} {A : Option Addr} {c : Nat} (ho : Own w base 5 .u8 (.slice A l.length c) l) : OViews w base (ls ++ [l]) (zs ++ [(A, l.length, c)]) := by
  refine ⟨by simp [h.len], fun j l' hj => ?_⟩
  by_cases e : j < ls.length
  · rw [List.getElem?_append_left e] at hj
    obtain ⟨A', c', h1, h2⟩ := h.at' j l' hj
    exact ⟨A', c', by rw [List.getElem?_append_left (by rw [h.len]; exact e)]; exact h1, h2⟩
  · rw [List.getElem?_append_right (by omega)] at hj
    have e0 : j - ls.length = 0 := by
      have := (List.getElem?_eq_some_iff.1 hj).1
      simp at this; omega
    rw [e0] at hj
    have : l = l' := by simpa using hj
    subst this
    exact ⟨A, c, by rw [List.getElem?_append_right (by rw [h.len]; omega), h.len, e0]; rfl, ho⟩
set_option maxHeartbeats 16000000 in
set_option maxRecDepth 100000 in
theorem readFrontsV_calls (A : Option Addr) (N c : Nat) (X : List Int) (ls : List (List Int)) (B P S : Nat) (w : World) (hC : (Kd.int .u8).C w A N X) (hX : FrStr ls X B P S) (hPB : P ≤ B) (hc : N ≤ c) (hN : N ≤ 268435455) (hk9 : ls.length ≤ 100000) (hs : sumLen ls ≤ 100000) :
    Calls Try.prog 13 #[.slice A N c] w fun e w' => ∃ v, e = .returned (.tuple #[v, .bool true]) ∧ (∀ t', ∃ A c, v = .slice A ls.length c ∧ ls.length ≤ c ∧ (Kd.slice t' (Kd.int .u8)).C w' A ls.length ls) ∧ Below w.heap.size w w' := by
  obtain ⟨ns, mid, bs, hF, hX1, hX2⟩ := hX
  obtain ⟨k, hk⟩ : ∃ k, ls.length = k := ⟨_, rfl⟩
  have HKL := Aside0.mk hk
  have HF := Aside0.mk hF
  have HX2 := Aside0.mk hX2
  have HS := Aside0.mk hs
  have HNL : Aside0 (ns.length = k) := ⟨by rw [hF.len]; exact hk⟩
  have HIL : Aside0 ((intsL ns).length = k) := ⟨by rw [intsL_length]; exact HNL.out⟩
  have HTL : Aside0 ((tailsL ls ns).length = k) := ⟨by rw [tailsL_length]; exact HNL.out⟩
  have HSL : Aside0 (sumLen (tailsL ls ns) ≤ 100000) := ⟨Nat.le_trans (tails_le hF.len) hs⟩
  have hk99 : k ≤ 100000 := by omega
  obtain ⟨R, hR⟩ : ∃ R, mid.length = R := ⟨_, rfl⟩
  have HML := Aside0.mk hR
  have hR9 : R ≤ N := by
    have h1 := hC.1
    rw [hX1.eq] at h1
    simp only [List.length_append] at h1
    omega
  have hb := fstI_bd hX1.bd
  have hvv := hX1.vals
  have HRD := Aside0.mk (readDelta32_calls A N c X B P S (intsL ns).length (fstI (intsL ns)) bs mid w hC hX1.eq hc hN hX1.hB hX1.hB1 hX1.hS hX1.hP hPB (by have := hX1.hB9; omega) (by have := HIL.out; omega) (by omega) (by omega) hX1.ok)
  rw [hvv, hR] at HRD
  have HSM := Aside0.mk (sumLen_le ls)
  obtain ⟨i8, h8⟩ := h8
  rw [HKL.out]
  clear hC hX1 hX2 hk hR hb hvv hs hk9 hF
  go_enter Try.func13, Try.ntmps13
  go_wp2_with (first
    | (go_at_call 8; go_loud (with_reducible refine HRD.out.mono ?_); rintro e w2 ⟨v2, A2, c2, rfl, ho, hc2, hr, hb⟩; obtain ⟨A1, c1, rfl, hc1, hr1⟩ := ho.read; rw [HIL.out] at hc1 hr1; rw [HIL.out]; have HR1 := Aside0.mk hr1; have HR2 := Aside0.mk (hr w2 hb); have HB2 := Aside0.mk hb; clear ho hr hb hr1)
    | (go_at_call 15; go_loud (with_reducible refine (readLengthsV_calls A2 R c2 mid (tailsL ls ns) B P S w2 HR2.out HX2.out hPB hc2 (by omega) (by rw [HTL.out]; exact hk99) HSL.out).mono ?_); rintro e w3 ⟨v3, rfl, hv, hb⟩; obtain ⟨A3, c3, rfl, hc3, hr3⟩ := hv 5; rw [HTL.out] at hc3 hr3; rw [HTL.out]; have HR3 := Aside0.mk hr3; have HR13 := Aside0.mk (Kd.C_below HR1.out hb); have HB3 := Aside0.mk (HB2.out.trans (hb.mono HB2.out.size)); clear hv hb hr3))
  have HO0 : Aside0 (OwnE encS w3 w3.heap.size 23 (.slice none 0 0) []) := ⟨OwnE.nil _ _ _ _⟩
  have HL0 : Aside0 (Own w3 w3.heap.size 5 .u8 (.slice none 0 0) (prevL ls 0)) := ⟨Own.nil _ _ _ _⟩
  have HV0 : Aside0 (OViews w3 w3.heap.size (ls.take 0) []) := ⟨⟨by simp, fun j l h => by simp at h⟩⟩
  have HB0 : Aside0 (Below w3.heap.size w3 w3) := ⟨Below.refl _ _⟩
  go_loopg [9, 10, 11, 12, 39] k (fun kq v9 v10 v11 v12 v39 w' => ∃ (j ll : Nat) (Al : Option Addr) (cl : Nat) (zs : List (Option Addr × Nat × Nat)), j ≤ k ∧ v39 = .int .i64 j ∧ v10 = .slice Al ll cl ∧ Aside0 ((prevL ls j).length = ll) ∧ Aside0 (Own w' w3.heap.size 5 .u8 (.slice Al ll cl) (prevL ls j)) ∧ Aside0 (OwnE encS w' w3.heap.size 23 v9 zs) ∧ Aside0 (OViews w' w3.heap.size (ls.take j) zs) ∧ Aside0 (Below w3.heap.size w3 w') ∧ Aside0 (k - j ≤ kq))
  case atStart => exact ⟨0, 0, none, 0, [], by omega, rfl, rfl, ⟨rfl⟩, HL0, HO0, HV0, HB0, ⟨by omega⟩⟩
  case round =>
    clear HO0 HL0 HV0 HB0
    obtain ⟨j, ll, Al, cl, zs, hj, rfl, rfl, HPL, HL, HO, HV, HB, HK⟩ := hrel
    by_cases cj : j < k
    · have cjb : decide ((j : Int) < (k : Int)) = true := decide_eq_true (by omega)
      have cjn : decide (j < k) = true := decide_eq_true cj
      have hfa := HF.out.at' j (by rw [HKL.out]; exact cj)
      obtain ⟨ad, ead, x0⟩ := Kd.at_int (Kd.C_below HR13.out HB.out) (j : Int) (by omega) (by omega)
      rw [Int.toNat_natCast, rd_intsL ns j (by rw [HNL.out]; exact cj)] at x0
      obtain ⟨bd, Aj, cj', ebd, ycell, hle, hCj⟩ := at_list HR3.out j cj
      have hyb := World.block_lt_of_cell? w3 _ ycell
      have htg := tailsL_getD ls ns j (by rw [HNL.out]; exact cj)
      obtain ⟨p, hp⟩ : ∃ p, ns.getD j 0 = p := ⟨_, rfl⟩
      rw [hp] at x0 hfa htg
      obtain ⟨l, hl⟩ : ∃ l, (tailsL ls ns).getD j [] = l := ⟨_, rfl⟩
      rw [hl] at ycell hle hCj htg
      obtain ⟨d, hd⟩ : ∃ d, l.length = d := ⟨_, rfl⟩
      rw [hd] at ycell hle hCj
      have hpl : p ≤ ll := by rw [← HPL.out]; exact hfa.le1
      have hjoin := hfa.join
      rw [← htg] at hjoin
      have HJ := Aside0.mk hjoin
      obtain ⟨Al', cl2, el, hcl, hrl⟩ := HL.out.read
      rw [HPL.out] at el hcl hrl
      injection el with el1 el2 el3
      subst el1 el3
      obtain ⟨cutP, hCP⟩ := cutHi (P := Try.prog) 23 5 Try.underlying23 h8.1 Al ll cl .i64 (p : Int) p rfl hpl hcl
      have HLP := Aside0.mk (hCP (Kd.int .u8) wr _ hrl)
      have HPT : Aside0 (((prevL ls j).take p).length = p) := ⟨by rw [List.length_take, HPL.out]; omega⟩
      have hmj : (ls.getD j []).length = p + d := by
        have h1 := congrArg List.length hjoin
        rw [List.length_append, HPT.out, hd] at h1; omega
      have HMJ := Aside0.mk hmj
      have hm9 : p + d ≤ 100000 := by
        have h1 := sumLen_take ls j (by rw [HKL.out]; exact cj)
        have h2 := HSM.out (j + 1)
        have := HS.out; omega
      have HTK : Aside0 (ls.take (j + 1) = ls.take j ++ [ls.getD j []]) := ⟨by rw [List.take_succ_eq_append_getElem (by rw [HKL.out]; exact cj)]; simp [List.getD_eq_getElem?_getD, (show j < ls.length by rw [HKL.out]; exact cj)]⟩
      have HYY : Aside0 (∀ W1, Below w3.heap.size w3 W1 → W1.cell? (bd.add j) = some (.slice Aj d cj')) := ⟨fun W1 h => (h.cell hyb).trans ycell⟩
      have HCJ : Aside0 (∀ W1, Below w3.heap.size w3 W1 → (Kd.int .u8).C W1 Aj d l) := ⟨fun W1 h => Kd.C_below hCj h⟩
      have HLD := Aside0.mk hd
      have HZL : Aside0 (zs.length = j) := ⟨by rw [HV.out.len, List.length_take, HKL.out]; omega⟩
      have ywr := HYY.out wr HB.out
      have qd : decide ((p : Int) < 0) = false := decide_eq_false (by omega)
      have qd2 : decide ((ll : Int) < (p : Int)) = false := decide_eq_false (by omega)
      have qd3 : ¬ ll < p := by omega
      have b0 := World.block_lt_of_cell? wr _ x0
      have b1 := World.block_lt_of_cell? wr _ ywr
      have qi1 : (j : Int) < (k : Int) := by omega
      have qi0 : (0 : Int) ≤ (j : Int) := by omega
      have qj1 : ((j : Int) < (k : Int)) = True := eq_true (by omega)
      have qj2 : (j < k) = True := eq_true cj
      have qj0 : (0 ≤ (j : Int)) = True := eq_true (by omega)
      have HE : Aside0 (Own (wr.alloc (.cells #[] 5)) wr.heap.size 5 .u8 (.slice (some ⟨wr.heap.size, 0, none⟩) 0 0) []) := ⟨Own.empty wr wr.heap.size 5 .u8 (Nat.le_refl _)⟩
      have HEB : Aside0 (Below wr.heap.size wr (wr.alloc (.cells #[] 5))) := ⟨(Below.refl _ _).alloc (Nat.le_refl _) _⟩
      have HWW : Aside0 (∀ W1, Below wr.heap.size wr W1 → Below w3.heap.size w3 W1) := ⟨fun W1 h => HB.out.trans (h.mono HB.out.size)⟩
      clear htg hp hl hd hfa hjoin hCP hrl hmj ycell hCj hpl
      subst ead ebd
      go_wp2_with (fail)
      go_region_held3 (fun (w9 : World) => w9.cell? (bd.add j) = some (.slice Aj d cj'))
        (first
          | exact HYY.out _ (HWW.out _ HB5.out)
          | exact HYY.out _ (HWW.out _ HB4.out)
          | exact HYY.out _ (HWW.out _ (HEB.out.trans ((drewN_below _ 1).mono HEB.out.size)))
          | exact HYY.out _ (HB.out.drew))
        ((first
          | (refine appendReadStep (w0 := wr) wr.heap.size (by rfl) (.tmp 52) (.tmp 55) 23 5 .u8 1 (by rfl) Try.underlying23 infoU8 (by decide) (.slice (some ⟨wr.heap.size, 0, none⟩) 0 0) [] Al p cl ((prevL ls j).take p) (by rfl) (by rfl) ?ho ?hb ?hs ?hC ?hl ?_; (case ho => exact HE.out.drewN 1); (case hb => exact HEB.out.trans ((drewN_below _ 1).mono HEB.out.size)); (case hs => exact HEB.out.size); (case hC => exact Kd.C_below HLP.out (HEB.out.trans ((drewN_below _ 1).mono HEB.out.size))); (case hl => simp; omega); intro v4 w4 ho hb hg; rw [List.nil_append] at ho; have HO4 := Aside0.mk ho; have HB4 := Aside0.mk hb; clear ho hb hg)
          | (refine appendReadStep (w0 := wr) wr.heap.size (by rfl) (.tmp 56) (.tmp 60) 23 5 .u8 1 (by rfl) Try.underlying23 infoU8 (by decide) v4 ((prevL ls j).take p) Aj d cj' l (by rfl) (by rfl) HO4.out HB4.out HB4.out.size (HCJ.out _ (HWW.out _ HB4.out)) ?hl ?_; (case hl => rw [HPT.out]; omega); intro v5 w5 ho hb hg; rw [HJ.out] at ho; obtain ⟨A5, c5, e5, hc5, _⟩ := ho.read; rw [HMJ.out] at e5 hc5; subst e5; have HO5 := Aside0.mk ho; have HB5 := Aside0.mk hb; clear ho hb hg)
          | fail "no arm"))
      have HOL : Aside0 (Own w5 w3.heap.size 5 .u8 (.slice A5 (p + d) c5) (ls.getD j [])) := ⟨Own.lower HO5.out HB.out.size⟩
      have HT5 := Aside0.mk (HO.out.below HB5.out)
      have HV5 := Aside0.mk (HV.out.below HB5.out)
      have HBW5 := Aside0.mk (HWW.out _ HB5.out)
      clear HO HV HL ywr
      go_wp2_with (first
        | (at_builtin; go_loud (refine appendOneE (w0 := w3) encS w3.heap.size rfl (.tmp 62) (.tmp 64) 30 23 (.slice none 0 0) 24 rfl Try.underlying30 infoSl2 rfl (by decide) u9 zs (A5, p + d, c5) rfl rfl rfl HT5.out HBW5.out ?hb ?hl ?_); (case hb => exact HBW5.out.size); (case hl => rw [HZL.out]; omega); intro v6 w6 ho hb hg; have HV6 := Aside0.mk (HV5.out.grown HT5.out hg); have HL6 := Aside0.mk (HOL.out.grown hg (own_type_ne HOL.out.out HT5.out.out tneS)); have HO6 := Aside0.mk ho; have HB6 := Aside0.mk hb; clear ho hb hg))
      go_roundg (gk - 1)
      case measure => have := HK.out; omega
      case rel =>
        refine ⟨j + 1, p + d, A5, c5, zs ++ [(A5, p + d, c5)], by omega, by go_num, rfl, ⟨HMJ.out⟩, ⟨HL6.out⟩, HO6, ⟨?_⟩, HB6, ⟨by have := HK.out; omega⟩⟩
        rw [HTK.out]
        have h := HV6.out.snoc (l := ls.getD j []) (A := A5) (c := c5) (by rw [HMJ.out]; exact HL6.out)
        rw [HMJ.out] at h
        exact h
    · obtain rfl : j = k := by omega
      have cjb : decide ((j : Int) < (j : Int)) = false := decide_eq_false (by omega)
      have HTA : Aside0 (ls.take j = ls) := ⟨by rw [← HKL.out, List.take_length]⟩
      rw [HTA.out] at HV
      go_wp2_with (fail)
      go_ret2
      refine ⟨u9, rfl, fun t' => ?_, HB3.out.trans (HB.out.mono HB3.out.size)⟩
      have h := views_C HO.out HV.out.views t'
      rw [HKL.out] at h
      exact h
end Go.Proofs.Ytigmcdpjlkgocaa.Dfs
